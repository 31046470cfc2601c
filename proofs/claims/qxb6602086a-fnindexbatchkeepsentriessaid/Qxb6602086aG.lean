import Derived.Test.Qxb6602086aF
import Derived.WalkSpells
import Derived.Deep.DeepCutAuto
import Derived.Deep.CutBlock
namespace Go.Proofs.Qxb6602086a
open Go.RowKit

theorem wrap_in (x : Int) (h1 : -9223372036854775808 ≤ x) (h2 : x ≤ 9223372036854775807) : wrap64 x = x := by
  unfold wrap64; omega
theorem getD_mem {l : List Int} {k : Nat} (h : k < l.length) : l.getD k 0 ∈ l := by
  rw [getD_el _ _ _ h]; exact List.getElem_mem h
theorem getD_app {l m : List (Int × Int)} {k : Nat} (h : k < l.length) : (l ++ m).getD k (0, 0) = l.getD k (0, 0) := by
  simp [List.getD, List.getElem?_append_left h]
theorem idxB_plain (n : Nat) (zo zp : List Int) (o p : Int) (h0 : zo.length = n) (h1 : zp.length = n) (hz : ∀ z ∈ zp, z ≤ 9223372036854775807) :
    n ≤ (idxB (zo.zip zp) o p).length ∧ (idxB (zo.zip zp) o p).length ≤ n + 1 ∧ (n = 0 → (idxB (zo.zip zp) o p).length = 1) ∧ (0 < n → 0 ≤ p → p ≤ zp.getD (n - 1) 0 → (idxB (zo.zip zp) o p).length = n) ∧
    (∀ i, i < n → (idxB (zo.zip zp) o p).getD i (0, 0) = (zo.getD i 0, zp.getD i 0)) ∧ ((idxB (zo.zip zp) o p).length = n + 1 → (idxB (zo.zip zp) o p).getD n (0, 0) = (o, p)) := by
  have hl : (zo.zip zp).length = n := by simp; omega
  by_cases hn : near (zo.zip zp) p = true
  · have e : idxB (zo.zip zp) o p = zo.zip zp := by unfold idxB; rw [if_pos hn]
    have hne : ¬ n = 0 := by
      rintro rfl
      have := List.eq_nil_of_length_eq_zero hl
      rw [this] at hn; simp [near] at hn
    rw [e, hl]
    exact ⟨Nat.le_refl _, by omega, fun h => absurd h hne, fun _ _ _ => rfl, fun i hi => zip_getD _ _ _ (by omega) (by omega), fun h => by omega⟩
  · have e : idxB (zo.zip zp) o p = zo.zip zp ++ [(o, p)] := by unfold idxB; rw [if_neg hn]
    rw [e]
    refine ⟨by simp; omega, by simp; omega, fun h => by rw [List.length_append, hl, h]; rfl, fun h0' h2 h3 => ?_, fun i hi => ?_, fun _ => ?_⟩
    · exfalso
      apply hn
      have hzz := hz _ (getD_mem (l := zp) (k := n - 1) (by omega))
      unfold near
      rw [hl, zip_getD _ _ _ (by omega) (by omega)]
      have hw : wrap64 (p - zp.getD (n - 1) 0) = p - zp.getD (n - 1) 0 := wrap_in _ (by omega) (by omega)
      have : ¬ zo.zip zp = [] := by intro h; rw [h] at hl; simp at hl; omega
      refine decide_eq_true ⟨this, ?_⟩
      show wrap64 (p - zp.getD (n - 1) 0) < 65536
      rw [hw]; omega
    · rw [getD_app (by omega)]; exact zip_getD _ _ _ (by omega) (by omega)
    · rw [show n = (zo.zip zp).length from hl.symm]; simp [List.getD]

set_option maxRecDepth 1000000 in
set_option maxHeartbeats 1000000 in
theorem keepsMain (a0 a1 : Option Addr) (n c0 c1 : Nat) (o p : Int) (zo zp : List Int) (w : World) (R0 : Rd .u64 w a0 n zo) (R1 : Rd .i64 w a1 n zp) (N0 : a0 = none → n = 0) (N1 : a1 = none → n = 0) (hn : n ≤ 65536) (hz : ∀ z ∈ zp, z ≤ 9223372036854775807) :
    Calls Try.prog 5 #[.slice a0 n c0, .slice a1 n c1, .int .u64 o, .int .i64 p] w fun e w' => e = .returned (.bool true) ∧ Below w.heap.size w w' := by
  have HZ := zzK a0 a1 n c0 n c1 o p w (by unfold maxLen; omega) (by unfold maxLen; omega)
  rw [show zzKB n n = true by unfold zzKB; simp; omega] at HZ
  have q27 : ∀ (w : World) (a : Option Addr) (n c n' c' : Nat), (binOp .neq 27 (.slice a n c) (.slice none n' c')).run Try.prog w = .ok (.bool (!a.isNone)) w := fun w a n c n' c' => run_neq_slice_nil_any w _ _ a n c n' c' Try.underlying27
  have q28 : ∀ (w : World) (a : Option Addr) (n c n' c' : Nat), (binOp .neq 28 (.slice a n c) (.slice none n' c')).run Try.prog w = .ok (.bool (!a.isNone)) w := fun w a n c n' c' => run_neq_slice_nil_any w _ _ a n c n' c' Try.underlying28
  have HR0 : Hid (Rd .u64 w a0 n zo) := R0
  have HR1 : Hid (Rd .i64 w a1 n zp) := R1
  have HN0 : Hid (a0 = none → n = 0) := N0
  have HN1 : Hid (a1 = none → n = 0) := N1
  have Hz : Hid (∀ z ∈ zp, z ≤ 9223372036854775807) := hz
  clear R0 R1 N0 N1 hz
  go_enter Try.func5, Try.ntmps5
  go_upto_if 37 with (go_at_call 15; refine HZ.mono ?_; rintro e w1 ⟨rfl, rfl⟩)
  go_cut [0] (fun s wx => ∃ wn a2 c2, wn = wx ∧ s = .slice a2 n c2 ∧ Rd .u64 wn a2 n zo ∧ Below w.heap.size w wn)
  case first =>
    cases a0 with
    | none =>
      go_wp2
      go_meet
      exact ⟨_, none, _, rfl, rfl, HR0.out, Below.refl _ _⟩
    | some x =>
      obtain ⟨i0, hi, hz0, hz1, hz2⟩ := info_parts Try.info29
      go_wp2_with (at_make; refine wpList_make_full _ rfl _ _ 27 rfl w.heap.size 29 i0 (.int .u64 0) 1 Try.underlying27 hi hz0 hz1 _ _ _ _ n rfl rfl rfl rfl (by rw [hz2]; omega) (by unfold maxLen; omega) (Nat.le_refl _) ?_)
      intro w1 hown hgrow
      obtain ⟨cur, hcur, hcl, -, -, -, -, hcm⟩ := own_block hown
      have hb1 : Below w.heap.size w w1 := (Below.refl _ _).grown hgrow (Nat.le_refl _) (by intro k hk; cases hk)
      have HC : Hid (w1.heap[w.heap.size]? = some (.cells cur.toArray 29 (0, 0))) := hcur
      have HL : Hid (cur.length = n) := hcl
      have HP : Hid (0 < (iv .u64 zo).length → (some ⟨w.heap.size, 0, none⟩ : Option Addr) = some ⟨w.heap.size, 0, none⟩ ∧ ∃ ad, some x = some ad ∧ ∀ j v, (iv .u64 zo)[j]? = some v → w1.cell? (ad.add j) = some v) :=
        fun h0 => ⟨rfl, Rd_cells (HR0.out.keep hb1) (by rw [iv_len, HR0.out.1] at h0; exact h0)⟩
      clear hown hgrow hcur hcl hz0 hz1 hz2 hi
      go_wp2_with (refine wpList_copy_splice rfl (.tmp 41) (.tmp 42) 27 27 rfl 29 Try.underlying27 Try.sz29 _ _ n n n _ rfl rfl w.heap.size 0 cur 29 HC.out (iv .u64 zo) ?c1 HP.out ?c3 (iv_one _ _) w.heap.size w hb1 (Nat.le_refl _) ?_)
      case c1 => rw [iv_len, HR0.out.1] <;> exact (Nat.min_self _).symm
      case c3 => have h1 := HR0.out.1; have h2 := HL.out; rw [iv_len]; omega
      · intro w2 HC2 hb2
        clear hb1
        go_wp2
        go_meet
        exact ⟨_, some ⟨w.heap.size, 0, none⟩, n, rfl, rfl, Rd_row HC2.out HR0.out.1 HL.out, hb2⟩
  case rest =>
  obtain ⟨wx, a2, c2, rfl, rfl, R0, B1⟩ := hcut
  have HR0' : Hid (Rd .u64 wx a2 n zo) := R0
  have HR1' : Hid (Rd .i64 wx a1 n zp) := HR1.out.keep B1
  clear R0 HR1 HR0 HZ
  go_upto_if 46 with fail
  go_cut [1] (fun s wy => ∃ wn a3 c3, wn = wy ∧ s = .slice a3 n c3 ∧ Rd .i64 wn a3 n zp ∧ Below wx.heap.size wx wn)
  case first =>
    cases a1 with
    | none =>
      go_wp2
      go_meet
      exact ⟨_, none, _, rfl, rfl, HR1'.out, Below.refl _ _⟩
    | some x =>
      obtain ⟨i0, hi, hz0, hz1, hz2⟩ := info_parts Try.info2
      go_wp2_with (at_make; refine wpList_make_full _ rfl _ _ 28 rfl wx.heap.size 2 i0 (.int .i64 0) 1 Try.underlying28 hi hz0 hz1 _ _ _ _ n rfl rfl rfl rfl (by rw [hz2]; omega) (by unfold maxLen; omega) (Nat.le_refl _) ?_)
      intro w1 hown hgrow
      obtain ⟨cur, hcur, hcl, -, -, -, -, hcm⟩ := own_block hown
      have hb1 : Below wx.heap.size wx w1 := (Below.refl _ _).grown hgrow (Nat.le_refl _) (by intro k hk; cases hk)
      have HC : Hid (w1.heap[wx.heap.size]? = some (.cells cur.toArray 2 (0, 0))) := hcur
      have HL : Hid (cur.length = n) := hcl
      have HP : Hid (0 < (iv .i64 zp).length → (some ⟨wx.heap.size, 0, none⟩ : Option Addr) = some ⟨wx.heap.size, 0, none⟩ ∧ ∃ ad, some x = some ad ∧ ∀ j v, (iv .i64 zp)[j]? = some v → w1.cell? (ad.add j) = some v) :=
        fun h0 => ⟨rfl, Rd_cells (HR1'.out.keep hb1) (by rw [iv_len, HR1'.out.1] at h0; exact h0)⟩
      clear hown hgrow hcur hcl hz0 hz1 hz2 hi
      go_wp2_with (refine wpList_copy_splice rfl (.tmp 50) (.tmp 51) 28 28 rfl 2 Try.underlying28 Try.sz2 _ _ n n n _ rfl rfl wx.heap.size 0 cur 2 HC.out (iv .i64 zp) ?c1 HP.out ?c3 (iv_one _ _) wx.heap.size wx hb1 (Nat.le_refl _) ?_)
      case c1 => rw [iv_len, HR1'.out.1] <;> exact (Nat.min_self _).symm
      case c3 => have h1 := HR1'.out.1; have h2 := HL.out; rw [iv_len]; omega
      · intro w2 HC2 hb2
        clear hb1
        go_wp2
        go_meet
        exact ⟨_, some ⟨wx.heap.size, 0, none⟩, n, rfl, rfl, Rd_row HC2.out HR1'.out.1 HL.out, hb2⟩
  case rest =>
  obtain ⟨wy, a3, c3, rfl, rfl, R1, B2⟩ := hcut
  have R0 : Rd .u64 wy a2 n zo := HR0'.out.keep B2
  have B3 : Below w.heap.size w wy := chain B1 B2
  clear HR0' HR1' B1 B2 q27 q28
  go_wp2_with fail
  refine (makeIx a2 a3 n c2 c3 zo zp wy R0 R1 (by omega)).mono ?_
  rintro e w1 ⟨a', c', rfl, O, B4⟩
  go_wp2_with fail
  refine (zzbatchC _ a' n c' _ o p w1 O (by omega) B4.size).mono ?_
  rintro e w2 ⟨a4, n4, c4, rfl, O4, B5⟩
  go_wp2_with fail
  refine (lenC a4 n4 c4 w2).mono ?_
  rintro e w3 ⟨rfl, rfl⟩
  have hix := idxB_plain n zo zp o p R0.1 R1.1 Hz.out
  rw [O4.len] at hix
  obtain ⟨m1, m2, m3, m4, m5, m6⟩ := hix
  have B6 : Below w.heap.size w w2 := B3.trans ((B4.trans B5).mono B3.size)
  have R0' := R0.keep (B4.trans B5)
  have R1' := R1.keep (B4.trans B5)
  have IX := O4.ix
  have HP : Hid (∀ i, i < n → (idxB (zo.zip zp) o p).getD i (0, 0) = (zo.getD i 0, zp.getD i 0)) := m5
  have HQ : Hid (n4 = n + 1 → (idxB (zo.zip zp) o p).getD n (0, 0) = (o, p)) := m6
  obtain ⟨-, R0'⟩ := R0'
  obtain ⟨-, R1'⟩ := R1'
  clear O O4 B3 B4 B5 R0 R1 m5 m6 Hz
  generalize idxB (zo.zip zp) o p = es at IX HP HQ
  go_upto_region 20 with fail
  go_cut [72] (fun s wz => s = .bool false ∧ w2 = wz)
  case first =>
    by_cases he : n4 = n
    · subst he
      have hb : ((n4 : Int) != (n4 : Int)) = false := by simp
      go_wp2
      go_meet
      exact ⟨by go_num, rfl⟩
    · have hb : ((n4 : Int) != (n : Int)) = true := by simp; omega
      have hb2 : ((n4 : Int) != (n : Int) + 1) = false := by simp; omega
      clear he
      go_wp2
      go_meet
      exact ⟨by go_num, rfl⟩
  case rest =>
  obtain ⟨rfl, rfl⟩ := hcut
  go_upto_region 22 with fail
  go_cut [78] (fun s wz => s = .bool false ∧ w2 = wz)
  case first =>
    by_cases he : n = 0
    · have hb : ((n : Int) == 0) = true := by simp [he]
      have hb2 : ((n4 : Int) != 1) = false := by rw [m3 he]; rfl
      clear he m3
      go_wp2
      go_meet
      exact ⟨by go_num, rfl⟩
    · have hb : ((n : Int) == 0) = false := by simp; omega
      go_wp2
      go_meet
      exact ⟨by go_num, rfl⟩
  case rest =>
  obtain ⟨rfl, rfl⟩ := hcut
  go_upto_region 24 with fail
  go_cut [98] (fun s wz => s = .bool false ∧ w2 = wz)
  case first =>
    by_cases hn0 : n = 0
    · have hb : ¬ (0 : Int) < n := by omega
      clear hn0 m3 m4
      go_wp2
      go_meet
      exact ⟨by go_num, rfl⟩
    · obtain ⟨b1, f1, rfl, -, hc1⟩ := R1'.resolve_left hn0
      obtain ⟨j, hj⟩ : ∃ j, j + 1 = n := ⟨n - 1, by omega⟩
      have e1 := hc1 j (by omega)
      have hnj : (n : Int) - 1 = (j : Int) := by omega
      have hj1 : j < n := by omega
      have hpos : (0 : Int) < n := by omega
      have m4' := m4 (by omega)
      rw [show n - 1 = j by omega] at m4'
      generalize zp.getD j 0 = x at e1 m4'
      clear hc1 R0' R1' IX m4 m3 B6 HP HQ
      by_cases hp : 0 ≤ p
      · by_cases hpx : p ≤ x
        · obtain rfl := m4' hp hpx
          clear m4'
          have hb : ((n4 : Int) != (n4 : Int)) = false := by simp
          go_wp2
          go_meet
          exact ⟨by go_num, rfl⟩
        · clear m4'
          go_wp2
          go_meet
          exact ⟨by go_num, rfl⟩
      · clear m4'
        go_wp2
        go_meet
        exact ⟨by go_num, rfl⟩
  case rest =>
  obtain ⟨rfl, rfl⟩ := hcut
  clear m3 m4
  go_wp2
  go_loopw [14] (fun i wr => ∃ (k : Nat) (wn : World), k ≤ n ∧ i = .int .i64 (k : Int) ∧ wn = wr ∧ Below w2.heap.size w2 wn) (fun i _ => n - (intOf i).toNat)
  case atStart => exact ⟨0, _, Nat.zero_le _, rfl, rfl, Below.refl _ _⟩
  case round =>
    obtain ⟨k, wn, hk, rfl, rfl, hb⟩ := hrel
    by_cases hlt : k < n
    · have hlt' : (k : Int) < n := by omega
      obtain ⟨b0, f0, rfl, hb0, hc0⟩ := R0'.resolve_left (by omega)
      obtain ⟨b1, f1, rfl, hb1, hc1⟩ := R1'.resolve_left (by omega)
      obtain ⟨x, hx⟩ : ∃ x, x = zo.getD k 0 := ⟨_, rfl⟩
      obtain ⟨y, hy⟩ : ∃ y, y = zp.getD k 0 := ⟨_, rfl⟩
      have e0 := hc0 k hlt
      have e1 := hc1 k hlt
      have hel := HP.out k hlt
      rw [← hx] at e0
      rw [← hy] at e1
      rw [← hx, ← hy] at hel
      have HX : Hid (Ix wn a4 n4 es) := IX.keep hb
      clear IX HQ R0' R1' hc0 hc1 hx hy HN0 HN1
      go_wp2_with fail
      refine (atC a4 n4 c4 k es wn HX.out (by omega) (by omega) x y (by rw [hel]) (by rw [hel])).mono ?_
      rintro e wm ⟨rfl, Bm⟩
      have hbm := chain hb Bm
      have e0 := (hbm.cell (p := ⟨b0, f0 + k, none⟩) (by exact hb0)).trans e0
      have e1 := (hbm.cell (p := ⟨b1, f1 + k, none⟩) (by exact hb1)).trans e1
      have hbx : (x != x) = false := by simp
      have hby : (y != y) = false := by simp
      go_wp2
      go_roundw
      case rel => exact ⟨k + 1, _, by omega, by go_num, rfl, hbm⟩
      case measure => simp [intOf]; omega
    · obtain rfl : k = n := by omega
      have HX : Hid (Ix wn a4 n4 es) := IX.keep hb
      have B7 := chain B6 hb
      clear IX R0' R1' HP
      by_cases he : n4 = k + 1
      · have hel := HQ.out he
        have hb1 : ((n4 : Int) == (k : Int) + 1) = true := by simp [he]
        have hk1 : k < n4 := by omega
        clear he
        have hbx : (o != o) = false := by simp
        have hby : (p != p) = false := by simp
        go_wp2_with (go_at_call 14; refine (atC a4 n4 c4 k es wn HX.out hk1 (by omega) o p (by rw [hel]) (by rw [hel])).mono ?_; rintro e wm ⟨rfl, Bm⟩)
        go_wp2
        go_ret
        exact ⟨rfl, chain B7 Bm⟩
      · have hb1 : ((n4 : Int) == (k : Int) + 1) = false := by simp; omega
        go_wp2
        go_ret
        exact ⟨rfl, B7⟩
end Go.Proofs.Qxb6602086a
