import Derived.Test.Qxb6602086aD
import Derived.Deep.RegionHeld3
namespace Go.Proofs.Qxb6602086a
open Go.RowKit

/-- The slice at address 'a' of 'len' elements reads as the numbers 'zs'. -/
def Rd (k : IntKind) (w : World) (a : Option Addr) (len : Nat) (zs : List Int) : Prop :=
  zs.length = len ∧ (len = 0 ∨ ∃ b off, a = some ⟨b, off, none⟩ ∧ b < w.heap.size ∧ ∀ i, i < len → w.cell? ⟨b, off + i, none⟩ = some (.int k (zs.getD i 0)))

theorem Rd.keep {k : IntKind} {w w' : World} {a : Option Addr} {len : Nat} {zs : List Int} (h : Rd k w a len zs) (hb : Below w.heap.size w w') : Rd k w' a len zs := by
  obtain ⟨h1, h2⟩ := h
  refine ⟨h1, ?_⟩
  rcases h2 with h2 | ⟨b, off, rfl, hlt, hc⟩
  · exact .inl h2
  · exact .inr ⟨b, off, rfl, Nat.lt_of_lt_of_le hlt hb.size, fun i hi => (hb.cell (by exact hlt)).trans (hc i hi)⟩

/-- A list of numbers as cells. -/
def iv (k : IntKind) (zs : List Int) : List Value := zs.map (Value.int k)
theorem iv_len (k : IntKind) (zs : List Int) : (iv k zs).length = zs.length := by simp [iv]
theorem iv_one (k : IntKind) (zs : List Int) : ∀ u ∈ iv k zs, u.oneCell' = true := ints_oneCell k zs
theorem iv_snoc (k : IntKind) (zs : List Int) (x : Int) : iv k (zs ++ [x]) = iv k zs ++ [.int k x] := by simp [iv]


theorem set_pair (L : List (Int × Int)) (k : Nat) (e : Int × Int) (h : k < L.length) : ((pc L).set (k * 2) (.int .u64 e.1)).set (k * 2 + 1) (.int .i64 e.2) = pc (L.set k e) := by
  induction L generalizing k with
  | nil => simp at h
  | cons x r ih =>
    cases k with
    | zero => simp [pc]
    | succ k =>
      rw [show (k + 1) * 2 = k * 2 + 1 + 1 by omega]
      simp only [pc, List.set_cons_succ]
      rw [ih k (by simpa using h)]
theorem made_pairs (n : Nat) : (madeCells #[Value.int .u64 0, .int .i64 0] (n * 2)).toList = pc (List.replicate n (0, 0)) := by
  apply List.ext_getElem?
  intro i
  have hl : (pc (List.replicate n (0, 0))).length = n * 2 := by rw [pc_len]; simp
  have hs : (madeCells #[Value.int .u64 0, .int .i64 0] (n * 2)).toList.length = n * 2 := by rw [Array.length_toList]; exact size_madeCells _ _
  by_cases h : i < n * 2
  · obtain ⟨q, r, hr, rfl⟩ : ∃ q r, r < 2 ∧ i = q * 2 + r := ⟨i / 2, i % 2, by omega, by omega⟩
    have hq : q < n := by omega
    obtain ⟨p1, p2⟩ := pc_get (List.replicate n (0, 0)) q (by simpa using hq)
    have hz : (List.replicate n ((0 : Int), (0 : Int))).getD q (0, 0) = (0, 0) := by simp [List.getD, hq]
    rw [hz] at p1 p2
    match r, hr with
    | 0, _ =>
      simp only [Nat.add_zero] at h ⊢
      rw [p1]
      unfold madeCells
      simp [h]
    | 1, _ =>
      rw [p2]
      unfold madeCells
      simp [h, Nat.add_mod]
  · rw [List.getElem?_eq_none (by rw [hs]; omega), List.getElem?_eq_none (by rw [hl]; omega)]

theorem get_pair (L : List (Int × Int)) (zs : List (Int × Int)) (k : Nat) (e : Int × Int) (hk : k < L.length) (h : ∀ j, j < k → L.getD j (0, 0) = zs.getD j (0, 0)) (he : e = zs.getD k (0, 0)) : ∀ j, j < k + 1 → (L.set k e).getD j (0, 0) = zs.getD j (0, 0) := by
  intro j hj
  by_cases hjk : j = k
  · subst hjk; rw [← he]; simp [List.getD, hk]
  · have := h j (by omega)
    rw [← this]; simp [List.getD, Ne.symm hjk]
theorem getD_el {α : Type} (l : List α) (d : α) (k : Nat) (h : k < l.length) : l.getD k d = l[k] := by simp [List.getD, h]
theorem zip_getD (a b : List Int) (k : Nat) (h0 : k < a.length) (h1 : k < b.length) : (a.zip b).getD k (0, 0) = (a.getD k 0, b.getD k 0) := by
  rw [getD_el _ _ _ (by simp; omega), getD_el _ _ _ h0, getD_el _ _ _ h1, List.getElem_zip]
theorem eq_of_getD {a b : List (Int × Int)} (n : Nat) (ha : a.length = n) (hb : b.length = n) (h : ∀ j, j < n → a.getD j (0, 0) = b.getD j (0, 0)) : a = b := by
  apply List.ext_getElem (by omega)
  intro i h1 h2
  have := h i (by omega)
  rwa [getD_el _ _ _ h1, getD_el _ _ _ h2] at this

set_option maxRecDepth 100000 in
set_option maxHeartbeats 1000000 in
theorem makeIx (a0 a1 : Option Addr) (n c0 c1 : Nat) (zo zp : List Int) (w : World) (h0 : Rd .u64 w a0 n zo) (h1 : Rd .i64 w a1 n zp) (hn : n ≤ 1048576) :
    Calls Try.prog 12 #[.slice a0 n c0, .slice a1 n c1] w fun e w' => ∃ a' c', e = .returned (.slice a' n c') ∧ Oi w.heap.size a' n c' (zo.zip zp) w' ∧ Below w.heap.size w w' := by
  obtain ⟨i0, hi, hz0, hz1, hz2⟩ := info_parts Try.info39
  obtain ⟨l0, h0⟩ := h0
  obtain ⟨l1, h1⟩ := h1
  have HL : Hid (zo.length = n ∧ zp.length = n) := ⟨l0, l1⟩
  clear l0 l1
  go_enter Try.func12, Try.ntmps12
  go_wp2_with (at_make; refine wpList_make_full _ rfl _ _ 31 rfl w.heap.size 39 i0 (.agg #[.int .u64 0, .int .i64 0]) 2 Try.underlying31 hi hz0 hz1 _ _ _ _ n rfl rfl rfl rfl (by rw [hz2]; omega) (by unfold maxLen; omega) (Nat.le_refl _) ?_)
  intro w1 hown hgrow
  have hb1 : Below w.heap.size w w1 := (Below.refl _ _).grown hgrow (Nat.le_refl _) (by intro k hk; cases hk)
  have hg : ∃ L : List (Int × Int), L.length = n ∧ w1.heap[w.heap.size]? = some (.cells (pc L).toArray 39 (0, 0)) := by
    rcases hown.2 with ⟨h0, _⟩ | ⟨g', cap', cur, hv, hg, hh, hnn, hcap, hsz, htake⟩
    · cases h0
    · cases hv
      refine ⟨List.replicate n (0, 0), by simp, ?_⟩
      rw [hh, ← made_pairs]
      have : cur.toList.take (n * 2) = cur.toList := List.take_of_length_le (by simp; omega)
      rw [this] at htake
      rw [← htake]
  clear hown hgrow hz0 hz1 hz2 hi
  go_wp2
  go_loopw [6] (fun i wr => ∃ (k : Nat) (L : List (Int × Int)), k ≤ n ∧ i = .int .i64 (k : Int) ∧ L.length = n ∧ Hid (∀ j, j < k → L.getD j (0, 0) = (zo.zip zp).getD j (0, 0)) ∧ Hid (wr.heap[w.heap.size]? = some (.cells (pc L).toArray 39 (0, 0))) ∧ Below w.heap.size w wr) (fun i _ => n - (intOf i).toNat)
  case atStart =>
    obtain ⟨L, hl, hg⟩ := hg
    exact ⟨0, L, Nat.zero_le _, rfl, hl, fun j hj => absurd hj (by omega), hg, hb1⟩
  case round =>
    clear hg hb1
    obtain ⟨k, L, hk, rfl, hl, hp, hg, hb⟩ := hrel
    by_cases hlt : k < n
    · obtain ⟨b0, f0, rfl, hb0, hc0⟩ := h0.resolve_left (by omega)
      obtain ⟨b1, f1, rfl, hb1, hc1⟩ := h1.resolve_left (by omega)
      have e0 := (hb.cell (p := ⟨b0, f0 + k, none⟩) (by exact hb0)).trans (hc0 k hlt)
      have e1 := (hb.cell (p := ⟨b1, f1 + k, none⟩) (by exact hb1)).trans (hc1 k hlt)
      obtain ⟨x, hx⟩ : ∃ x, x = zo.getD k 0 := ⟨_, rfl⟩
      obtain ⟨y, hy⟩ : ∃ y, y = zp.getD k 0 := ⟨_, rfl⟩
      rw [← hx] at e0
      rw [← hy] at e1
      have hkl : k < L.length := by omega
      have hxy : Hid ((x, y) = (zo.zip zp).getD k (0, 0)) := by
        show _ = _
        have := HL.out
        rw [hx, hy]; exact (zip_getD zo zp k (by omega) (by omega)).symm
      obtain ⟨p1, p2⟩ := pc_get L k hkl
      have g0 : wr.cell? ⟨w.heap.size, k * 2, none⟩ = some (.int .u64 (L.getD k (0, 0)).1) := by rw [cell_of_row wr w.heap.size (k * 2) _ 39 (0, 0) hg.out]; simpa using p1
      have g1 : wr.cell? ⟨w.heap.size, k * 2 + 1, none⟩ = some (.int .i64 (L.getD k (0, 0)).2) := by rw [cell_of_row wr w.heap.size (k * 2 + 1) _ 39 (0, 0) hg.out]; simpa using p2
      have f0' : wr.frozen? ⟨w.heap.size, k * 2, none⟩ = false := frozen_of_row wr _ _ _ 39 hg.out
      have f1' : wr.frozen? ⟨w.heap.size, k * 2 + 1, none⟩ = false := frozen_of_row wr _ _ _ 39 hg.out
      generalize (L.getD k (0, 0)).1 = u0 at g0
      generalize (L.getD k (0, 0)).2 = u1 at g1
      have n0 : ¬ w.heap.size = b0 := by omega
      have n1 : ¬ w.heap.size = b1 := by omega
      clear hc0 hc1 h0 h1 hx hy p1 p2
      go_wp2
      go_region_held3 (fun w' => w'.cell? ⟨b0, f0 + k, none⟩ = some (.int .u64 x) ∧ w'.cell? ⟨b1, f1 + k, none⟩ = some (.int .i64 y)) (go_keep) (fail)
      have hset := set_pair L k (x, y) hkl
      have hB2 := heap_setCell_same _ w.heap.size (k * 2 + 1) _ 39 (.int .i64 y) (heap_setCell_same _ w.heap.size (k * 2) _ 39 (.int .u64 x) hg.out)
      have hG2 : Hid (((wr.setCell { block := w.heap.size, off := k * 2 } (Value.int IntKind.u64 x)).setCell { block := w.heap.size, off := k * 2 + 1 } (Value.int IntKind.i64 y)).drew.heap[w.heap.size]? = some (.cells (pc (L.set k (x, y))).toArray 39 (0, 0))) := by
        show _ = _
        rw [← hset]
        refine hB2.trans ?_
        simp
      have hb2 : Below w.heap.size w ((wr.setCell { block := w.heap.size, off := k * 2 } (Value.int IntKind.u64 x)).setCell { block := w.heap.size, off := k * 2 + 1 } (Value.int IntKind.i64 y)).drew := ((hb.setCell (Nat.le_refl _) _).setCell (Nat.le_refl _) _).drew
      have hl2 : (L.set k (x, y)).length = n := by simpa using hl
      have hp2 : Hid (∀ j, j < k + 1 → (L.set k (x, y)).getD j (0, 0) = (zo.zip zp).getD j (0, 0)) := get_pair L _ k _ hkl hp.out hxy.out
      rename_i hHeld
      clear hHeld hset hB2 hb hg g0 g1 f0' f1' hp
      generalize ((wr.setCell { block := w.heap.size, off := k * 2 } (Value.int IntKind.u64 x)).setCell { block := w.heap.size, off := k * 2 + 1 } (Value.int IntKind.i64 y)).drew = w3 at hG2 hb2 ⊢
      go_wp2
      go_roundw
      case rel => exact ⟨k + 1, _, by omega, by go_num, hl2, hp2, hG2, hb2⟩
      case measure => simp [intOf]; omega
    · obtain rfl : k = n := by omega
      go_wp2
      go_ret
      have hz := HL.out
      obtain rfl : L = zo.zip zp := eq_of_getD k hl (by simp; omega) hp.out
      refine ⟨some ⟨w.heap.size, 0, none⟩, k, rfl, ?_, hb⟩
      refine ⟨by rw [pc_len]; omega, .inr ⟨w.heap.size, k, _, rfl, Nat.le_refl _, hg.out, Nat.le_refl _, by unfold maxLen; omega, by simp [pc_len, hl], ?_⟩⟩
      rw [List.take_of_length_le (by simp [pc_len, hl])]
end Go.Proofs.Qxb6602086a
