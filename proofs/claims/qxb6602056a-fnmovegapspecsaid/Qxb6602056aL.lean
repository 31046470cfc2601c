import Derived.Test.Qxb6602056aK
namespace Go.Proofs.Qxb6602056a
open Go.RowKit

theorem St.below {p g0 len cap : Nat} {bl : Int} {B0 : Nat} {gs ge : Int} {a4 : Option Addr} {l4 c4 : Nat} {a5 : Option Addr} {l5 c5 : Nat} {zb za : List Int} {cur : List Value} {w w' : World} (h : St p g0 len cap bl B0 gs ge a4 l4 c4 a5 l5 c5 zb za cur w) (hb : Below w.heap.size w w') :
    St p g0 len cap bl B0 gs ge a4 l4 c4 a5 l5 c5 zb za cur w' := by
  have hg : w.grownBy w' none := ⟨hb.os, hb.tape, hb.output, hb.size, fun k hk _ => hb.block k hk⟩
  exact ⟨h.buf.keep hb, by rw [hb.block g0 (Array.getElem?_eq_some_iff.1 h.run).1]; exact h.run, own_keep h.bef hg (fun y hy e => by cases e), own_keep h.aft hg (fun y hy e => by cases e), h.ne⟩
theorem Kp.below {S : Nat → Prop} {w w1 w2 : World} (h : Kp S w w1) (hb : Below w1.heap.size w1 w2) : Kp S w w2 :=
  h.grown (row := none) ⟨hb.os, hb.tape, hb.output, hb.size, fun k hk _ => hb.block k hk⟩ (by intro k hk; cases hk)

section
variable (p g0 len cap gs ge pos : Nat) (bl : Int) (a4 : Option Addr) (l4 c4 : Nat) (a5 : Option Addr) (l5 c5 : Nat) (zs P M zb : List Int) (cur : List Value) (w : World) (B0 L : Nat) (S : Nat → Prop)

set_option maxRecDepth 1000000 in
set_option maxHeartbeats 4000000 in
theorem moveR (h : St p g0 len cap bl B0 gs ge a4 l4 c4 a5 l5 c5 zb (P ++ M) cur w) (h1 : gs ≤ ge) (h2 : ge ≤ len) (h3 : len ≤ cap) (h4 : len ≤ 1048576) (hcl : cur.length = cap) (hz : cur.take len = iv .i32 zs) (hzl : zs.length = len) (hpos : gs < pos)
    (hL : L + (ge - gs) = len) (hpL : pos ≤ L) (hP : ∀ y ∈ P, y < (len : Int) - ((ge : Int) - gs) - pos + 1) (hM : ∀ y ∈ M, (len : Int) - ((ge : Int) - gs) - pos + 1 ≤ y ∧ y ≤ L) (h5 : l5 ≤ 1048576) (h6 : l4 ≤ 1048576) (hB0 : B0 ≤ w.heap.size) (s0 : S g0) (sp : S p) (s4 : InS S w.heap.size a4) :
    Calls Try.prog 26 #[.pointer (some ⟨p, 0, none⟩), .int .i64 pos] w fun e w' => e = .returned (.tuple #[]) ∧ Kp S w w' ∧ ∃ a' c',
      St p g0 len cap bl B0 pos ((ge + (pos - gs) : Nat) : Int) a' (l4 + M.length) c' a5 P.length c5 (carry L zb M M.length) P (splice cur gs (iv .i32 ((zs.drop ge).take (pos - gs)))) w' := by
  obtain ⟨e0, e1, e2, -, e4, e5⟩ := h.buf.cells
  have l5e : l5 = P.length + M.length := by have := h.aft.1; rw [iv_len] at this; simpa using this.symm
  have H : Hid (St p g0 len cap bl B0 gs ge a4 l4 c4 a5 l5 c5 zb (P ++ M) cur w) := h
  clear h
  obtain ⟨f, hf⟩ : ∃ f, f + gs = ge + pos := ⟨ge + pos - gs, by omega⟩
  rw [show ge + (pos - gs) = f by omega]
  have hwr : IntKind.i64.wrap ((ge : Int) + ((pos : Int) - gs)) = (f : Int) := by rw [IntWalk.i64_in _ ⟨by omega, by omega⟩]; omega
  have q1 : ge < f := by omega
  have q2 : ¬ cap = gs := by omega
  have q3 : ¬ cap = ge := by omega
  have q4 : f ≤ cap := by omega
  have q5 : pos ≤ cap := by omega
  have q6 : ge ≤ f := by omega
  have q7 : gs ≤ pos := by omega
  have q8 : ¬ pos < gs := by omega
  have HD : Hid (f + gs = ge + pos) := hf
  have HC : Hid (cur.length = cap) := hcl
  clear hf hcl
  obtain ⟨X, hX⟩ : ∃ X, X = iv .i32 ((zs.drop ge).take (pos - gs)) := ⟨_, rfl⟩
  rw [← hX]
  have A1 : Hid (X.length = Nat.min (f - ge) (pos - gs)) := show _ = _ by
    have := HD.out; have := HC.out
    rw [hX, iv_len, List.length_take, List.length_drop, hzl]; show _ = min (f - ge) (pos - gs); omega
  have A3 : Hid (gs + X.length ≤ cur.length) := show _ ≤ _ by
    have := HD.out; have := HC.out
    rw [hX, iv_len, List.length_take, List.length_drop, hzl]; omega
  have A2 : Hid (∀ w1 : World, w1.heap[g0]? = some (.cells cur.toArray 21 (0, 0)) → ∀ j v, X[j]? = some v → w1.cell? ((⟨g0, ge, none⟩ : Addr).add j) = some v) := by
    intro w1 hw1 j v hj
    rw [Addr.add_lit, cell_of_row w1 g0 (ge + j) _ 21 (0, 0) hw1]
    rw [hX] at hj
    have hjl : j < pos - gs := by have := (List.getElem?_eq_some_iff.1 hj).1; simp [iv] at this; omega
    have e : (iv .i32 zs)[ge + j]? = some v := by
      rw [← hj]; simp [iv, hjl]
    rw [← hz, List.getElem?_take, if_pos (by omega)] at e
    simpa using e
  have A4 : Hid (∀ v ∈ X, v.oneCell' = true) := by rw [hX]; exact iv_one _ _
  have HX : Hid (X = iv .i32 ((zs.drop ge).take (pos - gs))) := hX
  have Hp : Hid (Parts (P ++ M) P.length ((len : Int) - ((ge : Int) - gs) - pos + 1)) := parts_of hP (fun y hy => (hM y hy).1)
  have HM : Hid (∀ y ∈ M, (len : Int) - ((ge : Int) - gs) - pos + 1 ≤ y ∧ y ≤ L) := hM
  have HL : Hid (L + (ge - gs) = len) := hL
  have H4 : Hid (l5 = P.length + M.length) := l5e
  have b1 : P.length + M.length ≤ l5 := by omega
  have b2 : l5 ≤ P.length + M.length := by omega
  have hpp : pos ≤ 1048576 := by omega
  clear hX hz hzl hM hL l5e
  go_enter Try.func26, Try.ntmps26
  go_upto_region 13 with fail
  go_cut [] (fun wx => Hid (wx.heap[g0]? = some (.cells (splice cur gs X).toArray 21 (0, 0))) ∧ w.grownBy wx (some g0) ∧ wx.heap.size = w.heap.size)
  case first =>
    go_region_held3 (fun w' => w'.cell? ⟨p, 0, none⟩ = some (.slice (some ⟨g0, 0, none⟩) len cap) ∧ w'.cell? ⟨p, 1, none⟩ = some (.int .i64 gs) ∧ w'.cell? ⟨p, 2, none⟩ = some (.int .i64 ge)) (go_keep) ((refine step_cp rfl (.tmp 136) (.tmp 151) 22 22 rfl 21 Try.underlying22 Try.sz21 g0 gs (pos - gs) (cap - gs) ⟨g0, ge, none⟩ (f - ge) (cap - ge) rfl rfl cur 21 H.out.run X A1.out (A2.out _ H.out.run) A3.out A4.out ?_; intro w4 hg4 hb4 hs4; obtain ⟨k0, k1, k2, -, -, -⟩ := (Buf.grown (w := w.drew) H.out.buf hb4 (by intro e; exact ne_of_kind H.out.run H.out.buf (by decide) (Option.some.inj e))).cells))
    all_goals
      go_wp2
      go_meet
      exact ⟨hg4, grown_drew hb4, hs4⟩
  case rest =>
    clear e0 e1 e2 e4 e5
    obtain ⟨hr, hg, hsz⟩ := hcut
    have h5 : St p g0 len cap bl B0 gs ge a4 l4 c4 a5 l5 c5 zb (P ++ M) (splice cur gs X) wc := H.out.copy hg hr.out
    have hK : Kp S w wc := (Kp.refl S w).grown hg (fun k hk => by cases hk; exact .inl s0)
    have hB1 : Hid (B0 ≤ wc.heap.size) := show _ ≤ _ by rw [hsz]; exact hB0
    clear hsz hg hr H A1 A2 A3 A4 hwr hB0
    obtain ⟨e0, e1, e2, -, e4, e5⟩ := h5.buf.cells
    go_wp2_with fail
    refine (afterBelowC _ _ _ _ _ _ _ _ _ _ _ _ _ _ _ _ _ h5.buf h1 h2 (by omega) (Rd_of_own h5.aft) Hp.out (by omega) (by omega)).mono ?_
    rintro e w1 ⟨rfl, hbw⟩
    have h5' : St p g0 len cap bl B0 gs ge a4 l4 c4 a5 l5 c5 zb (P ++ M) (splice cur gs X) w1 := h5.below hbw
    have hK' : Kp S w w1 := hK.below hbw
    have hB1' : Hid (B0 ≤ w1.heap.size) := show _ ≤ _ from Nat.le_trans hB1.out hbw.size
    clear e0 e1 e2 e4 e5 h5 hK hB1 hbw
    have h5 := h5'
    have hK := hK'
    have hB1 := hB1'
    clear h5' hK' hB1'
    obtain ⟨e0, e1, e2, -, e4, e5⟩ := h5.buf.cells
    go_wp2
    clear e0 e1 e2 e4 e5
    obtain ⟨i0, hi, hz0, hz1, hz2⟩ := info_parts Try.info3
    go_loopw [10] (fun i wr => ∃ (k : Nat) (a' : Option Addr) (c' : Nat), k ≤ M.length ∧ i = .int .i64 ((l5 : Int) - 1 - k) ∧ St p g0 len cap bl B0 gs ge a' (l4 + k) c' a5 l5 c5 (carry L zb M k) (P ++ M) (splice cur gs X) wr ∧ Kp S w wr ∧ InS S w.heap.size a' ∧ Hid (B0 ≤ wr.heap.size)) (fun i _ => (intOf i + 1).toNat)
    case atStart => exact ⟨0, a4, c4, Nat.zero_le _, by simp, by rw [carry_zero]; exact h5, hK, s4, hB1⟩
    case round =>
      clear h5 hK hB1
      obtain ⟨k, a', c', hk, rfl, h5, hK, s5', hB1⟩ := hrel
      by_cases hlt : k < M.length
      · obtain ⟨j, hj⟩ : ∃ j : Nat, (l5 : Int) - 1 - k = j := ⟨l5 - 1 - k, by omega⟩
        have j1 : j + k < l5 := by omega
        have j2 : l5 ≤ j + k + 1 := by omega
        have hjj : (P ++ M).length - 1 - k = j := by simp; omega
        obtain ⟨x, hx⟩ : ∃ x, x = (P ++ M).getD j 0 := ⟨_, rfl⟩
        have hxM : (len : Int) - ((ge : Int) - gs) - pos + 1 ≤ x ∧ x ≤ L := by
          apply HM.out
          have e : x = M[j - P.length]'(by omega) := by
            rw [hx]; simp [List.getD, List.getElem?_append_right (show P.length ≤ j by omega), show j - P.length < M.length by omega]
          rw [e]; exact List.getElem_mem _
        have hcs := carry_succ L zb P M k hlt
        rw [hjj, ← hx] at hcs
        have HS : Hid (carry L zb M (k + 1) = carry L zb M k ++ [(L : Int) - x]) := hcs
        obtain ⟨x1, x2⟩ := hxM
        have hrd := Rd_of_own h5.aft
        obtain ⟨-, hrd⟩ := hrd
        obtain ⟨g4, o4, rfl, hlt4, hc4⟩ := hrd.resolve_left (by omega)
        have hcx := hc4 j (by omega)
        rw [← hx] at hcx
        obtain ⟨y, hy⟩ : ∃ y, y = (L : Int) - x := ⟨_, rfl⟩
        have hwr : IntKind.i64.wrap ((len : Int) - ((ge : Int) - gs) - x) = y := by
          have := HL.out
          rw [IntWalk.i64_in _ ⟨by omega, by omega⟩, hy]; omega
        rw [← hy] at hcs
        have HS : Hid (carry L zb M (k + 1) = carry L zb M k ++ [y]) := hcs
        have Hx : Hid (x = (P ++ M).getD j 0) := hx
        clear hcs hy hx hjj hc4 hrd x1 x2
        obtain ⟨e0, e1, e2, -, e4, e5⟩ := h5.buf.cells
        rw [hj]
        clear hj
        have hbound : l4 + k ≤ 3000000 := by omega
        have hlj : j < l5 := by omega
        have hPj : P.length ≤ j := by omega
        clear hP HM Hp HL H4 HC HX HD q1 q2 q3 q4 q5 q6 q7 q8 hpos h3 Hx s4 hpL hpp
        go_upto_block 4 with fail
        go_cut [] (fun wx => ∃ a2 c2, St p g0 len cap bl B0 gs ge a2 (l4 + k + 1) c2 (some ⟨g4, o4, none⟩) l5 c5 (carry L zb M k ++ [y]) (P ++ M) (splice cur gs X) wx ∧ Kp S w wx ∧ InS S w.heap.size a2 ∧ Hid (B0 ≤ wx.heap.size))
        case first =>
          rename_i qa hA3 qb kb hA2 jj kk hA1 hA0
          clear hA3 hA2 HS hPj hlt hk
          have hp5 : ∀ (n : Nat) (o : Obj), ((wr.drewN n).alloc o).cell? ⟨p, 4, none⟩ = some (.slice a' (l4 + k) c') := fun n o => by
            rw [World.cell?_alloc_lt (wr.drewN n) o ⟨p, 4, none⟩ h5.buf.lt]; exact e4
          go_wp2
          go_region_law
            (first
              | (refine step_app ?hgd (.tmp 171) (.tmp 182) 23 ?ho B0 3 i0 (.int .i64 0) 8 Try.underlying23 hi hz0 hz1 hz2 rfl a' (l4 + k) c' (iv .i64 (carry L zb M k)) ?hs ?hown ⟨wr.heap.size, 0, none⟩ 1 (.int .i64 y) ?hx ?hnews rfl ?h63 ?hbytes ?hbase ?_
                 case ho => rfl
                 case hgd => rfl
                 case hs => rfl
                 case hx => rfl
                 case hown => exact own_of h5.bef _ _
                 case hnews => exact cell_of _ _ _ _
                 case h63 => unfold maxLen; omega
                 case hbytes => omega
                 case hbase => exact size_of _ _ _ _ hB1.out
                 intro a2 c2 w2 ho hg hn
                 have hA := h5.app4 (by exact grown_of _ _ _) ho hg hn
                 obtain ⟨-, -, -, -, k4, k5⟩ := hA.1.cells
                 have f5 := hA.1.free 4)
              | (go_simp
                 go_at_call 29
                 refine (lenC _ _ _ _ _ _ _ _ _ _ _ _ _ _ (by exact h5.buf) h1 h2 (by omega)).mono ?_
                 rintro e w1 ⟨rfl, nq1, rfl⟩))
          all_goals
            go_wp2
            go_meet
            exact ⟨a2, c2, hA.2.2, app_kp hK sp s5' (grown_of _ _ _) hg, app_in hK s5' hn (by simp), app_sz hB1 (grown_of _ _ _) hg⟩
        case rest =>
          obtain ⟨a2, c2, st2, kp2, in2, hB2⟩ := hcut
          clear h5 hK hB1 s5' e0 e1 e2 e4 e5 hcx hwr
          go_wp2
          go_roundw
          case rel =>
            exact ⟨k + 1, a2, c2, by omega, by go_num, by rw [HS.out]; exact st2, kp2, in2, hB2⟩
          case measure => simp [intOf]
      · obtain rfl : k = M.length := by omega
        obtain ⟨e0, e1, e2, -, e4, e5⟩ := h5.buf.cells
        have f1 := h5.buf.free 1
        have f2 := h5.buf.free 2
        have f4 := h5.buf.free 5
        have hc4 : P.length ≤ c5 := by have := own_cap h5.aft; omega
        have hPl : P.length ≤ l5 := by omega
        clear hP HM Hp HL H4 HC HX q1 q2 q3 s4 s5'
        go_wp2
        go_returns
        have g1 : (gs : Int) + ((pos : Int) - gs) = (pos : Int) := by omega
        have g2 : (ge : Int) + ((pos : Int) - gs) = (f : Int) := by have := HD.out; omega
        rw [g1, g2]
        exact ⟨rfl, hK.three sp _ _ _ _ _ _, a', c', h5.fin5 _ _⟩
end
end Go.Proofs.Qxb6602056a
