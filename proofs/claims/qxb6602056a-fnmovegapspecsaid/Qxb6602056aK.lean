import Derived.Test.Qxb6602056aJ
import Derived.Deep.Light
import Derived.Deep.CutBlock
namespace Go.Proofs.Qxb6602056a
open Go.RowKit

section
variable (p g0 len cap gs ge pos : Nat) (bl : Int) (a4 : Option Addr) (l4 c4 : Nat) (a5 : Option Addr) (l5 c5 : Nat) (zs P M za : List Int) (cur : List Value) (w : World) (B0 L : Nat) (S : Nat → Prop)

/-- The place of a list: one of S's blocks, or a block that the call has made. -/
def InS (S : Nat → Prop) (n : Nat) (a : Option Addr) : Prop := ∀ y, a = some y → S y.block ∨ n ≤ y.block

theorem grown_drew {w w' : World} {r : Option Nat} (h : w.drew.grownBy w' r) : w.grownBy w' r := ⟨h.os, h.tape, h.output, h.size, h.block⟩
theorem cell_of (w : World) (v : Value) (t : TypeId) (n : Nat) : ((w.drewN n).alloc (.cells #[v] t)).cell? ⟨w.heap.size, 0, none⟩ = some v := by
  show ((w.drewN n).alloc (.cells #[v] t)).cell? ⟨(w.drewN n).heap.size, 0, none⟩ = some v
  exact World.cell?_alloc_new (w.drewN n) #[v] t 0
theorem size_of (w : World) (o : Obj) (n B : Nat) (h : B ≤ w.heap.size) : B ≤ ((w.drewN n).alloc o).heap.size := by
  have : ((w.drewN n).alloc o).heap.size = w.heap.size + 1 := by simp
  omega
theorem own_of {w : World} {base e n m cap : Nat} {a : Option Addr} {xs : List Value} (h : w.ownsRow base e 1 (.slice a n cap) m xs) (o : Obj) (k : Nat) : ((w.drewN k).alloc o).ownsRow base e 1 (.slice a n cap) m xs :=
  World.ownsRow.alloc (w := w.drewN k) h o
theorem grown_of (w : World) (o : Obj) (n : Nat) : w.grownBy ((w.drewN n).alloc o) none := ⟨rfl, rfl, rfl, by simp, fun k hk _ => Below.heap_alloc (w.drewN n) o k hk⟩
theorem app_kp {S : Nat → Prop} {w wr w1 w2 : World} {a5 : Option Addr} {n c p i : Nat} {u : Value} (hK : Kp S w wr) (sp : S p) (s5 : InS S w.heap.size a5) (h1 : wr.grownBy w1 none) (hg : w1.grownBy w2 (Value.ownBlock (.slice a5 n c))) : Kp S w (w2.setCell ⟨p, i, none⟩ u) := by
  refine Kp.setCell ((hK.grown h1 (by intro k hk; cases hk)).grown hg ?_) _ sp u
  intro k hk
  cases a5 with
  | none => cases hk
  | some y => cases hk; exact s5 y rfl
theorem app_in {S : Nat → Prop} {w wr : World} {a5 a2 : Option Addr} {m : Nat} (hK : Kp S w wr) (s5 : InS S w.heap.size a5) (hn : Near a5 m a2) (hm : wr.heap.size ≤ m) : InS S w.heap.size a2 := by
  intro y hy
  rcases hn y hy with ⟨z, hz, he⟩ | h
  · rw [← he]; exact s5 z hz
  · exact .inr (by have := hK.size; omega)
theorem app_sz {wr w1 w2 : World} {B p i : Nat} {u : Value} {r : Option Nat} (h : Hid (B ≤ wr.heap.size)) (h1 : wr.grownBy w1 none) (hg : w1.grownBy w2 r) : Hid (B ≤ (w2.setCell ⟨p, i, none⟩ u).heap.size) := by
  show B ≤ _
  have := h.out
  have := h1.size
  have := hg.size
  simp [World.setCell]; omega
theorem own_elem {w : World} {base n cap g o j : Nat} {e : TypeId} {k : IntKind} {zs : List Int} (h : w.ownsRow base e 1 (.slice (some ⟨g, o, none⟩) n cap) n (iv k zs)) (hj : j < n) : w.cell? ⟨g, o + j, none⟩ = some (.int k (zs.getD j 0)) := by
  obtain ⟨-, h2⟩ := Rd_of_own h
  obtain ⟨b, off, he, -, hc⟩ := h2.resolve_left (by omega)
  cases he
  exact hc j hj

set_option maxRecDepth 1000000 in
set_option maxHeartbeats 4000000 in
theorem moveL (h : St p g0 len cap bl B0 gs ge a4 l4 c4 a5 l5 c5 (P ++ M) za cur w) (h1 : gs ≤ ge) (h2 : ge ≤ len) (h3 : len ≤ cap) (h4 : len ≤ 1048576) (hcl : cur.length = cap) (hz : cur.take len = iv .i32 zs) (hzl : zs.length = len) (hpos : pos < gs)
    (hL : L + (ge - gs) = len) (hP : ∀ y ∈ P, y < (pos : Int)) (hM : ∀ y ∈ M, (pos : Int) ≤ y ∧ y < gs) (h5 : l5 ≤ 1048576) (h6 : l4 ≤ 1048576) (hB0 : B0 ≤ w.heap.size) (s0 : S g0) (sp : S p) (s5 : InS S w.heap.size a5) :
    Calls Try.prog 26 #[.pointer (some ⟨p, 0, none⟩), .int .i64 pos] w fun e w' => e = .returned (.tuple #[]) ∧ Kp S w w' ∧ ∃ a' c',
      St p g0 len cap bl B0 pos ((ge - (gs - pos) : Nat) : Int) a4 P.length c4 a' (l5 + M.length) c' P (carry L za M M.length) (splice cur (ge - (gs - pos)) (iv .i32 ((zs.drop pos).take (gs - pos)))) w' := by
  obtain ⟨e0, e1, e2, -, e4, e5⟩ := h.buf.cells
  have l4e : l4 = P.length + M.length := by have := h.bef.1; rw [iv_len] at this; simpa using this.symm
  have H : Hid (St p g0 len cap bl B0 gs ge a4 l4 c4 a5 l5 c5 (P ++ M) za cur w) := h
  clear h
  obtain ⟨d, hd⟩ : ∃ d, d + gs = ge + pos := ⟨ge + pos - gs, by omega⟩
  rw [show ge - (gs - pos) = d by omega]
  have hwr : IntKind.i64.wrap ((ge : Int) - ((gs : Int) - pos)) = (d : Int) := by rw [IntWalk.i64_in _ ⟨by omega, by omega⟩]; omega
  have q1 : d < ge := by omega
  have q2 : ¬ cap = d := by omega
  have q3 : ¬ cap = pos := by omega
  have q4 : ge ≤ cap := by omega
  have q5 : gs ≤ cap := by omega
  have q6 : d ≤ ge := by omega
  have q7 : pos ≤ gs := by omega
  have HD : Hid (d + gs = ge + pos) := hd
  have HC : Hid (cur.length = cap) := hcl
  clear hd hcl
  obtain ⟨X, hX⟩ : ∃ X, X = iv .i32 ((zs.drop pos).take (gs - pos)) := ⟨_, rfl⟩
  rw [← hX]
  have A1 : Hid (X.length = Nat.min (gs - pos) (ge - d)) := show _ = _ by
    have := HD.out; have := HC.out
    rw [hX, iv_len, List.length_take, List.length_drop, hzl]; show _ = min (gs - pos) (ge - d); omega
  have A3 : Hid (d + X.length ≤ cur.length) := show _ ≤ _ by
    have := HD.out; have := HC.out
    rw [hX, iv_len, List.length_take, List.length_drop, hzl]; omega
  have A2 : Hid (∀ w1 : World, w1.heap[g0]? = some (.cells cur.toArray 21 (0, 0)) → ∀ j v, X[j]? = some v → w1.cell? ((⟨g0, pos, none⟩ : Addr).add j) = some v) := by
    intro w1 hw1 j v hj
    rw [Addr.add_lit, cell_of_row w1 g0 (pos + j) _ 21 (0, 0) hw1]
    rw [hX] at hj
    have hjl : j < gs - pos := by have := (List.getElem?_eq_some_iff.1 hj).1; simp [iv] at this; omega
    have e : (iv .i32 zs)[pos + j]? = some v := by
      rw [← hj]; simp [iv, hjl]
    rw [← hz, List.getElem?_take, if_pos (by omega)] at e
    simpa using e
  have A4 : Hid (∀ v ∈ X, v.oneCell' = true) := by rw [hX]; exact iv_one _ _
  have HX : Hid (X = iv .i32 ((zs.drop pos).take (gs - pos))) := hX
  have Hp : Hid (Parts (P ++ M) P.length (pos : Int)) := parts_of hP (fun y hy => (hM y hy).1)
  have HM : Hid (∀ y ∈ M, (pos : Int) ≤ y ∧ y < gs) := hM
  have HL : Hid (L + (ge - gs) = len) := hL
  have H4 : Hid (l4 = P.length + M.length) := l4e
  have b1 : P.length + M.length ≤ l4 := by omega
  have b2 : l4 ≤ P.length + M.length := by omega
  clear hX hz hzl hM hL l4e
  go_enter Try.func26, Try.ntmps26
  go_upto_region 2 with fail
  go_cut [] (fun wx => Hid (wx.heap[g0]? = some (.cells (splice cur d X).toArray 21 (0, 0))) ∧ w.grownBy wx (some g0) ∧ wx.heap.size = w.heap.size)
  case first =>
    go_region_held3 (fun w' => w'.cell? ⟨p, 0, none⟩ = some (.slice (some ⟨g0, 0, none⟩) len cap) ∧ w'.cell? ⟨p, 1, none⟩ = some (.int .i64 gs) ∧ w'.cell? ⟨p, 2, none⟩ = some (.int .i64 ge)) (go_keep) ((refine step_cp rfl (.tmp 38) (.tmp 48) 22 22 rfl 21 Try.underlying22 Try.sz21 g0 d (ge - d) (cap - d) ⟨g0, pos, none⟩ (gs - pos) (cap - pos) rfl rfl cur 21 H.out.run X A1.out (A2.out _ H.out.run) A3.out A4.out ?_; intro w4 hg4 hb4 hs4; obtain ⟨k0, k1, k2, -, -, -⟩ := (Buf.grown (w := w.drew) H.out.buf hb4 (by intro e; exact ne_of_kind H.out.run H.out.buf (by decide) (Option.some.inj e))).cells))
    all_goals
      go_wp2
      go_meet
      exact ⟨hg4, grown_drew hb4, hs4⟩
  case rest =>
    clear e0 e1 e2 e4 e5
    obtain ⟨hr, hg, hsz⟩ := hcut
    have h5 : St p g0 len cap bl B0 gs ge a4 l4 c4 a5 l5 c5 (P ++ M) za (splice cur d X) wc := H.out.copy hg hr.out
    have hK : Kp S w wc := (Kp.refl S w).grown hg (fun k hk => by cases hk; exact .inl s0)
    have hB1 : Hid (B0 ≤ wc.heap.size) := show _ ≤ _ by rw [hsz]; exact hB0
    clear hsz hg hr H A1 A2 A3 A4 hwr hB0
    obtain ⟨e0, e1, e2, -, e4, e5⟩ := h5.buf.cells
    go_wp2_with fail
    refine (bsearch _ _ _ _ _ _ _ (Rd_of_own h5.bef) Hp.out (by omega)).mono ?_
    rintro e w1 ⟨rfl, rfl⟩
    go_wp2
    clear e0 e1 e2 e4 e5
    obtain ⟨i0, hi, hz0, hz1, hz2⟩ := info_parts Try.info3
    go_loopw [7] (fun i wr => ∃ (k : Nat) (a' : Option Addr) (c' : Nat), k ≤ M.length ∧ i = .int .i64 ((l4 : Int) - 1 - k) ∧ St p g0 len cap bl B0 gs ge a4 l4 c4 a' (l5 + k) c' (P ++ M) (carry L za M k) (splice cur d X) wr ∧ Kp S w wr ∧ InS S w.heap.size a' ∧ Hid (B0 ≤ wr.heap.size)) (fun i _ => (intOf i + 1).toNat)
    case atStart => exact ⟨0, a5, c5, Nat.zero_le _, by simp, by rw [carry_zero]; exact h5, hK, s5, hB1⟩
    case round =>
      clear h5 hK hB1
      obtain ⟨k, a', c', hk, rfl, h5, hK, s5', hB1⟩ := hrel
      by_cases hlt : k < M.length
      · obtain ⟨j, hj⟩ : ∃ j : Nat, (l4 : Int) - 1 - k = j := ⟨l4 - 1 - k, by omega⟩
        have j1 : j + k < l4 := by omega
        have j2 : l4 ≤ j + k + 1 := by omega
        have hjj : (P ++ M).length - 1 - k = j := by simp; omega
        obtain ⟨x, hx⟩ : ∃ x, x = (P ++ M).getD j 0 := ⟨_, rfl⟩
        have hxM : (pos : Int) ≤ x ∧ x < gs := by
          apply HM.out
          have e : x = M[j - P.length]'(by omega) := by
            rw [hx]; simp [List.getD, List.getElem?_append_right (show P.length ≤ j by omega), show j - P.length < M.length by omega]
          rw [e]; exact List.getElem_mem _
        have hcs := carry_succ L za P M k hlt
        rw [hjj, ← hx] at hcs
        have HS : Hid (carry L za M (k + 1) = carry L za M k ++ [(L : Int) - x]) := hcs
        obtain ⟨x1, x2⟩ := hxM
        have hrd := Rd_of_own h5.bef
        obtain ⟨-, hrd⟩ := hrd
        obtain ⟨g4, o4, rfl, hlt4, hc4⟩ := hrd.resolve_left (by omega)
        have hcx := hc4 j (by omega)
        rw [← hx] at hcx
        obtain ⟨y, hy⟩ : ∃ y, y = (L : Int) - x := ⟨_, rfl⟩
        have hwr : IntKind.i64.wrap ((len : Int) - ((ge : Int) - gs) - x) = y := by
          have := HL.out
          rw [IntWalk.i64_in _ ⟨by omega, by omega⟩, hy]; omega
        rw [← hy] at hcs
        have HS : Hid (carry L za M (k + 1) = carry L za M k ++ [y]) := hcs
        have Hx : Hid (x = (P ++ M).getD j 0) := hx
        clear hcs hy hx hjj hc4 hrd x1 x2
        obtain ⟨e0, e1, e2, -, e4, e5⟩ := h5.buf.cells
        rw [hj]
        clear hj
        have hbound : l5 + k ≤ 3000000 := by omega
        have hlj : j < l4 := by omega
        have hPj : P.length ≤ j := by omega
        clear hP HM Hp HL H4 HC HX HD q1 q2 q3 q4 q5 q6 q7 hpos h3 Hx s5
        go_upto_block 2 with fail
        go_cut [] (fun wx => ∃ a2 c2, St p g0 len cap bl B0 gs ge (some ⟨g4, o4, none⟩) l4 c4 a2 (l5 + k + 1) c2 (P ++ M) (carry L za M k ++ [y]) (splice cur d X) wx ∧ Kp S w wx ∧ InS S w.heap.size a2 ∧ Hid (B0 ≤ wx.heap.size))
        case first =>
          rename_i qa hA3 qb kb hA2 jj kk hA1 hA0
          clear hA3 hA2 HS hPj hlt hk
          have hp5 : ∀ (n : Nat) (o : Obj), ((wr.drewN n).alloc o).cell? ⟨p, 5, none⟩ = some (.slice a' (l5 + k) c') := fun n o => by
            rw [World.cell?_alloc_lt (wr.drewN n) o ⟨p, 5, none⟩ h5.buf.lt]; exact e5
          go_wp2
          go_region_law
            (first
              | (refine step_app ?hgd (.tmp 74) (.tmp 85) 23 ?ho B0 3 i0 (.int .i64 0) 8 Try.underlying23 hi hz0 hz1 hz2 rfl a' (l5 + k) c' (iv .i64 (carry L za M k)) ?hs ?hown ⟨wr.heap.size, 0, none⟩ 1 (.int .i64 y) ?hx ?hnews rfl ?h63 ?hbytes ?hbase ?_
                 case ho => rfl
                 case hgd => rfl
                 case hs => rfl
                 case hx => rfl
                 case hown => exact own_of h5.aft _ _
                 case hnews => exact cell_of _ _ _ _
                 case h63 => unfold maxLen; omega
                 case hbytes => omega
                 case hbase => exact size_of _ _ _ _ hB1.out
                 intro a2 c2 w2 ho hg hn
                 have hA := h5.app5 (by exact grown_of _ _ _) ho hg hn
                 obtain ⟨-, -, -, -, k4, k5⟩ := hA.1.cells
                 have f5 := hA.1.free 5)
              | (go_simp
                 go_at_call 29
                 refine (lenC _ _ _ _ _ _ _ _ _ _ _ _ _ _ (by exact h5.buf) h1 h2 (by omega)).mono ?_
                 rintro e w1 ⟨rfl, nq1, rfl⟩))
          all_goals
            go_wp2
            go_meet
            exact ⟨a2, c2, hA.2.2, app_kp hK sp s5' (grown_of _ _ _) hg, app_in hK s5' hn (by simp), app_sz hB1 (grown_of _ _ _) hg⟩
        case rest =>
          obtain ⟨a2, c2, st2, kp2, in2, hB2⟩ := hcut
          clear h5 hK hB1 s5' e0 e1 e2 e4 e5 hcx hwr
          go_wp2
          go_roundw
          case rel =>
            exact ⟨k + 1, a2, c2, by omega, by go_num, by rw [HS.out]; exact st2, kp2, in2, hB2⟩
          case measure => simp [intOf]
      · obtain rfl : k = M.length := by omega
        obtain ⟨e0, e1, e2, -, e4, e5⟩ := h5.buf.cells
        have f1 := h5.buf.free 1
        have f2 := h5.buf.free 2
        have f4 := h5.buf.free 4
        have hc4 : P.length ≤ c4 := by have := own_cap h5.bef; omega
        have hPl : P.length ≤ l4 := by omega
        clear hP HM Hp HL H4 HC HX q1 q2 q3 s5 s5'
        go_wp2
        go_returns
        have g1 : (gs : Int) - ((gs : Int) - pos) = (pos : Int) := by omega
        have g2 : (ge : Int) - ((gs : Int) - pos) = (d : Int) := by have := HD.out; omega
        rw [g1, g2]
        exact ⟨rfl, hK.three sp _ _ _ _ _ _, a', c', h5.fin4 _ _⟩
end
end Go.Proofs.Qxb6602056a
