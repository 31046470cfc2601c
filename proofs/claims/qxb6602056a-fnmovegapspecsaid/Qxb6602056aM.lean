import Derived.Test.Qxb6602056aL
namespace Go.Proofs.Qxb6602056a
open Go.RowKit

/-- Out of what the clones leave: the state that a move begins with. -/
theorem st_mk {p g0 len cap : Nat} {bl : Int} {B0 : Nat} {gs ge : Int} {a4 : Option Addr} {l4 c4 : Nat} {a5 : Option Addr} {l5 c5 : Nat} {zb za : List Int} {cur : List Value} {w : World}
    (hb : Buf w p (some ⟨g0, 0, none⟩) len cap gs ge bl a4 l4 c4 a5 l5 c5) (hr : w.heap[g0]? = some (.cells cur.toArray 21 (0, 0))) (h4 : w.ownsRow B0 3 1 (.slice a4 l4 c4) l4 (iv .i64 zb)) (h5 : w.ownsRow B0 3 1 (.slice a5 l5 c5) l5 (iv .i64 za))
    (B1 : Nat) (hlt : ∀ y, a4 = some y → y.block < B1) (hge : ∀ y, a5 = some y → B1 ≤ y.block) : St p g0 len cap bl B0 gs ge a4 l4 c4 a5 l5 c5 zb za cur w :=
  ⟨hb, hr, h4, h5, fun x y hx hy e => by have := hlt x hx; have := hge y hy; omega⟩

theorem own_base {w : World} {b b' n m cap : Nat} {e : TypeId} {a : Option Addr} {xs : List Value} (h : w.ownsRow b e 1 (.slice a n cap) m xs) (hb : b' ≤ b) : w.ownsRow b' e 1 (.slice a n cap) m xs := by
  refine ⟨h.1, ?_⟩
  rcases h.2 with h2 | ⟨g', cap', cur, hv, hg, r⟩
  · exact .inl h2
  · exact .inr ⟨g', cap', cur, hv, by omega, r⟩
theorem own_below {w w' : World} {b n m cap : Nat} {e : TypeId} {a : Option Addr} {xs : List Value} (h : w.ownsRow b e 1 (.slice a n cap) m xs) (hb : Below w.heap.size w w') : w'.ownsRow b e 1 (.slice a n cap) m xs :=
  own_keep (row := none) h ⟨hb.os, hb.tape, hb.output, hb.size, fun k hk _ => hb.block k hk⟩ (fun y hy e => by cases e)
theorem own_ge {w : World} {b n m cap : Nat} {e : TypeId} {a : Option Addr} {xs : List Value} (h : w.ownsRow b e 1 (.slice a n cap) m xs) : ∀ y, a = some y → b ≤ y.block := by
  rintro y rfl; exact (h.lt y.block rfl).1

/-- A slice that reads so reads so in the later world, if its block is none of S's. -/
theorem Rd.kp {S : Nat → Prop} {k : IntKind} {w w' : World} {a : Option Addr} {len : Nat} {zs : List Int} (h : Rd k w a len zs) (hk : Kp S w w') (hS : ∀ y, a = some y → ¬ S y.block) : Rd k w' a len zs := by
  obtain ⟨h1, h2⟩ := h
  refine ⟨h1, ?_⟩
  rcases h2 with h2 | ⟨b, off, rfl, hlt, hc⟩
  · exact .inl h2
  · refine .inr ⟨b, off, rfl, Nat.lt_of_lt_of_le hlt hk.size, fun i hi => ?_⟩
    rw [← hc i hi]
    exact World.cell?_of_block (hk.block b hlt (hS _ rfl))

theorem Rd.of_run {w : World} {g0 len cap : Nat} {cur : List Value} {zs : List Int} (hr : w.heap[g0]? = some (.cells cur.toArray 21 (0, 0))) (hz : cur.take len = iv .i32 zs) (hl : len ≤ cap) (hc : cur.length = cap) (hm : cap ≤ maxLen) : Rd .i32 w (some ⟨g0, 0, none⟩) len zs :=
  Rd_of_own (cap := cap) (base := 0) (e := 21) (own_mk hr hc hz hl (Nat.zero_le _) hm)

/-- What both ways of moveGap leave, and the way on which nothing moves. -/
structure Moved (p : Nat) (bl : Int) (t : List Int) (len W L pos : Nat) (w : World) : Prop where
  ex : ∃ (a : Option Addr) (cap ge l4 c4 l5 c5 : Nat) (a4 a5 : Option Addr) (zs : List Int),
    Buf w p a len cap pos ge bl a4 l4 c4 a5 l5 c5 ∧ Rd .i32 w a len zs ∧ pos + W = ge ∧ ge ≤ len ∧ txt zs pos ge = t ∧ Rd .i64 w a4 l4 (nlB t pos) ∧ Rd .i64 w a5 l5 (nlA t (L - pos)) ∧ l4 ≤ 1048576 ∧ l5 ≤ 1048576

set_option maxHeartbeats 400000 in
theorem zzM (v0 v4 v5 : Option Addr) (l0 c0 l4 c4 l5 c5 : Nat) (a1 a2 a3 a6 : Int) (w : World) (h0 : l0 ≤ maxLen) (h4 : l4 ≤ maxLen) (h5 : l5 ≤ maxLen) :
    Calls Try.prog 7 #[.slice v0 l0 c0, .int .i64 a1, .int .i64 a2, .int .i64 a3, .slice v4 l4 c4, .slice v5 l5 c5, .int .i64 a6] w fun e w' => e = .returned (.bool (zzB l0 l4 l5)) ∧ w' = w := by
  unfold maxLen at h0 h4 h5
  by_cases g0 : (1048576 : Int) < l0
  · go_enter Try.func7, Try.ntmps7
    go_wp2
    go_ret
    exact ⟨retB (by unfold zzB; rw [Bool.eq_iff_iff]; simp; omega), rfl⟩
  by_cases g4 : (1048576 : Int) < l0 + l4
  · by_cases g4' : (1048576 : Int) < l4
    all_goals
      go_enter Try.func7, Try.ntmps7
      go_wp2
      go_ret
      exact ⟨retB (by unfold zzB; rw [Bool.eq_iff_iff]; simp; omega), rfl⟩
  by_cases g5 : (1048576 : Int) < l0 + l4 + l5
  · by_cases g5' : (1048576 : Int) < l5
    all_goals
      go_enter Try.func7, Try.ntmps7
      go_wp2
      go_ret
      exact ⟨retB (by unfold zzB; rw [Bool.eq_iff_iff]; simp; omega), rfl⟩
  go_enter Try.func7, Try.ntmps7
  go_wp2
  go_ret
  exact ⟨retB (by unfold zzB; rw [Bool.eq_iff_iff]; simp; omega), rfl⟩


set_option maxRecDepth 1000000 in
set_option maxHeartbeats 400000 in
theorem moveE (p : Nat) (a : Option Addr) (len cap : Nat) (gs : Nat) (ge bl : Int) (a4 : Option Addr) (l4 c4 : Nat) (a5 : Option Addr) (l5 c5 : Nat) (w : World) (h : Buf w p a len cap gs ge bl a4 l4 c4 a5 l5 c5) :
    Calls Try.prog 26 #[.pointer (some ⟨p, 0, none⟩), .int .i64 gs] w fun e w' => e = .returned (.tuple #[]) ∧ w = w' := by
  obtain ⟨c0, c1, c2, -, -, -⟩ := h.cells
  clear h
  go_enter Try.func26, Try.ntmps26
  go_wp2
  go_returns
  exact ⟨rfl, rfl⟩

theorem splice_cur {cur : List Value} {zs : List Int} {len cap d : Nat} (Y : List Int) (hz : cur.take len = iv .i32 zs) (hl : zs.length = len) (hc : cur.length = cap) (hlc : len ≤ cap) (hd : d + Y.length ≤ len) :
    (splice cur d (iv .i32 Y)).take len = iv .i32 (splice zs d Y) ∧ (splice cur d (iv .i32 Y)).length = cap := by
  refine ⟨?_, by rw [length_splice _ _ _ (by rw [iv_len]; omega), hc]⟩
  have e : cur = iv .i32 zs ++ cur.drop len := by rw [← hz]; exact (List.take_append_drop len cur).symm
  have hil : (iv .i32 zs).length = len := by rw [iv_len, hl]
  have h1 : cur.take d = (iv .i32 zs).take d := by
    rw [← hz, List.take_take, Nat.min_eq_left (by omega)]
  have h2 : cur.drop (d + Y.length) = (iv .i32 zs).drop (d + Y.length) ++ cur.drop len := by
    rw [e, List.drop_append, hil, Nat.sub_eq_zero_of_le hd, List.drop_zero]
    congr 1
    rw [← e]
  have e2 : splice cur d (iv .i32 Y) = iv .i32 (splice zs d Y) ++ cur.drop len := by
    unfold splice
    rw [iv_len, h1, h2]
    simp [iv, List.append_assoc]
  rw [e2, List.take_append_of_le_length (by rw [iv_len, length_splice _ _ _ (by omega), hl]; omega), List.take_of_length_le (by rw [iv_len, length_splice _ _ _ (by omega), hl]; omega)]

section
variable (p g0 len cap gs ge pos : Nat) (bl : Int) (a4 : Option Addr) (l4 c4 : Nat) (a5 : Option Addr) (l5 c5 : Nat) (zs t : List Int) (cur : List Value) (w : World) (B0 B2 L W : Nat)

/-- The blocks that a move may write. -/
def Ws (p B0 B2 : Nat) (k : Nat) : Prop := k = p ∨ (B0 ≤ k ∧ k < B2)

theorem moveAny (h : St p g0 len cap bl B0 gs ge a4 l4 c4 a5 l5 c5 (nlB t gs) (nlA t (L - gs)) cur w) (h1 : gs ≤ ge) (h2 : ge ≤ len) (h3 : len ≤ cap) (h4 : len ≤ 1048576) (hcm : cap ≤ maxLen) (hcl : cur.length = cap) (hz : cur.take len = iv .i32 zs) (hzl : zs.length = len)
    (ht : txt zs gs ge = t) (hL : L + (ge - gs) = len) (hW : gs + W = ge) (hpL : pos ≤ L) (hB0 : B0 ≤ w.heap.size) (b0 : B0 ≤ g0) (b0' : g0 < B2) (b4 : ∀ y, a4 = some y → y.block < B2) (b5 : ∀ y, a5 = some y → y.block < B2) :
    Calls Try.prog 26 #[.pointer (some ⟨p, 0, none⟩), .int .i64 pos] w fun e w' => e = .returned (.tuple #[]) ∧ Kp (Ws p B0 B2) w w' ∧ Moved p bl t len W L pos w' := by
  have htl : t.length = L := by rw [← ht, txt_len hzl h1 h2]; omega
  have hl4 : l4 = (nlB t gs).length := by have := h.bef.1; rw [iv_len] at this; simpa using this.symm
  have hl5 : l5 = (nlA t (L - gs)).length := by have := h.aft.1; rw [iv_len] at this; simpa using this.symm
  have n4 := nlB_len t gs
  have n5 := nlA_len t (L - gs)
  have s0 : Ws p B0 B2 g0 := .inr ⟨b0, b0'⟩
  have sp : Ws p B0 B2 p := .inl rfl
  have s4 : InS (Ws p B0 B2) w.heap.size a4 := fun y hy => .inl (.inr ⟨own_ge h.bef y hy, b4 y hy⟩)
  have s5 : InS (Ws p B0 B2) w.heap.size a5 := fun y hy => .inl (.inr ⟨own_ge h.aft y hy, b5 y hy⟩)
  rcases Nat.lt_trichotomy pos gs with hp | hp | hp
  · obtain ⟨M, m1, m2, m3⟩ := nl_split t L pos htl (gs - pos) (by omega)
    rw [show pos + (gs - pos) = gs by omega] at m1 m2 m3
    rw [m1] at h
    refine (moveL p g0 len cap gs ge pos bl a4 l4 c4 a5 l5 c5 zs (nlB t pos) M (nlA t (L - gs)) cur w B0 L (Ws p B0 B2) h h1 h2 h3 h4 hcl hz hzl hp hL (fun y hy => (nlB_lt t pos y hy).2) m3 (by omega) (by omega) hB0 s0 sp s5).mono ?_
    rintro e w' ⟨rfl, hK, a', c', st⟩
    refine ⟨rfl, hK, ⟨_, cap, ge - (gs - pos), (nlB t pos).length, c4, l5 + M.length, c', a4, a', splice zs (ge - (gs - pos)) ((zs.drop pos).take (gs - pos)), st.buf, ?_, by omega, by omega, ?_, Rd_of_own st.bef, ?_, ?_, ?_⟩⟩
    · obtain ⟨q1, q2⟩ := splice_cur (d := ge - (gs - pos)) ((zs.drop pos).take (gs - pos)) hz hzl hcl h3 (by simp; omega)
      exact Rd.of_run st.run q1 h3 q2 hcm
    · rw [txt_left hzl h1 h2 (by omega), ht]
    · have := st.aft
      rw [carry_all, ← m2] at this
      exact Rd_of_own this
    · have := nlB_len t pos; omega
    · have e : (nlA t (L - pos)).length = l5 + M.length := by rw [m2, List.length_append, ← hl5]; simp
      have := nlA_len t (L - pos); omega
  · subst hp
    refine (moveE p _ len cap pos ge bl a4 l4 c4 a5 l5 c5 w h.buf).mono ?_
    rintro e w' ⟨rfl, rfl⟩
    exact ⟨rfl, Kp.refl _ _, ⟨_, cap, ge, l4, c4, l5, c5, a4, a5, zs, h.buf, Rd.of_run h.run hz h3 hcl hcm, hW, h2, ht, Rd_of_own h.bef, Rd_of_own h.aft, by omega, by omega⟩⟩
  · obtain ⟨M, m1, m2, m3⟩ := nl_split t L gs htl (pos - gs) (by omega)
    rw [show gs + (pos - gs) = pos by omega] at m1 m2 m3
    rw [m2] at h
    refine (moveR p g0 len cap gs ge pos bl a4 l4 c4 a5 l5 c5 zs (nlA t (L - pos)) (M.reverse.map (fun x => (L : Int) - x)) (nlB t gs) cur w B0 L (Ws p B0 B2) h h1 h2 h3 h4 hcl hz hzl hp hL hpL ?_ ?_ (by omega) (by omega) hB0 s0 sp s4).mono ?_
    · intro y hy; have := (nlA_lt t (L - pos) y hy).2; omega
    · intro y hy
      obtain ⟨x, hx, rfl⟩ := List.mem_map.1 hy
      have := m3 x (by simpa using hx)
      omega
    rintro e w' ⟨rfl, hK, a', c', st⟩
    refine ⟨rfl, hK, ⟨_, cap, ge + (pos - gs), l4 + (M.reverse.map (fun x => (L : Int) - x)).length, c', (nlA t (L - pos)).length, c5, a', a5, splice zs gs ((zs.drop ge).take (pos - gs)), st.buf, ?_, by omega, by omega, ?_, ?_, Rd_of_own st.aft, ?_, ?_⟩⟩
    · obtain ⟨q1, q2⟩ := splice_cur (d := gs) ((zs.drop ge).take (pos - gs)) hz hzl hcl h3 (by simp; omega)
      exact Rd.of_run st.run q1 h3 q2 hcm
    · rw [txt_right hzl h1 (by omega) (by omega), ht]
    · have := st.bef
      rw [carry_all, show ((M.reverse.map (fun x => (L : Int) - x)).reverse.map (fun x => (L : Int) - x)) = M by
        rw [← List.map_reverse, List.reverse_reverse, List.map_map]
        conv => rhs; rw [← List.map_id M]
        apply List.map_congr_left
        intro x _; simp; omega, ← m1] at this
      exact Rd_of_own this
    · have e : (nlB t pos).length = l4 + M.length := by rw [m1, List.length_append, ← hl4]
      have := nlB_len t pos; simp; omega
    · have := nlA_len t (L - pos); omega

set_option maxRecDepth 1000000 in
set_option maxHeartbeats 400000 in
theorem wrap15 {Q : Ending → World → Prop} (hQ : ∀ e w', Q e w' → e = .returned (.tuple #[])) (h : Calls Try.prog 26 #[.pointer (some ⟨p, 0, none⟩), .int .i64 pos] w Q) : Calls Try.prog 15 #[.pointer (some ⟨p, 0, none⟩), .int .i64 pos] w Q := by
  go_enter Try.func15, Try.ntmps15
  go_wp2_with (go_at_call 26; refine h.mono ?_; intro e w1 h1; obtain rfl := hQ e w1 h1)
  go_returns
  assumption
end
end Go.Proofs.Qxb6602056a
