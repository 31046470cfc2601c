import Derived.Test.Qxb6602056aI
import Derived.Deep.RegionHeld3
namespace Go.Proofs.Qxb6602056a
open Go.RowKit

/-- All that lay there when the call began is as it was, but for the blocks of S. -/
structure Kp (S : Nat → Prop) (w w' : World) : Prop where
  os : w'.os = w.os
  tape : w'.tape = w.tape
  output : w'.output = w.output
  size : w.heap.size ≤ w'.heap.size
  block : ∀ k, k < w.heap.size → ¬ S k → w'.heap[k]? = w.heap[k]?

theorem Kp.refl (S : Nat → Prop) (w : World) : Kp S w w := ⟨rfl, rfl, rfl, Nat.le_refl _, fun _ _ _ => rfl⟩
theorem Kp.drewN {S : Nat → Prop} {w w1 : World} (h : Kp S w w1) (n : Nat) : Kp S w (w1.drewN n) := ⟨h.os, h.tape, h.output, h.size, h.block⟩
theorem Kp.grown {S : Nat → Prop} {w w1 w2 : World} {row : Option Nat} (h : Kp S w w1) (g : w1.grownBy w2 row) (hr : ∀ k, row = some k → S k ∨ w.heap.size ≤ k) : Kp S w w2 :=
  ⟨g.os.trans h.os, g.tape.trans h.tape, g.output.trans h.output, Nat.le_trans h.size g.size, fun k hk hS => (g.block k (Nat.lt_of_lt_of_le hk h.size) (fun e => by
    rcases hr k e.symm with h1 | h1
    · exact hS h1
    · omega)).trans (h.block k hk hS)⟩
theorem Kp.setCell {S : Nat → Prop} {w w1 : World} (h : Kp S w w1) (p : Addr) (hp : S p.block) (u : Value) : Kp S w (w1.setCell p u) :=
  ⟨h.os, h.tape, h.output, by simpa [World.setCell] using h.size, fun k hk hS => (Below.heap_setCell _ _ _ _ (fun e => hS (by rw [e]; exact hp))).trans (h.block k hk hS)⟩

/-- Another world with the same blocks. -/
theorem step_cp {P : Program} {ops : Array Oper} {o : Oper} {a : Act} {w : World} {K : Act → World → Prop} {Q : Exit → Act → World → Prop} {E : Prop} (hgd : o.guard = none) (d s : Operand) (dT sT : TypeId)
    (ho : o.op = .call { callee := .builtin .copy, args := #[d, s], argTypes := #[dT, sT] }) (elem : TypeId) (hu : P.underlying dT = some (.slice elem)) (hsz : (P.info? elem).map (·.size) = some 1)
    (g off dLen dCap : Nat) (ad : Addr) (sLen sCap : Nat) (hd : a.eval d = .slice (some ⟨g, off, none⟩) dLen dCap) (hs : a.eval s = .slice (some ad) sLen sCap)
    (cur : List Value) (t : TypeId) (hg : w.heap[g]? = some (.cells cur.toArray t (0, 0))) (cs : List Value) (hn : cs.length = Nat.min sLen dLen)
    (hsrc : ∀ j v, cs[j]? = some v → w.cell? (ad.add j) = some v) (hfit : off + cs.length ≤ cur.length) (h1 : ∀ v ∈ cs, v.oneCell' = true)
    (h : ∀ w', Hid (w'.heap[g]? = some (.cells (splice cur off cs).toArray t (0, 0))) → w.grownBy w' (some g) → w'.heap.size = w.heap.size → K (a.put o.dst (goInt cs.length)) w') :
    if Region.wanted o (yielded ops a.tmps) = true then Oper.wp P o a w K Q else E := by
  have hw : Region.wanted o (yielded ops a.tmps) = true := by simp [Region.wanted, hgd]
  rw [if_pos hw]
  have hrun := run_copy_row (P := P) w dT sT o.type elem g off dLen dCap ad sLen sCap cur.toArray t cs hu hsz hg hn hsrc (by simpa using hfit) h1
  unfold Oper.wp
  simp [execOp, ho, resolve, invoke, builtin, hd, hs, hrun, Result.andThen]
  refine h _ (show _ = _ by simpa [splice] using setRow_heap w g _ _ t _ hg) ⟨rfl, rfl, rfl, by simp, fun k hk hne => setRow_other w g k _ (fun e => hne (by rw [e]))⟩ (by simp)

theorem Buf.grown {w w' : World} {p : Nat} {a : Option Addr} {len cap : Nat} {gs ge bl : Int} {a4 : Option Addr} {l4 c4 : Nat} {a5 : Option Addr} {l5 c5 : Nat} {row : Option Nat} (h : Buf w p a len cap gs ge bl a4 l4 c4 a5 l5 c5) (hg : w.grownBy w' row) (hne : some p ≠ row) :
    Buf w' p a len cap gs ge bl a4 l4 c4 a5 l5 c5 := by
  have := hg.block p h.lt hne
  unfold Buf at h ⊢
  rw [this, h]

theorem ne_of_kind {w : World} {g p : Nat} {x y : Array Value} {s t : TypeId} (h1 : w.heap[g]? = some (.cells x s (0, 0))) (h2 : w.heap[p]? = some (.cells y t (0, 0))) (h : s ≠ t) : p ≠ g := by
  rintro rfl
  rw [h1] at h2
  simp at h2
  exact h h2.2

theorem own_ne {w : World} {base n m cap g : Nat} {e t : TypeId} {a : Option Addr} {xs : List Value} {x : Array Value} (h : w.ownsRow base e 1 (.slice a n cap) m xs) (hg : w.heap[g]? = some (.cells x t (0, 0))) (hne : e ≠ t) : ∀ y, a = some y → y.block ≠ g := by
  rintro y rfl
  rcases h.2 with ⟨h0, _⟩ | ⟨g', cap', cur, hv, _, hh, _⟩
  · cases h0
  · cases hv
    exact ne_of_kind hg hh (Ne.symm hne)

theorem own_keep {w w' : World} {base n m cap : Nat} {e : TypeId} {a : Option Addr} {xs : List Value} {row : Option Nat} (h : w.ownsRow base e 1 (.slice a n cap) m xs) (hg : w.grownBy w' row) (hne : ∀ y, a = some y → some y.block ≠ row) : w'.ownsRow base e 1 (.slice a n cap) m xs := by
  refine h.kept hg ?_
  cases a with
  | none => exact .inl rfl
  | some y => exact .inr (hne y rfl)

theorem own_cut {w : World} {base n m cap : Nat} {e : TypeId} {a : Option Addr} {xs : List Value} (h : w.ownsRow base e 1 (.slice a n cap) n xs) (hm : m ≤ n) : w.ownsRow base e 1 (.slice a m cap) m (xs.take m) := by
  refine ⟨by rw [List.length_take, h.1]; omega, ?_⟩
  rcases h.2 with ⟨h0, h1⟩ | ⟨g', cap', cur, hv, hg, hh, hn, hcap, hsz, htake⟩
  · cases h0
    exact .inl ⟨by rw [show m = 0 by omega], by omega⟩
  · cases hv
    refine .inr ⟨g', cap, cur, rfl, hg, hh, by omega, hcap, hsz, ?_⟩
    rw [← htake, List.take_take, Nat.min_eq_left (by omega), Nat.mul_one]

/-- The buffer at p, its runes at block g0, its two lists. -/
structure St (p g0 len cap : Nat) (bl : Int) (B0 : Nat) (gs ge : Int) (a4 : Option Addr) (l4 c4 : Nat) (a5 : Option Addr) (l5 c5 : Nat) (zb za : List Int) (cur : List Value) (w : World) : Prop where
  buf : Buf w p (some ⟨g0, 0, none⟩) len cap gs ge bl a4 l4 c4 a5 l5 c5
  run : w.heap[g0]? = some (.cells cur.toArray 21 (0, 0))
  bef : w.ownsRow B0 3 1 (.slice a4 l4 c4) l4 (iv .i64 zb)
  aft : w.ownsRow B0 3 1 (.slice a5 l5 c5) l5 (iv .i64 za)
  ne : ∀ x y, a4 = some x → a5 = some y → x.block ≠ y.block

section
variable {p g0 len cap : Nat} {bl : Int} {B0 : Nat} {gs ge : Int} {a4 : Option Addr} {l4 c4 : Nat} {a5 : Option Addr} {l5 c5 : Nat} {zb za : List Int} {cur : List Value} {w : World}

theorem St.copy {cur' : List Value} {w' : World} (h : St p g0 len cap bl B0 gs ge a4 l4 c4 a5 l5 c5 zb za cur w) (hg : w.grownBy w' (some g0)) (hr : w'.heap[g0]? = some (.cells cur'.toArray 21 (0, 0))) :
    St p g0 len cap bl B0 gs ge a4 l4 c4 a5 l5 c5 zb za cur' w' :=
  ⟨h.buf.grown hg (by intro e; exact ne_of_kind h.run h.buf (by decide) (Option.some.inj e)), hr,
   own_keep h.bef hg (fun y hy e => own_ne h.bef h.run (by decide) y hy (Option.some.inj e)), own_keep h.aft hg (fun y hy e => own_ne h.aft h.run (by decide) y hy (Option.some.inj e)), h.ne⟩

theorem own_blk {w : World} {base n m cap : Nat} {e : TypeId} {a : Option Addr} {xs : List Value} (h : w.ownsRow base e 1 (.slice a n cap) m xs) : ∀ y, a = some y → y.block < w.heap.size := by
  rintro y rfl; exact (h.lt y.block rfl).2

theorem own_set {w : World} {base n m cap p i : Nat} {e t : TypeId} {a : Option Addr} {xs : List Value} {x : Array Value} (h : w.ownsRow base e 1 (.slice a n cap) m xs) (hp : w.heap[p]? = some (.cells x t (0, 0))) (hne : e ≠ t) (u : Value) : (w.setCell ⟨p, i, none⟩ u).ownsRow base e 1 (.slice a n cap) m xs :=
  own_keep (row := some p) h ⟨rfl, rfl, rfl, by simp [World.setCell], fun k hk hn => Below.heap_setCell _ _ _ _ (fun e => hn (by rw [e]))⟩ (fun y hy e => own_ne h hp hne y hy (Option.some.inj e))

/-- Behind 'buf.after = append(buf.after, u)'. -/
theorem St.app5 {a' : Option Addr} {c' : Nat} {u : Int} {w1 w2 : World} (h : St p g0 len cap bl B0 gs ge a4 l4 c4 a5 l5 c5 zb za cur w) (h1 : w.grownBy w1 none)
    (ho : w2.ownsRow B0 3 1 (.slice a' (l5 + 1) c') (l5 + 1) (iv .i64 za ++ [.int .i64 u])) (hg : w1.grownBy w2 (Value.ownBlock (.slice a5 l5 c5))) (hn : Near a5 w1.heap.size a') :
    Buf w2 p (some ⟨g0, 0, none⟩) len cap gs ge bl a4 l4 c4 a5 l5 c5 ∧ w2.ownsRow B0 3 1 (.slice a4 l4 c4) l4 (iv .i64 zb) ∧
    St p g0 len cap bl B0 gs ge a4 l4 c4 a' (l5 + 1) c' zb (za ++ [u]) cur (w2.setCell ⟨p, 5, none⟩ (.slice a' (l5 + 1) c')) := by
  have hrow : ∀ k, Value.ownBlock (.slice a5 l5 c5) = some k → ∃ y, a5 = some y ∧ y.block = k := by
    intro k hk
    cases a5 with
    | none => cases hk
    | some y => exact ⟨y, rfl, Option.some.inj hk⟩
  have g2 : w.heap[p]? = w2.heap[p]? := by
    have e1 := h1.block p h.buf.lt (by intro e; cases e)
    rw [hg.block p (Nat.lt_of_lt_of_le h.buf.lt h1.size) (fun e => by obtain ⟨y, hy, he⟩ := hrow p e.symm; exact own_ne h.aft h.buf (by decide) y hy he), e1]
  have hB : Buf w2 p (some ⟨g0, 0, none⟩) len cap gs ge bl a4 l4 c4 a5 l5 c5 := by unfold Buf; rw [← g2]; exact h.buf
  have hbef : w2.ownsRow B0 3 1 (.slice a4 l4 c4) l4 (iv .i64 zb) :=
    own_keep (own_keep h.bef h1 (fun y hy e => by cases e)) hg (fun y hy e => by obtain ⟨z, hz, he⟩ := hrow _ e.symm; exact h.ne y z hy hz he.symm)
  have hrun : w2.heap[g0]? = some (.cells cur.toArray 21 (0, 0)) := by
    have lt := (Array.getElem?_eq_some_iff.1 h.run).1
    rw [hg.block g0 (Nat.lt_of_lt_of_le lt h1.size) (fun e => by obtain ⟨y, hy, he⟩ := hrow g0 e.symm; exact own_ne h.aft h.run (by decide) y hy he), h1.block g0 lt (by intro e; cases e)]
    exact h.run
  refine ⟨hB, hbef, ?_, ?_, own_set hbef hB (by decide) _, ?_, ?_⟩
  · unfold Buf at hB ⊢
    rw [heap_setCell_same _ p 5 _ 42 _ hB]
    rfl
  · have hpg : p ≠ g0 := ne_of_kind hrun hB (by decide)
    rw [heap_setCell_other _ _ _ _ (Ne.symm hpg)]; exact hrun
  · rw [← iv_snoc] at ho; exact own_set ho hB (by decide) _
  · intro x y hx hy e
    rcases hn y hy with ⟨z, hz, he⟩ | hle
    · exact h.ne x z hx hz (by rw [e, he])
    · have := own_blk h.bef x hx; have := h1.size; omega
/-- Behind 'buf.before = append(buf.before, u)'. -/
theorem St.app4 {a' : Option Addr} {c' : Nat} {u : Int} {w1 w2 : World} (h : St p g0 len cap bl B0 gs ge a4 l4 c4 a5 l5 c5 zb za cur w) (h1 : w.grownBy w1 none)
    (ho : w2.ownsRow B0 3 1 (.slice a' (l4 + 1) c') (l4 + 1) (iv .i64 zb ++ [.int .i64 u])) (hg : w1.grownBy w2 (Value.ownBlock (.slice a4 l4 c4))) (hn : Near a4 w1.heap.size a') :
    Buf w2 p (some ⟨g0, 0, none⟩) len cap gs ge bl a4 l4 c4 a5 l5 c5 ∧ w2.ownsRow B0 3 1 (.slice a5 l5 c5) l5 (iv .i64 za) ∧
    St p g0 len cap bl B0 gs ge a' (l4 + 1) c' a5 l5 c5 (zb ++ [u]) za cur (w2.setCell ⟨p, 4, none⟩ (.slice a' (l4 + 1) c')) := by
  have hrow : ∀ k, Value.ownBlock (.slice a4 l4 c4) = some k → ∃ y, a4 = some y ∧ y.block = k := by
    intro k hk
    cases a4 with
    | none => cases hk
    | some y => exact ⟨y, rfl, Option.some.inj hk⟩
  have g2 : w.heap[p]? = w2.heap[p]? := by
    have e1 := h1.block p h.buf.lt (by intro e; cases e)
    rw [hg.block p (Nat.lt_of_lt_of_le h.buf.lt h1.size) (fun e => by obtain ⟨y, hy, he⟩ := hrow p e.symm; exact own_ne h.bef h.buf (by decide) y hy he), e1]
  have hB : Buf w2 p (some ⟨g0, 0, none⟩) len cap gs ge bl a4 l4 c4 a5 l5 c5 := by unfold Buf; rw [← g2]; exact h.buf
  have hbef : w2.ownsRow B0 3 1 (.slice a5 l5 c5) l5 (iv .i64 za) :=
    own_keep (own_keep h.aft h1 (fun y hy e => by cases e)) hg (fun y hy e => by obtain ⟨z, hz, he⟩ := hrow _ e.symm; exact h.ne z y hz hy he)
  have hrun : w2.heap[g0]? = some (.cells cur.toArray 21 (0, 0)) := by
    have lt := (Array.getElem?_eq_some_iff.1 h.run).1
    rw [hg.block g0 (Nat.lt_of_lt_of_le lt h1.size) (fun e => by obtain ⟨y, hy, he⟩ := hrow g0 e.symm; exact own_ne h.bef h.run (by decide) y hy he), h1.block g0 lt (by intro e; cases e)]
    exact h.run
  refine ⟨hB, hbef, ?_, ?_, ?_, own_set hbef hB (by decide) _, ?_⟩
  · unfold Buf at hB ⊢
    rw [heap_setCell_same _ p 4 _ 42 _ hB]
    rfl
  · have hpg : p ≠ g0 := ne_of_kind hrun hB (by decide)
    rw [heap_setCell_other _ _ _ _ (Ne.symm hpg)]; exact hrun
  · rw [← iv_snoc] at ho; exact own_set ho hB (by decide) _
  · intro x y hx hy e
    rcases hn x hx with ⟨z, hz, he⟩ | hle
    · exact h.ne z y hz hy (by rw [he, e])
    · have := own_blk h.aft y hy; have := h1.size; omega

/-- Behind the last three stores of a move to the left. -/
theorem St.fin4 {P M : List Int} (h : St p g0 len cap bl B0 gs ge a4 l4 c4 a5 l5 c5 (P ++ M) za cur w) (gs' ge' : Int) :
    St p g0 len cap bl B0 gs' ge' a4 P.length c4 a5 l5 c5 P za cur (((w.setCell ⟨p, 4, none⟩ (.slice a4 P.length c4)).setCell ⟨p, 1, none⟩ (.int .i64 gs')).setCell ⟨p, 2, none⟩ (.int .i64 ge')) := by
  have hB := h.buf
  unfold Buf at hB
  have hpg : p ≠ g0 := ne_of_kind h.run hB (by decide)
  have b1 := heap_setCell_same _ p 4 _ 42 (.slice a4 P.length c4) hB
  have b2 := heap_setCell_same _ p 1 _ 42 (.int .i64 gs') b1
  have b3 := heap_setCell_same _ p 2 _ 42 (.int .i64 ge') b2
  have hl4 : P.length ≤ l4 := by have := h.bef.1; rw [iv_len] at this; simp at this; omega
  have hbef := own_cut h.bef hl4
  rw [show (iv .i64 (P ++ M)).take P.length = iv .i64 P by simp [iv]] at hbef
  refine ⟨by unfold Buf; rw [b3]; rfl, ?_, own_set (own_set (own_set hbef hB (by decide) _) b1 (by decide) _) b2 (by decide) _, own_set (own_set (own_set h.aft hB (by decide) _) b1 (by decide) _) b2 (by decide) _, h.ne⟩
  rw [heap_setCell_other _ _ _ _ (Ne.symm hpg), heap_setCell_other _ _ _ _ (Ne.symm hpg), heap_setCell_other _ _ _ _ (Ne.symm hpg)]
  exact h.run

theorem St.fin5 {P M : List Int} (h : St p g0 len cap bl B0 gs ge a4 l4 c4 a5 l5 c5 zb (P ++ M) cur w) (gs' ge' : Int) :
    St p g0 len cap bl B0 gs' ge' a4 l4 c4 a5 P.length c5 zb P cur (((w.setCell ⟨p, 5, none⟩ (.slice a5 P.length c5)).setCell ⟨p, 1, none⟩ (.int .i64 gs')).setCell ⟨p, 2, none⟩ (.int .i64 ge')) := by
  have hB := h.buf
  unfold Buf at hB
  have hpg : p ≠ g0 := ne_of_kind h.run hB (by decide)
  have b1 := heap_setCell_same _ p 5 _ 42 (.slice a5 P.length c5) hB
  have b2 := heap_setCell_same _ p 1 _ 42 (.int .i64 gs') b1
  have b3 := heap_setCell_same _ p 2 _ 42 (.int .i64 ge') b2
  have hl5 : P.length ≤ l5 := by have := h.aft.1; rw [iv_len] at this; simp at this; omega
  have haft := own_cut h.aft hl5
  rw [show (iv .i64 (P ++ M)).take P.length = iv .i64 P by simp [iv]] at haft
  refine ⟨by unfold Buf; rw [b3]; rfl, ?_, own_set (own_set (own_set h.bef hB (by decide) _) b1 (by decide) _) b2 (by decide) _, own_set (own_set (own_set haft hB (by decide) _) b1 (by decide) _) b2 (by decide) _, h.ne⟩
  rw [heap_setCell_other _ _ _ _ (Ne.symm hpg), heap_setCell_other _ _ _ _ (Ne.symm hpg), heap_setCell_other _ _ _ _ (Ne.symm hpg)]
  exact h.run

theorem Kp.three {S : Nat → Prop} {w w1 : World} (h : Kp S w w1) (sp : S p) (i j k : Nat) (u v x : Value) : Kp S w (((w1.setCell ⟨p, i, none⟩ u).setCell ⟨p, j, none⟩ v).setCell ⟨p, k, none⟩ x) :=
  ((h.setCell _ sp u).setCell _ sp v).setCell _ sp x
end
end Go.Proofs.Qxb6602056a
