import Derived.Test.Qxb6602086aA
import Derived.Laws.CopyOwn
namespace Go.Proofs.Qxb6602086a
open Go.RowKit

/-- The index at 'a' reads as the entries 'es' (offset, position). -/
def Ix (w : World) (a : Option Addr) (n : Nat) (es : List (Int × Int)) : Prop :=
  es.length = n ∧ (n = 0 ∨ ∃ b off, a = some ⟨b, off, none⟩ ∧ b < w.heap.size ∧ ∀ i, i < n → w.cell? ⟨b, off + i * 2, none⟩ = some (.int .u64 (es.getD i (0, 0)).1) ∧ w.cell? ⟨b, off + i * 2 + 1, none⟩ = some (.int .i64 (es.getD i (0, 0)).2))

theorem Ix.keep {w w' : World} {a : Option Addr} {n : Nat} {es : List (Int × Int)} (h : Ix w a n es) (hb : Below w.heap.size w w') : Ix w' a n es := by
  obtain ⟨h1, h2⟩ := h
  refine ⟨h1, ?_⟩
  rcases h2 with h2 | ⟨b, off, rfl, hlt, hc⟩
  · exact .inl h2
  · exact .inr ⟨b, off, rfl, Nat.lt_of_lt_of_le hlt hb.size, fun i hi => ⟨(hb.cell (by exact hlt)).trans (hc i hi).1, (hb.cell (by exact hlt)).trans (hc i hi).2⟩⟩

theorem below_n {B : Nat} {a w : World} (h : Below B a w) (n : Nat) : Below B a (w.drewN n) := ⟨h.os, h.tape, h.output, h.size, h.block⟩

set_option maxHeartbeats 400000 in
theorem atC (a : Option Addr) (n c k : Nat) (es : List (Int × Int)) (w : World) (h : Ix w a n es) (hk : k < n) (_hn : n ≤ 9000000) (o p : Int) (ho : (es.getD k (0, 0)).1 = o) (hp : (es.getD k (0, 0)).2 = p) :
    Calls Try.prog 14 #[.slice a n c, .int .i64 (k : Int)] w fun e w' => e = .returned (.tuple #[.int .u64 o, .int .i64 p]) ∧ Below w.heap.size w w' := by
  obtain ⟨-, h⟩ := h
  obtain ⟨b, off, rfl, -, hc⟩ := h.resolve_left (by omega)
  obtain ⟨c1, c2⟩ := hc k hk
  rw [ho] at c1
  rw [hp] at c2
  clear hc h ho hp
  go_enter Try.func14, Try.ntmps14
  go_wp2
  go_quiet (fail)
  go_wp2
  go_ret2
  exact ⟨rfl, below_n (Below.refl _ _) _⟩

theorem Try.info39 : (Try.prog.info? 39).map (fun i => (i.zero, i.size, i.bytes)) = some (some (.agg #[.int .u64 0, .int .i64 0]), 2, 16) := by kernel_rfl

/-- The entries as cells. -/
def pc : List (Int × Int) → List Value
  | [] => []
  | e :: r => .int .u64 e.1 :: .int .i64 e.2 :: pc r
theorem pc_len : ∀ es, (pc es).length = es.length * 2
  | [] => rfl
  | e :: r => by simp [pc, pc_len r]; omega
theorem pc_append : ∀ es fs, pc (es ++ fs) = pc es ++ pc fs
  | [], fs => rfl
  | e :: r, fs => by simp [pc, pc_append r fs]
theorem pc_get : ∀ es i, i < es.length → (pc es)[i * 2]? = some (.int .u64 (es.getD i (0, 0)).1) ∧ (pc es)[i * 2 + 1]? = some (.int .i64 (es.getD i (0, 0)).2)
  | [], i, h => absurd h (by simp)
  | e :: r, 0, h => by simp [pc]
  | e :: r, i + 1, h => by
    have := pc_get r i (by simpa using h)
    rw [show (i + 1) * 2 = i * 2 + 1 + 1 by omega]
    simpa [pc] using this

/-- An index of the call's own. -/
def Oi (B : Nat) (a : Option Addr) (n c : Nat) (es : List (Int × Int)) (w : World) : Prop := w.ownsRow B 39 2 (.slice a n c) n (pc es)

theorem Oi.len {B : Nat} {a : Option Addr} {n c : Nat} {es : List (Int × Int)} {w : World} (h : Oi B a n c es w) : es.length = n := by
  have := h.1; rw [pc_len] at this; omega
theorem Oi.ix {B : Nat} {a : Option Addr} {n c : Nat} {es : List (Int × Int)} {w : World} (h : Oi B a n c es w) : Ix w a n es := by
  have hl := h.len
  refine ⟨hl, ?_⟩
  rcases h.2 with ⟨h0, h1⟩ | ⟨g', cap', cur, hv, hg, hh, hn, hcap, hsz, htake⟩
  · exact .inl h1
  · cases hv
    refine .inr ⟨g', 0, rfl, (Array.getElem?_eq_some_iff.1 hh).1, fun i hi => ?_⟩
    obtain ⟨p1, p2⟩ := pc_get es i (by omega)
    have c1 := World.ownsRow.cells h (g := g') rfl _ _ p1
    have c2 := World.ownsRow.cells h (g := g') rfl _ _ p2
    rw [Addr.add_lit] at c1 c2
    exact ⟨c1, by rw [Nat.add_assoc]; exact c2⟩
theorem Oi.below {B : Nat} {a : Option Addr} {n c : Nat} {es : List (Int × Int)} {w w' : World} (h : Oi B a n c es w) (hb : Below w.heap.size w w') : Oi B a n c es w' := by
  refine World.ownsRow.kept (row := none) h ⟨hb.os, hb.tape, hb.output, hb.size, fun k hk _ => hb.block k hk⟩ ?_
  cases hv : Value.ownBlock (.slice a n c) <;> simp

/-- Is the batch at p too near to the last entry? -/
def near (es : List (Int × Int)) (p : Int) : Bool := decide (¬ es = [] ∧ wrap64 (p - (es.getD (es.length - 1) (0, 0)).2) < 65536)
def idxB (es : List (Int × Int)) (o p : Int) : List (Int × Int) := if near es p = true then es else es ++ [(o, p)]

theorem form2 {w : World} {base : Nat} {e : TypeId} {s : Nat} {v : Value} {n : Nat} {xs : List Value} (h : w.ownsRow base e s v n xs) : ∃ a c, v = .slice a n c := by
  rcases h.2 with ⟨h0, h1⟩ | ⟨g', cap', cur, hv, hg, hh, hn, hcap, hsz, htake⟩
  · exact ⟨none, 0, by rw [h0, h1]⟩
  · exact ⟨_, _, hv⟩

set_option maxHeartbeats 1000000 in
theorem batchC (B : Nat) (a : Option Addr) (n c : Nat) (es : List (Int × Int)) (o p : Int) (w : World) (h : Oi B a n c es w) (hn : n ≤ 9000000) (hB : B ≤ w.heap.size) :
    Calls Try.prog 18 #[.slice a n c, .int .u64 o, .int .i64 p] w fun e w' => ∃ a' n' c', e = .returned (.slice a' n' c') ∧ Oi B a' n' c' (idxB es o p) w' ∧ Below B w w' := by
  obtain ⟨i0, hi, hz0, hz1, hz2⟩ := info_parts Try.info39
  have hl := h.len
  by_cases h0 : n = 0
  · subst h0
    obtain rfl := List.eq_nil_of_length_eq_zero hl
    have e : idxB [] o p = [(o, p)] := by simp [idxB, near]
    rw [e]
    clear hl e
    go_enter Try.func18, Try.ntmps18
    go_wp2_with (at_builtin; refine wpList_append_own _ rfl (.tmp 24) (.tmp 28) 31 rfl B 39 i0 (.agg #[.int .u64 0, .int .i64 0]) 2 16 Try.underlying31 hi hz0 hz1 hz2 rfl (by decide) _ _ _ rfl (World.ownsRow.alloc h _) ⟨w.heap.size, 0, none⟩ 1 1 [.int .u64 o, .int .i64 p] rfl rfl (cell_two_new _ _ _ _) (by intro u hu; simp at hu; rcases hu with rfl | rfl <;> rfl) (by unfold maxLen; omega) (by omega) (by simp; omega) ?_)
    intro v' w1 hown' hgrow _
    obtain ⟨a', c', rfl⟩ := form2 hown'
    have hb : Below B w w1 := ((Below.refl B w).alloc hB _).grown hgrow (by simp; omega) (fun k hk => (World.ownsRow.lt h k hk).1)
    clear hgrow
    go_wp2
    go_ret
    exact ⟨a', 1, c', rfl, hown', hb⟩
  · obtain ⟨j, hj⟩ : ∃ j, j + 1 = n := ⟨n - 1, by omega⟩
    obtain ⟨-, hix⟩ := h.ix
    obtain ⟨b, off, rfl, -, hc⟩ := hix.resolve_left h0
    obtain ⟨c1, c2⟩ := hc j (by omega)
    have hne : ¬ es = [] := by rintro rfl; simp at hl; omega
    have hlast : near es p = decide (wrap64 (p - (es.getD j (0, 0)).2) < 65536) := by
      unfold near
      rw [show es.length - 1 = j by omega]
      simp [hne]
    generalize (es.getD j (0, 0)).2 = x at c2 hlast
    have hnj : (n : Int) - 1 = (j : Int) := by omega
    have hpos : (0 : Int) < n := by omega
    have hj1 : j < n := by omega
    have hj2 : n ≤ j + 1 := by omega
    have H : Hid (Oi B (some ⟨b, off, none⟩) n c es w) := h
    clear c1 hc hix hl hne hj h0
    by_cases hd : wrap64 (p - x) < 65536
    · have e : idxB es o p = es := by unfold idxB; rw [if_pos (by rw [hlast]; simpa using hd)]
      rw [e]
      clear hlast e
      go_enter Try.func18, Try.ntmps18
      go_wp2
      go_ret
      exact ⟨some ⟨b, off, none⟩, n, c, rfl, H.out, Below.refl _ _⟩
    · have e : idxB es o p = es ++ [(o, p)] := by unfold idxB; rw [if_neg (by rw [hlast]; simpa using hd)]
      rw [e]
      clear hlast e
      go_enter Try.func18, Try.ntmps18
      go_wp2_with (at_builtin; refine wpList_append_own _ rfl (.tmp 24) (.tmp 28) 31 rfl B 39 i0 (.agg #[.int .u64 0, .int .i64 0]) 2 16 Try.underlying31 hi hz0 hz1 hz2 rfl (by decide) _ _ _ rfl (World.ownsRow.alloc h _) ⟨w.heap.size, 0, none⟩ 1 1 [.int .u64 o, .int .i64 p] rfl rfl (cell_two_new _ _ _ _) (by intro u hu; simp at hu; rcases hu with rfl | rfl <;> rfl) (by unfold maxLen; omega) (by omega) (by simp; omega) ?_)
      intro v' w1 hown' hgrow _
      obtain ⟨a', c', rfl⟩ := form2 hown'
      have hb : Below B w w1 := ((Below.refl B w).alloc hB _).grown hgrow (by simp; omega) (fun k hk => (World.ownsRow.lt h k hk).1)
      clear hgrow
      go_wp2
      go_ret
      refine ⟨a', n + 1, c', rfl, ?_, hb⟩
      show w1.ownsRow B 39 2 (.slice a' (n + 1) c') (n + 1) (pc (es ++ [(o, p)]))
      rw [pc_append]
      exact hown'

set_option maxHeartbeats 400000 in
theorem zzbatchC (B : Nat) (a : Option Addr) (n c : Nat) (es : List (Int × Int)) (o p : Int) (w : World) (h : Oi B a n c es w) (hn : n ≤ 9000000) (hB : B ≤ w.heap.size) :
    Calls Try.prog 11 #[.slice a n c, .int .u64 o, .int .i64 p] w fun e w' => ∃ a' n' c', e = .returned (.slice a' n' c') ∧ Oi B a' n' c' (idxB es o p) w' ∧ Below B w w' := by
  go_enter Try.func11, Try.ntmps11
  go_wp2_with (go_at_call 18; refine (batchC B a n c es o p w h hn hB).mono ?_; rintro e w1 ⟨a', n', c', rfl, h1, h2⟩)
  go_ret
  exact ⟨a', n', c', rfl, h1, h2⟩

set_option maxHeartbeats 400000 in
theorem lenC (a : Option Addr) (n c : Nat) (w : World) : Calls Try.prog 13 #[.slice a n c] w fun e w' => e = .returned (.int .i64 (n : Int)) ∧ w = w' := by
  go_enter Try.func13, Try.ntmps13
  go_wp2
  go_ret
  exact ⟨rfl, rfl⟩
end Go.Proofs.Qxb6602086a
