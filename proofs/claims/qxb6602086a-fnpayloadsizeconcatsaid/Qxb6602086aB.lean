import Derived.Test.Qxb6602086aA
namespace Go.Proofs.Qxb6602086a
open Go.RowKit

def body (la sa : Nat) : Int := if la ≤ 65536 ∧ 24 * la + sa ≤ 1048576 then ((24 * la + sa : Nat) : Int) else -1

set_option maxRecDepth 100000 in
set_option maxHeartbeats 1000000 in
theorem bodyC (a : Option Addr) (la ca : Nat) (A1 : Nat → Option Addr) (L1 C1 : Nat → Nat) (w : World) (h1 : Bs w a la A1 L1 C1) (m1 : la ≤ maxLen) :
    Calls Try.prog 8 #[.slice a la ca] w fun e w' => e = .returned (.int .i64 (body la (sumL L1 la))) ∧ w = w' := by
  obtain ⟨b1, h1⟩ := h1
  unfold maxLen at m1
  have no : ∀ z : Int, z = -1 → ¬ (la ≤ 65536 ∧ 24 * la + sumL L1 la ≤ 1048576) → Ending.returned (.int .i64 z) = .returned (.int .i64 (body la (sumL L1 la))) := fun z hz h => by rw [hz]; unfold body; rw [if_neg h]
  have N : Hid (∀ z : Int, z = -1 → ¬ (la ≤ 65536 ∧ 24 * la + sumL L1 la ≤ 1048576) → Ending.returned (.int .i64 z) = .returned (.int .i64 (body la (sumL L1 la)))) := no
  clear no
  by_cases g1 : (65536 : Int) < la
  · go_enter Try.func8, Try.ntmps8
    go_wp2
    go_ret
    exact ⟨N.out _ rfl (by omega), rfl⟩
  by_cases g2 : (1048576 : Int) < 24 * la
  · go_enter Try.func8, Try.ntmps8
    go_wp2
    go_ret
    exact ⟨N.out _ rfl (by omega), rfl⟩
  go_enter Try.func8, Try.ntmps8
  go_wp2
  go_loop [3, 4] (fun t i => ∃ k : Nat, k ≤ la ∧ i = .int .i64 (k : Int) ∧ 24 * la + sumL L1 k ≤ 1048576 ∧ t = .int .i64 ((24 * la + sumL L1 k : Nat) : Int)) (fun _ i => la - (intOf i).toNat)
  case atStart => exact ⟨0, Nat.zero_le _, rfl, by simp [sumL]; omega, by simp [sumL]⟩
  case round =>
    obtain ⟨k, hk, rfl, hs, rfl⟩ := hrel
    by_cases hlt : k < la
    · obtain ⟨b0, off, rfl, hbl, hc⟩ := h1.resolve_left (by omega)
      have hcx := hc k hlt
      have hbk := b1 k hlt
      unfold maxLen at hbk
      have hsum : sumL L1 (k + 1) = sumL L1 k + L1 k := rfl
      have hmono := sumL_mono L1 (show k + 1 ≤ la by omega)
      generalize L1 k = x at hcx hbk hsum
      rw [hsum] at hmono
      have HS : Hid (sumL L1 (k + 1) = sumL L1 k + x) := hsum
      clear hc hsum
      by_cases hx : (1048576 : Int) < x
      · go_wp2
        go_ret
        exact ⟨N.out _ rfl (by omega), rfl⟩
      by_cases hy : (1048576 : Int) < ((24 * la + sumL L1 k : Nat) : Int) + x
      · go_wp2
        go_ret
        exact ⟨N.out _ rfl (by omega), rfl⟩
      · go_wp2
        go_round
        case rel => exact ⟨k + 1, by omega, by go_num, by rw [HS.out]; omega, by rw [HS.out]; go_num⟩
        case measure => simp [intOf]; omega
    · obtain rfl : k = la := by omega
      go_wp2
      go_ret
      have e : body k (sumL L1 k) = ((24 * k + sumL L1 k : Nat) : Int) := if_pos (by omega)
      rw [e]
      exact ⟨retI (by omega), rfl⟩

set_option maxRecDepth 100000 in
set_option maxHeartbeats 1000000 in
theorem payC (a : Option Addr) (la ca : Nat) (A1 : Nat → Option Addr) (L1 C1 : Nat → Nat) (w : World) (h1 : Bs w a la A1 L1 C1) (m1 : la ≤ 1048576) (m2 : sumL L1 la ≤ 2097152) :
    Calls Try.prog 17 #[.slice a la ca] w fun e w' => e = .returned (.int .i64 ((20 + 4 * la + sumL L1 la : Nat) : Int)) ∧ w = w' := by
  obtain ⟨-, h1⟩ := h1
  go_enter Try.func17, Try.ntmps17
  go_wp2
  go_loop [3, 9] (fun t i => ∃ k : Nat, k ≤ la ∧ i = .int .i64 (k : Int) ∧ t = .int .i64 ((20 + 4 * k + sumL L1 k : Nat) : Int)) (fun _ i => la - (intOf i).toNat)
  case atStart => exact ⟨0, Nat.zero_le _, rfl, by simp [sumL]⟩
  case round =>
    obtain ⟨k, hk, rfl, rfl⟩ := hrel
    by_cases hlt : k < la
    · obtain ⟨b0, off, rfl, hbl, hc⟩ := h1.resolve_left (by omega)
      have hcx := hc k hlt
      have hsum : sumL L1 (k + 1) = sumL L1 k + L1 k := rfl
      have hmono := sumL_mono L1 (show k + 1 ≤ la by omega)
      generalize L1 k = x at hcx hsum
      rw [hsum] at hmono
      have HS : Hid (sumL L1 (k + 1) = sumL L1 k + x) := hsum
      clear hc hsum
      go_wp2
      go_round
      case rel => exact ⟨k + 1, by omega, by go_num, by rw [HS.out]; go_num⟩
      case measure => simp [intOf]; omega
    · obtain rfl : k = la := by omega
      go_wp2
      go_ret
      exact ⟨rfl, rfl⟩

set_option maxHeartbeats 400000 in
theorem zzpayC (a : Option Addr) (la ca : Nat) (A1 : Nat → Option Addr) (L1 C1 : Nat → Nat) (w : World) (h1 : Bs w a la A1 L1 C1) (m1 : la ≤ 1048576) (m2 : sumL L1 la ≤ 2097152) :
    Calls Try.prog 9 #[.slice a la ca] w fun e w' => e = .returned (.int .i64 ((20 + 4 * la + sumL L1 la : Nat) : Int)) ∧ w = w' := by
  go_enter Try.func9, Try.ntmps9
  go_wp2_with (go_at_call 17; refine (payC _ _ _ _ _ _ _ h1 m1 m2).mono ?_; rintro e w' ⟨rfl, rfl⟩)
  go_ret
  exact ⟨rfl, rfl⟩

/-- The cells of a slice of slices. -/
def cel (A : Nat → Option Addr) (L C : Nat → Nat) : Nat → List Value
  | 0 => []
  | k + 1 => cel A L C k ++ [.slice (A k) (L k) (C k)]
theorem cel_len (A : Nat → Option Addr) (L C : Nat → Nat) : ∀ k, (cel A L C k).length = k
  | 0 => rfl
  | k + 1 => by simp [cel, cel_len A L C k]
theorem cel_get (A : Nat → Option Addr) (L C : Nat → Nat) : ∀ k r, r < k → (cel A L C k)[r]? = some (.slice (A r) (L r) (C r))
  | 0, r, h => absurd h (by omega)
  | k + 1, r, h => by
    simp only [cel]
    rcases Nat.lt_or_eq_of_le (Nat.le_of_lt_succ h) with h | h
    · rw [List.getElem?_append_left (by rw [cel_len]; exact h)]; exact cel_get A L C k r h
    · subst h; rw [List.getElem?_append_right (by rw [cel_len]; exact Nat.le_refl _), cel_len]; simp

theorem Bs_of_own {w : World} {base n cap : Nat} {a : Option Addr} {A : Nat → Option Addr} {L C : Nat → Nat} (h : w.ownsRow base 25 1 (.slice a n cap) n (cel A L C n)) (hm : ∀ r, r < n → L r ≤ maxLen) : Bs w a n A L C := by
  refine ⟨hm, ?_⟩
  rcases h.2 with ⟨h0, h1⟩ | ⟨g', cap', cur, hv, hg, hh, hn, hcap, hsz, htake⟩
  · exact .inl h1
  · cases hv
    refine .inr ⟨g', 0, rfl, (Array.getElem?_eq_some_iff.1 hh).1, fun i hi => ?_⟩
    have := h.cells (g := g') rfl i _ (cel_get A L C n i hi)
    rwa [Addr.add_lit] at this

/-- The two one behind the other. -/
def cat {α : Type} (la : Nat) (f g : Nat → α) (r : Nat) : α := if r < la then f r else g (r - la)
theorem cat_lo {α : Type} {la : Nat} {f g : Nat → α} {r : Nat} (h : r < la) : cat la f g r = f r := if_pos h
theorem cat_hi {α : Type} {la : Nat} {f g : Nat → α} {r : Nat} : cat la f g (la + r) = g r := by unfold cat; rw [if_neg (by omega)]; congr 1; omega
theorem sum_lo {la : Nat} {f g : Nat → Nat} : ∀ k, k ≤ la → sumL (cat la f g) k = sumL f k
  | 0, _ => rfl
  | k + 1, h => by simp only [sumL]; rw [sum_lo k (by omega), cat_lo (by omega)]
theorem sum_hi {la : Nat} {f g : Nat → Nat} : ∀ k, sumL (cat la f g) (la + k) = sumL f la + sumL g k
  | 0 => by simp [sumL, sum_lo]
  | k + 1 => by rw [← Nat.add_assoc]; simp only [sumL]; rw [sum_hi k, cat_hi]; omega
end Go.Proofs.Qxb6602086a
