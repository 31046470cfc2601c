import Derived.Test.Qxb6602056aG
namespace Go.Proofs.Qxb6602056a
open Go.RowKit

def lessB (x y : Int) : Bool := decide (x < y)

set_option maxHeartbeats 400000 in
theorem lessC (x y : Int) (w : World) : Calls Try.prog 31 #[.int .i64 x, .int .i64 y] w fun e w' => e = .returned (.bool (lessB x y)) ∧ w = w' := by
  go_enter Try.func31, Try.ntmps31
  go_wp2
  go_ret
  exact ⟨rfl, rfl⟩

/-- The place m parts the list: below it all is less than the target, from it on nothing is. -/
def Parts (zs : List Int) (m : Nat) (x : Int) : Prop := m ≤ zs.length ∧ (∀ i, i < m → zs.getD i 0 < x) ∧ ∀ i, m ≤ i → i < zs.length → ¬ zs.getD i 0 < x

def fnd (zs : List Int) (m : Nat) (x : Int) : Bool := decide (m < zs.length ∧ zs.getD m 0 = x)

set_option maxHeartbeats 1000000 in
theorem bsearch (a : Option Addr) (len cap : Nat) (zs : List Int) (x : Int) (m : Nat) (w : World) (h : Rd .i64 w a len zs) (hp : Parts zs m x) (hm : len ≤ 9000000) :
    Calls Try.prog 28 #[.slice a len cap, .int .i64 x] w fun e w' => e = .returned (.tuple #[.int .i64 (m : Int), .bool (fnd zs m x)]) ∧ w = w' := by
  obtain ⟨hl, h⟩ := h
  have HL : Hid (zs.length = len) := hl
  obtain ⟨p1, p2, p3⟩ := hp
  have m1 : m ≤ len := by omega
  have HP : Hid ((∀ i, i < m → zs.getD i 0 < x) ∧ ∀ i, m ≤ i → i < len → x ≤ zs.getD i 0) := ⟨p2, fun i h1 h2 => Int.not_lt.1 (p3 i h1 (by omega))⟩
  clear p1 p2 p3 hl
  go_enter Try.func28, Try.ntmps28
  go_wp2
  go_loop [7, 8] (fun i j => ∃ lo hi : Nat, lo ≤ m ∧ m ≤ hi ∧ hi ≤ len ∧ i = .int .i64 lo ∧ j = .int .i64 hi) (fun i j => (intOf j).toNat - (intOf i).toNat)
  case atStart => exact ⟨0, len, Nat.zero_le _, m1, Nat.le_refl _, rfl, rfl⟩
  case round =>
    obtain ⟨lo, hi, h1, h2, h3, rfl, rfl⟩ := hrel
    by_cases hlt : lo < hi
    · obtain ⟨b, off, rfl, hbl, hc⟩ := h.resolve_left (by omega)
      have hcx := hc ((lo + hi) / 2) (by omega)
      clear hc h
      obtain ⟨y, hy⟩ : ∃ y, y = zs.getD ((lo + hi) / 2) 0 := ⟨_, rfl⟩
      rw [← hy] at hcx
      have HY : Hid (y = zs.getD ((lo + hi) / 2) 0) := hy
      clear hy
      go_wp2_with (go_at_call 31; refine (lessC _ _ _).mono ?_; rintro e w' ⟨rfl, rfl⟩)
      · have hy : y < x := by have := (by assumption : lessB y x = true); simpa [lessB] using this
        have hmid : ¬ m ≤ (lo + hi) / 2 := fun h => by have := HP.out.2 _ h (by omega); rw [← HY.out] at this; omega
        go_round
        case rel => exact ⟨(lo + hi) / 2 + 1, hi, by omega, h2, h3, by go_num, rfl⟩
        case measure => simp [intOf]; omega
      · have hy : ¬ y < x := by have := (by assumption : lessB y x = false); simpa [lessB] using this
        have hmid : ¬ (lo + hi) / 2 < m := fun h => by have := HP.out.1 _ h; rw [← HY.out] at this; omega
        go_round
        case rel => exact ⟨lo, (lo + hi) / 2, h1, by omega, by omega, rfl, by go_num⟩
        case measure => simp [intOf]; omega
    · have e : lo = m := by omega
      subst e
      by_cases hml : lo < len
      · obtain ⟨b, off, rfl, hbl, hc⟩ := h.resolve_left (by omega)
        have hcx := hc lo hml
        clear hc h
        obtain ⟨y, hy⟩ : ∃ y, y = zs.getD lo 0 := ⟨_, rfl⟩
        rw [← hy] at hcx
        by_cases hyx : y = x
        · have hyb : (y == x) = true := by simp [hyx]
          have e : fnd zs lo x = true := by simp only [fnd, decide_eq_true_eq]; exact ⟨by rw [HL.out]; exact hml, by rw [← hy]; exact hyx⟩
          clear hyx hy
          go_wp2
          go_ret2
          exact ⟨rfl, rfl⟩
        · have hyb : (y == x) = false := by simp [hyx]
          have e : fnd zs lo x = false := by simp only [fnd, decide_eq_false_iff_not]; exact fun h => hyx (by rw [hy]; exact h.2)
          clear hyx hy
          go_wp2
          go_ret2
          exact ⟨rfl, rfl⟩
      · have e : fnd zs lo x = false := by simp only [fnd, decide_eq_false_iff_not]; exact fun h => hml (by rw [← HL.out]; exact h.1)
        go_wp2
        go_ret2
        exact ⟨rfl, rfl⟩

set_option maxHeartbeats 1000000 in
theorem afterBelowC (p : Nat) (a : Option Addr) (len cap : Nat) (gs ge : Nat) (bl : Int) (a4 : Option Addr) (l4 c4 : Nat) (a5 : Option Addr) (l5 c5 : Nat) (zs : List Int) (pos m : Nat) (w : World) (h : Buf w p a len cap gs ge bl a4 l4 c4 a5 l5 c5) (h1 : gs ≤ ge) (h2 : ge ≤ len) (h3 : len ≤ 9000000)
    (hR : Rd .i64 w a5 l5 zs) (hp : Parts zs m ((len : Int) - ((ge : Int) - gs) - pos + 1)) (hm : l5 ≤ 9000000) (hpos : pos ≤ 9000000) :
    Calls Try.prog 30 #[.pointer (some ⟨p, 0, none⟩), .int .i64 pos] w fun e w' => e = .returned (.int .i64 (m : Int)) ∧ Below w.heap.size w w' := by
  obtain ⟨c0, c1, c2, -, -, d5⟩ := h.cells
  have H := h
  clear h
  go_enter Try.func30, Try.ntmps30
  go_wp2
  go_quiet (first | (go_at_call 29; exact Calls.quiet_of (lenC _ _ _ _ _ _ _ _ _ _ _ _ _ _ (H.keep (below_n (Below.refl _ _) _)) h1 h2 h3)) | (go_at_call 28; exact Calls.quiet_of_same ((bsearch _ _ _ _ _ m _ (hR.keep (below_n (Below.refl _ _) _)) hp hm).mono fun _ _ h => ⟨h.1, h.2.symm⟩)))
  go_wp2
  go_ret
  exact ⟨rfl, below_n (Below.refl _ _) _⟩

def linesB (zs : List Int) (gs ge L : Nat) (zb za : List Int) : Bool := eqv zb (nlB (txt zs gs ge) gs) && eqv za (nlA (txt zs gs ge) (L - gs))

set_option maxHeartbeats 1000000 in
theorem linesC (a0 : Option Addr) (l0 c0 : Nat) (z0 : List Int) (gs ge : Nat) (a4 : Option Addr) (l4 c4 : Nat) (z4 : List Int) (a5 : Option Addr) (l5 c5 : Nat) (z5 : List Int) (w : World) (L : Nat)
    (R0 : Rd .i32 w a0 l0 z0) (R4 : Rd .i64 w a4 l4 z4) (R5 : Rd .i64 w a5 l5 z5) (h1 : gs ≤ ge) (h2 : ge ≤ l0) (h3 : l0 ≤ 1048576) (h4 : l4 ≤ 1048576) (h5 : l5 ≤ 1048576) (hL : l0 - (ge - gs) = L) :
    Calls Try.prog 10 #[.slice a0 l0 c0, .int .i64 gs, .int .i64 ge, .slice a4 l4 c4, .slice a5 l5 c5] w fun e w' => e = .returned (.bool (linesB z0 gs ge L z4 z5)) ∧ Below w.heap.size w w' := by
  have hT := textR a0 l0 c0 z0 gs ge w R0 h1 h2 (by omega)
  rw [hL] at hT
  have hgL : gs ≤ L := by omega
  have hLl : L ≤ l0 := by omega
  obtain ⟨t, ht⟩ : ∃ t, txt z0 gs ge = t := ⟨_, rfl⟩
  unfold linesB
  rw [ht] at hT ⊢
  clear hL ht
  by_cases hq : eqv z4 (nlB t gs) = true
  · rw [hq, Bool.true_and]
    go_enter Try.func10, Try.ntmps10
    go_wp2_with (go_at_call 13; refine hT.mono ?_; rintro e w1 ⟨t1, q1, rfl, T1, B1⟩)
    refine (nlBefore _ _ _ _ _ _ T1 hgL (by omega)).mono ?_
    rintro e w2 ⟨a2, n2, q2, rfl, N2, B2⟩
    go_wp2_with fail
    refine (eqInts _ _ _ _ _ _ _ _ _ (R4.keep (chain B1 B2)) N2 (by omega)).mono ?_
    rw [hq]
    rintro e w3 ⟨rfl, B3⟩
    go_wp2_with fail
    refine (nlAfter _ _ _ _ _ _ (T1.keep (chain B2 B3)) hgL (by omega)).mono ?_
    rintro e w4 ⟨a4', n4, q4, rfl, N4, B4⟩
    go_wp2_with fail
    refine (eqInts _ _ _ _ _ _ _ _ _ (R5.keep (chain B1 (chain B2 (chain B3 B4)))) N4 (by omega)).mono ?_
    rintro e w5 ⟨rfl, B5⟩
    go_wp2
    go_ret
    exact ⟨rfl, chain B1 (chain B2 (chain B3 (chain B4 B5)))⟩
  · have hq' : eqv z4 (nlB t gs) = false := by simpa using hq
    rw [hq', Bool.false_and]
    clear hq
    go_enter Try.func10, Try.ntmps10
    go_wp2_with (go_at_call 13; refine hT.mono ?_; rintro e w1 ⟨t1, q1, rfl, T1, B1⟩)
    refine (nlBefore _ _ _ _ _ _ T1 hgL (by omega)).mono ?_
    rintro e w2 ⟨a2, n2, q2, rfl, N2, B2⟩
    go_wp2_with fail
    refine (eqInts _ _ _ _ _ _ _ _ _ (R4.keep (chain B1 B2)) N2 (by omega)).mono ?_
    rw [hq']
    rintro e w3 ⟨rfl, B3⟩
    go_wp2
    go_ret
    exact ⟨rfl, chain B1 (chain B2 B3)⟩
end Go.Proofs.Qxb6602056a
