import Derived.Test.Qxb6602070aV
namespace Go.Proofs.Qxb6602070a
open Go.RowKit

set_option maxRecDepth 1000000 in
set_option maxHeartbeats 400000 in
theorem matchEarly (s : ByteArray) (i : Int) (esc : Bool) (w : World) (hm : s.size ≤ maxLen) (h : ¬ (zz1 s.size = true ∧ 0 ≤ i ∧ i < s.size)) :
    Calls Try.prog 3 #[.string s, .int .i64 i, .bool esc] w fun e w' => e = .returned (.bool true) ∧ Below w.heap.size w w' := by
  by_cases h1 : zz1 s.size = true
  · have h1' : s.size ≤ 1048576 := by simpa [zz1] using h1
    by_cases h2 : i < 0
    · clear h
      go_enter Try.func3, Try.ntmps3
      go_wp2_with (go_at_call 6; refine (zz6 _ _ _ _ hm).mono ?_; rintro e w' ⟨rfl, rfl⟩)
      go_ret
      exact ⟨rfl, Below.refl _ _⟩
    · have h3 : (s.size : Int) ≤ i := Int.not_lt.1 (fun h3 => h ⟨h1, by omega, h3⟩)
      clear h
      go_enter Try.func3, Try.ntmps3
      go_wp2_with (go_at_call 6; refine (zz6 _ _ _ _ hm).mono ?_; rintro e w' ⟨rfl, rfl⟩)
      go_ret
      exact ⟨rfl, Below.refl _ _⟩
  · have h1' : zz1 s.size = false := by simpa using h1
    clear h1 h
    go_enter Try.func3, Try.ntmps3
    go_wp2_with (go_at_call 6; refine (zz6 _ _ _ _ hm).mono ?_; rintro e w' ⟨rfl, rfl⟩)
    go_ret
    exact ⟨rfl, Below.refl _ _⟩

set_option maxRecDepth 1000000 in
set_option maxHeartbeats 400000 in
theorem matchEarly2 (s : ByteArray) (i : Nat) (esc : Bool) (w : World) (hm : s.size ≤ maxLen) (h1 : zz1 s.size = true) (hi : i < s.size) (h : isQ s[i] = false) :
    Calls Try.prog 3 #[.string s, .int .i64 (i : Int), .bool esc] w fun e w' => e = .returned (.bool true) ∧ Below w.heap.size w w' := by
  have h1' : s.size ≤ 1048576 := by simpa [zz1] using h1
  go_enter Try.func3, Try.ntmps3
  go_wp2_with (first | (go_at_call 6; refine (zz6 _ _ _ _ hm).mono ?_; rintro e w' ⟨rfl, rfl⟩) | (go_at_call 7; refine (isQuoteC s[i] _).mono ?_; rintro e w' ⟨rfl, rfl⟩))
  go_ret
  exact ⟨rfl, Below.refl _ _⟩

set_option maxRecDepth 1000000 in
set_option maxHeartbeats 1000000 in
theorem matchMain (s : ByteArray) (i : Nat) (esc : Bool) (w : World) (hm : s.size ≤ maxLen) (h1 : zz1 s.size = true) (hi : i < s.size) (h : isQ s[i] = true) :
    Calls Try.prog 3 #[.string s, .int .i64 (i : Int), .bool esc] w fun e w' => e = .returned (.bool true) ∧ Below w.heap.size w w' := by
  have h1' : s.size ≤ 1048576 := by simpa [zz1] using h1
  obtain ⟨t, n, hqd⟩ : ∃ t n, qd esc s[i] (At s (i + 1)) = (t, n) := ⟨_, _, rfl⟩
  have hC : Hid (∀ w, _) := fun w => zzquotedC s i esc t n w hi (by omega) (isQ_ne h) hqd
  have hD0 := fun w => modelC s i esc w hi (by omega) (isQ_ne h)
  rw [hqd] at hD0
  have hD : Hid (∀ w, _) := hD0
  clear hD0 hqd
  go_enter Try.func3, Try.ntmps3
  go_wp2_with (first | (go_at_call 6; refine (zz6 _ _ _ _ hm).mono ?_; rintro e w' ⟨rfl, rfl⟩) | (go_at_call 7; refine (isQuoteC s[i] _).mono ?_; rintro e w' ⟨rfl, rfl⟩))
  refine (hC.out _).mono ?_
  rintro e w1 ⟨rfl, B1⟩
  go_wp2_with fail
  refine (hD.out _).mono ?_
  rintro e w2 ⟨rfl, B2⟩
  go_wp2
  go_ret
  exact ⟨rfl, B1.trans (B2.mono B1.size)⟩
end Go.Proofs.Qxb6602070a
