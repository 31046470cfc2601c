import Derived.Test.Qxb6602070aR
namespace Go.Proofs.Qxb6602070a
open Go.RowKit

set_option maxRecDepth 1000000 in
set_option maxHeartbeats 400000 in
theorem spanEarly (s : ByteArray) (i : Int) (esc : Bool) (w : World) (hm : s.size ≤ maxLen) (h : ¬ (zz1 s.size = true ∧ 0 ≤ i ∧ i < s.size)) :
    Calls Try.prog 5 #[.string s, .int .i64 i, .bool esc] w fun e w' => e = .returned (.bool true) ∧ Below w.heap.size w w' := by
  by_cases h1 : zz1 s.size = true
  · have h1' : s.size ≤ 1048576 := by simpa [zz1] using h1
    by_cases h2 : i < 0
    · clear h
      go_enter Try.func5, Try.ntmps5
      go_wp2_with (go_at_call 11; refine (zz11 _ _ _ _ hm).mono ?_; rintro e w' ⟨rfl, rfl⟩)
      go_ret
      exact ⟨rfl, Below.refl _ _⟩
    · have h3 : (s.size : Int) ≤ i := Int.not_lt.1 (fun h3 => h ⟨h1, by omega, h3⟩)
      clear h
      go_enter Try.func5, Try.ntmps5
      go_wp2_with (go_at_call 11; refine (zz11 _ _ _ _ hm).mono ?_; rintro e w' ⟨rfl, rfl⟩)
      go_ret
      exact ⟨rfl, Below.refl _ _⟩
  · have h1' : zz1 s.size = false := by simpa using h1
    clear h1 h
    go_enter Try.func5, Try.ntmps5
    go_wp2_with (go_at_call 11; refine (zz11 _ _ _ _ hm).mono ?_; rintro e w' ⟨rfl, rfl⟩)
    go_ret
    exact ⟨rfl, Below.refl _ _⟩

set_option maxRecDepth 1000000 in
set_option maxHeartbeats 400000 in
theorem spanEarly2 (s : ByteArray) (i : Nat) (esc : Bool) (w : World) (hm : s.size ≤ maxLen) (h1 : zz1 s.size = true) (hi : i < s.size) (h : isQ s[i] = false) :
    Calls Try.prog 5 #[.string s, .int .i64 (i : Int), .bool esc] w fun e w' => e = .returned (.bool true) ∧ Below w.heap.size w w' := by
  have h1' : s.size ≤ 1048576 := by simpa [zz1] using h1
  go_enter Try.func5, Try.ntmps5
  go_wp2_with (first | (go_at_call 11; refine (zz11 _ _ _ _ hm).mono ?_; rintro e w' ⟨rfl, rfl⟩) | (go_at_call 7; refine (isQuoteC s[i] _).mono ?_; rintro e w' ⟨rfl, rfl⟩))
  go_ret
  exact ⟨rfl, Below.refl _ _⟩

set_option maxRecDepth 1000000 in
set_option maxHeartbeats 1000000 in
theorem spanMain (s : ByteArray) (i : Nat) (esc : Bool) (w : World) (hm : s.size ≤ maxLen) (h1 : zz1 s.size = true) (hi : i < s.size) (h : isQ s[i] = true) :
    Calls Try.prog 5 #[.string s, .int .i64 (i : Int), .bool esc] w fun e w' => e = .returned (.bool true) ∧ Below w.heap.size w w' := by
  have h1' : s.size ≤ 1048576 := by simpa [zz1] using h1
  obtain ⟨t, n, hqd⟩ : ∃ t n, qd esc s[i] (At s (i + 1)) = (t, n) := ⟨_, _, rfl⟩
  have hl : (At s (i + 1)).length = s.size - (i + 1) := by simp [At]
  have hle := qd_le (esc := esc) (q := s[i]) (At s (i + 1))
  have hla := qd_last (esc := esc) (q := s[i]) (At s (i + 1))
  have htk := qd_take (esc := esc) (q := s[i]) (At s (i + 1))
  rw [hqd, hl] at hle hla
  rw [hqd] at htk
  simp only at hle hla htk
  obtain ⟨m, hmm⟩ : ∃ m, i + 1 + n = m := ⟨_, rfl⟩
  obtain ⟨k, hk⟩ : ∃ k, i + n = k := ⟨_, rfl⟩
  have ei : (i : Int) + 1 + n = (m : Int) := by omega
  have hC := fun w => zzquotedC s i esc t n w hi (by omega) (isQ_ne h) hqd
  rw [ei] at hC
  obtain ⟨f1, f2, f3⟩ := at_from s i hi
  have hC2 := fun w => zzquotedC (s.extract i s.size) 0 esc t n w (by omega) (by omega) (by rw [f2 (by omega)]; exact isQ_ne h) (by rw [f2 (by omega), Nat.zero_add, f3]; exact hqd)
  rw [show ((0 : Nat) : Int) = 0 from rfl, show (0 : Int) + 1 + n = (m : Int) - i by omega] at hC2
  obtain ⟨g1, g2, g3⟩ := at_upto s i m (by omega) (by omega)
  have hC3 := fun w => zzquotedC (s.extract 0 m) i esc t n w (by omega) (by omega) (by rw [g2 (by omega)]; exact isQ_ne h) (by rw [g2 (by omega), g3, show m - (i + 1) = n by omega]; exact htk)
  rw [ei] at hC3
  have hlast : m < s.size → ∃ hh : k < s.size, s[k] = s[i] := by
    intro hn
    obtain ⟨a1, a2⟩ := hla (by omega)
    refine ⟨by omega, ?_⟩
    unfold At at a2
    rw [List.getElem?_drop, show i + 1 + (n - 1) = k by omega] at a2
    obtain ⟨hb, e⟩ := List.getElem?_eq_some_iff.1 a2
    exact e
  clear hla htk f1 f2 f3 g1 g2 g3 hqd hl
  obtain ⟨hle1, hle2⟩ := hle
  have m1 : i + n < m := by omega
  have m2 : m ≤ i + 1 + n := by omega
  have m3 : m ≤ s.size := by omega
  have k1 : (m : Int) - 1 = (k : Int) := by omega
  have k2 : IntKind.i64.wrap ((m : Int) - 1) = (k : Int) := by rw [IntWalk.i64_in _ ⟨by omega, by omega⟩]; omega
  clear ei hmm hk
  have hC' : Hid (∀ w, _) := hC
  have hC2' : Hid (∀ w, _) := hC2
  have hC3' : Hid (∀ w, _) := hC3
  clear hC hC2 hC3
  go_enter Try.func5, Try.ntmps5
  go_wp2_with (first | (go_at_call 11; refine (zz11 _ _ _ _ hm).mono ?_; rintro e w' ⟨rfl, rfl⟩) | (go_at_call 7; refine (isQuoteC s[i] _).mono ?_; rintro e w' ⟨rfl, rfl⟩))
  refine (hC'.out _).mono ?_
  rintro e w1 ⟨rfl, B1⟩
  by_cases hend : m < s.size
  · obtain ⟨hh, heq⟩ := hlast hend
    clear hlast
    have hb : ((s[k].toNat : Int) != (s[i].toNat : Int)) = false := by rw [heq]; simp
    have hg : (m : Int) < s.size := by omega
    have hb2 : ((s[k].toNat : Int) == (s[i].toNat : Int)) = true := by rw [heq]; simp
    clear heq
    go_wp2_with fail
    go_quiet (fail)
    go_wp2_with fail
    refine (hC2'.out _).mono ?_
    rintro e w2 ⟨rfl, B2⟩
    go_wp2_with fail
    refine (hC3'.out _).mono ?_
    rintro e w3 ⟨rfl, B3⟩
    go_wp2
    go_ret
    exact ⟨rfl, B1.trans ((Below.trans (below_drewN (Below.refl _ _) nq) (B2.trans (B3.mono B2.size))).mono B1.size)⟩
  · have hg : decide ((m : Int) < s.size) = false := by simp; omega
    clear hlast
    go_wp2_with fail
    go_quiet (fail)
    go_wp2_with fail
    refine (hC2'.out _).mono ?_
    rintro e w2 ⟨rfl, B2⟩
    go_wp2_with fail
    refine (hC3'.out _).mono ?_
    rintro e w3 ⟨rfl, B3⟩
    go_wp2
    go_ret
    exact ⟨rfl, B1.trans ((Below.trans (below_drewN (Below.refl _ _) nq) (B2.trans (B3.mono B2.size))).mono B1.size)⟩
end Go.Proofs.Qxb6602070a
