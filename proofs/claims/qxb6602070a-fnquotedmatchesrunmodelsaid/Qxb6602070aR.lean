import Derived.Test.Qxb6602070aQ
namespace Go.Proofs.Qxb6602070a
open Go.RowKit

def isQ (c : UInt8) : Bool := c == 39 || c == 34 || c == 96
theorem isQ_ne {c : UInt8} (h : isQ c = true) : ¬ c = 92 := by rintro rfl; cases h

theorem beq_toNat (a b : UInt8) : ((a.toNat : Int) == (b.toNat : Int)) = (a == b) := by
  by_cases h : a = b
  · subst h; simp
  · rw [ne_toNat h]; exact (beq_eq_false_iff_ne.2 h).symm

theorem retB {a b : Bool} (h : a = b) : Ending.returned (.bool a) = .returned (.bool b) := by rw [h]

set_option maxHeartbeats 400000 in
theorem isQuoteC (c : UInt8) (w : World) : Calls Try.prog 7 #[.int .u8 (c.toNat : Int)] w fun e w' => e = .returned (.bool (isQ c)) ∧ w = w' := by
  have h39 := beq_toNat c 39
  have h34 := beq_toNat c 34
  have h96 := beq_toNat c 96
  have t39 : ((39 : UInt8).toNat : Int) = 39 := rfl
  have t34 : ((34 : UInt8).toNat : Int) = 34 := rfl
  have t96 : ((96 : UInt8).toNat : Int) = 96 := rfl
  rw [t39] at h39
  rw [t34] at h34
  rw [t96] at h96
  clear t39 t34 t96
  unfold isQ
  cases a39 : (c == 39)
  · cases a34 : (c == 34)
    · cases a96 : (c == 96)
      all_goals
        rw [a39] at h39
        rw [a34] at h34
        rw [a96] at h96
        clear a39 a34 a96
        go_enter Try.func7, Try.ntmps7
        go_wp2
        go_ret
        exact ⟨rfl, rfl⟩
    · rw [a39] at h39
      rw [a34] at h34
      clear a39 a34 h96
      go_enter Try.func7, Try.ntmps7
      go_wp2
      go_ret
      exact ⟨rfl, rfl⟩
  · rw [a39] at h39
    clear a39 h34 h96
    go_enter Try.func7, Try.ntmps7
    go_wp2
    go_ret
    exact ⟨rfl, rfl⟩

def zz1 (n : Nat) : Bool := decide (n ≤ 1048576)
set_option maxHeartbeats 400000 in
theorem zz6 (s : ByteArray) (i : Int) (b : Bool) (w : World) (h : s.size ≤ maxLen) : Calls Try.prog 6 #[.string s, .int .i64 i, .bool b] w fun e w' => e = .returned (.bool (zz1 s.size)) ∧ w = w' := by
  unfold maxLen at h
  by_cases g : (1048576 : Int) < s.size
  all_goals
    go_enter Try.func6, Try.ntmps6
    go_wp2
    go_ret
    exact ⟨retB (by unfold zz1; rw [Bool.eq_iff_iff]; simp; omega), rfl⟩
set_option maxHeartbeats 400000 in
theorem zz11 (s : ByteArray) (i : Int) (b : Bool) (w : World) (h : s.size ≤ maxLen) : Calls Try.prog 11 #[.string s, .int .i64 i, .bool b] w fun e w' => e = .returned (.bool (zz1 s.size)) ∧ w = w' := by
  unfold maxLen at h
  by_cases g : (1048576 : Int) < s.size
  all_goals
    go_enter Try.func11, Try.ntmps11
    go_wp2
    go_ret
    exact ⟨retB (by unfold zz1; rw [Bool.eq_iff_iff]; simp; omega), rfl⟩

set_option maxHeartbeats 400000 in
theorem zzquotedC (s : ByteArray) (i : Nat) (esc : Bool) (t : List UInt8) (n : Nat) (w : World) (hi : i < s.size) (hs : s.size ≤ 9000000) (hq : ¬ s[i] = 92) (hqd : qd esc s[i] (At s (i + 1)) = (t, n)) :
    Calls Try.prog 8 #[.string s, .int .i64 (i : Int), .bool esc] w fun e w' => e = .returned (.tuple #[.string ⟨t.toArray⟩, .int .i64 ((i : Int) + 1 + n)]) ∧ Below w.heap.size w w' := by
  have H := quotedC s i esc w hi hs hq
  rw [hqd] at H
  clear hqd
  go_enter Try.func8, Try.ntmps8
  go_wp2_with (go_at_call 12; refine H.mono ?_; rintro e w' ⟨rfl, hb⟩)
  go_ret2
  exact ⟨rfl, hb⟩

/-! ### slices of the text -/
theorem at_from (s : ByteArray) (i : Nat) (hi : i < s.size) : (s.extract i s.size).size = s.size - i ∧ (∀ h : 0 < (s.extract i s.size).size, (s.extract i s.size)[0] = s[i]) ∧ At (s.extract i s.size) 1 = At s (i + 1) := by
  refine ⟨by simp, fun h => ?_, ?_⟩
  · simp [ByteArray.getElem_extract]
  · unfold At
    simp [ByteArray.data_extract]
    rw [List.take_of_length_le (by simp), List.tail_drop]
theorem at_upto (s : ByteArray) (i e : Nat) (hi : i < e) (he : e ≤ s.size) : (s.extract 0 e).size = e ∧ (∀ h : i < (s.extract 0 e).size, (s.extract 0 e)[i] = s[i]) ∧ At (s.extract 0 e) (i + 1) = (At s (i + 1)).take (e - (i + 1)) := by
  refine ⟨by simp; omega, fun h => ?_, ?_⟩
  · simp [ByteArray.getElem_extract]
  · unfold At
    simp [ByteArray.data_extract, List.drop_take]
end Go.Proofs.Qxb6602070a
