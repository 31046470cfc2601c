import Derived.Test.Qxb6602056aF
namespace Go.Proofs.Qxb6602056a
open Go.RowKit

/-- The newlines of t below n, ascending. -/
def nlB (t : List Int) : Nat → List Int
  | 0 => []
  | n + 1 => nlB t n ++ (if t.getD n 0 = 10 then [(n : Int)] else [])
/-- The distances from the end of the last c runes' newlines, ascending. -/
def nlA (t : List Int) : Nat → List Int
  | 0 => []
  | c + 1 => nlA t c ++ (if t.getD (t.length - 1 - c) 0 = 10 then [(c : Int) + 1] else [])

theorem nlB_len (t : List Int) (n : Nat) : (nlB t n).length ≤ n := by
  induction n with
  | zero => simp [nlB]
  | succ n ih => simp only [nlB]; split <;> simp <;> omega
theorem nlA_len (t : List Int) (n : Nat) : (nlA t n).length ≤ n := by
  induction n with
  | zero => simp [nlA]
  | succ n ih => simp only [nlA]; split <;> simp <;> omega
theorem nlB_hit {t : List Int} {n : Nat} (h : t.getD n 0 = 10) : nlB t (n + 1) = nlB t n ++ [(n : Int)] := by simp only [nlB, if_pos h]
theorem nlB_miss {t : List Int} {n : Nat} (h : ¬ t.getD n 0 = 10) : nlB t (n + 1) = nlB t n := by simp only [nlB, if_neg h, List.append_nil]
theorem nlA_hit {t : List Int} {n : Nat} (h : t.getD (t.length - 1 - n) 0 = 10) : nlA t (n + 1) = nlA t n ++ [(n : Int) + 1] := by simp only [nlA, if_pos h]
theorem nlA_miss {t : List Int} {n : Nat} (h : ¬ t.getD (t.length - 1 - n) 0 = 10) : nlA t (n + 1) = nlA t n := by simp only [nlA, if_neg h, List.append_nil]

theorem own_form {w : World} {base : Nat} {e : TypeId} {v : Value} {n : Nat} {xs : List Value} (h : w.ownsRow base e 1 v n xs) : ∃ a c, v = .slice a n c := by
  rcases h.2 with ⟨h0, h1⟩ | ⟨g', cap', cur, hv, hg, hh, hn, hcap, hsz, htake⟩
  · exact ⟨none, 0, by rw [h0, h1]⟩
  · exact ⟨_, _, hv⟩

set_option maxHeartbeats 1000000 in
theorem nlBefore (a : Option Addr) (len cap : Nat) (zs : List Int) (pos : Nat) (w : World) (h : Rd .i32 w a len zs) (h1 : pos ≤ len) (hm : len ≤ 9000000) :
    Calls Try.prog 19 #[.slice a len cap, .int .i64 pos] w fun e w' => ∃ a' n c', e = .returned (.slice a' n c') ∧ Rd .i64 w' a' n (nlB zs pos) ∧ Below w.heap.size w w' := by
  obtain ⟨i0, hi, hz0, hz1, hz2⟩ := info_parts Try.info3
  obtain ⟨hl, h⟩ := h
  have HL : Hid (zs.length = len) := hl
  clear hl
  go_enter Try.func19, Try.ntmps19
  go_wp2
  go_loopw [5, 6] (fun v i wr => ∃ (k n c : Nat) (a' : Option Addr), k ≤ pos ∧ i = .int .i64 k ∧ n ≤ k ∧ v = .slice a' n c ∧ wr.ownsRow w.heap.size 3 1 (.slice a' n c) n (iv .i64 (nlB zs k)) ∧ Below w.heap.size w wr) (fun _ i _ => pos - (intOf i).toNat)
  case atStart => exact ⟨0, 0, 0, none, Nat.zero_le _, rfl, Nat.le_refl _, rfl, World.ownsRow_nil _ _ _ _, Below.refl _ _⟩
  case round =>
    obtain ⟨k, n, c, a', hk, rfl, hnk, rfl, hown, hb⟩ := hrel
    by_cases hlt : k < pos
    · obtain ⟨b, off, rfl, hbl, hc⟩ := h.resolve_left (by omega)
      have hcx := (hb.cell (p := ⟨b, off + k, none⟩) (by exact hbl)).trans (hc k (by omega))
      obtain ⟨x, hx⟩ : ∃ x, x = zs.getD k 0 := ⟨_, rfl⟩
      rw [← hx] at hcx
      have HX : Hid (x = zs.getD k 0) := hx
      clear hx hc h
      by_cases h10 : x = 10
      · have ht : (x == 10) = true := by simp [h10]
        have HS : Hid (iv .i64 (nlB zs (k+1)) = iv .i64 (nlB zs k) ++ [.int .i64 (k : Int)]) := by
          show _ = _
          rw [nlB_hit (by rw [← HX.out]; exact h10), iv_snoc]
        clear h10
        go_wp2_with (at_builtin; refine wpList_append_own _ rfl (.tmp 17) (.tmp 19) 23 rfl w.heap.size 3 i0 (.int .i64 0) 1 8 Try.underlying23 hi hz0 hz1 hz2 rfl (by decide) _ _ _ rfl (hown.alloc _) ⟨wr.heap.size, 0, none⟩ 1 1 [.int .i64 (k : Int)] rfl rfl (cell1 _ _ _) (by simp [Value.oneCell']) (by unfold maxLen; omega) (by omega) (by have := hb.size; simp; omega) ?_)
        intro v' w1 hown' hgrow _
        obtain ⟨a2, c2, rfl⟩ := own_form hown'
        rw [← HS.out] at hown'
        have hb2 : Below w.heap.size w w1 := (hb.alloc hb.size _).grown hgrow (by have := hb.size; simp; omega) (fun j hj => (hown.lt j hj).1)
        clear hgrow HS hown hcx hb
        go_wp2
        go_roundw
        case rel => exact ⟨k + 1, n + 1, c2, a2, by omega, by go_num, by omega, rfl, hown', hb2⟩
        case measure => simp [intOf]; omega
      · have ht : (x == 10) = false := by simp [h10]
        have HS : Hid (nlB zs (k+1) = nlB zs k) := nlB_miss (by rw [← HX.out]; exact h10)
        clear h10
        go_wp2
        go_roundw
        case rel => exact ⟨k + 1, n, c, a', by omega, by go_num, by omega, rfl, by rw [HS.out]; exact hown, hb⟩
        case measure => simp [intOf]; omega
    · have hkl : k = pos := by omega
      subst hkl
      go_wp2
      go_ret
      exact ⟨a', n, c, rfl, Rd_of_own hown, hb⟩

set_option maxHeartbeats 1000000 in
theorem nlAfter (a : Option Addr) (len cap : Nat) (zs : List Int) (pos : Nat) (w : World) (h : Rd .i32 w a len zs) (h1 : pos ≤ len) (hm : len ≤ 9000000) :
    Calls Try.prog 20 #[.slice a len cap, .int .i64 pos] w fun e w' => ∃ a' n c', e = .returned (.slice a' n c') ∧ Rd .i64 w' a' n (nlA zs (len - pos)) ∧ Below w.heap.size w w' := by
  obtain ⟨i0, hi, hz0, hz1, hz2⟩ := info_parts Try.info3
  obtain ⟨hl, h⟩ := h
  have HL : Hid (zs.length = len) := hl
  clear hl
  go_enter Try.func20, Try.ntmps20
  go_wp2
  go_loopw [5, 6] (fun v i wr => ∃ (k n c : Nat) (a' : Option Addr), k + pos ≤ len ∧ i = .int .i64 ((len : Int) - 1 - k) ∧ n ≤ k ∧ v = .slice a' n c ∧ wr.ownsRow w.heap.size 3 1 (.slice a' n c) n (iv .i64 (nlA zs k)) ∧ Below w.heap.size w wr) (fun _ i _ => (intOf i + 1).toNat)
  case atStart => exact ⟨0, 0, 0, none, by omega, by simp, Nat.le_refl _, rfl, World.ownsRow_nil _ _ _ _, Below.refl _ _⟩
  case round =>
    obtain ⟨k, n, c, a', hk, rfl, hnk, rfl, hown, hb⟩ := hrel
    by_cases hlt : k + pos < len
    · obtain ⟨b, off, rfl, hbl, hc⟩ := h.resolve_left (by omega)
      obtain ⟨j, hj⟩ : ∃ j : Nat, (len : Int) - 1 - k = j := ⟨len - 1 - k, by omega⟩
      have hjj : j + k + 1 = len := by omega
      have hcx := (hb.cell (p := ⟨b, off + j, none⟩) (by exact hbl)).trans (hc j (by omega))
      obtain ⟨x, hx⟩ : ∃ x, x = zs.getD j 0 := ⟨_, rfl⟩
      rw [← hx] at hcx
      have HX : Hid (x = zs.getD j 0) := hx
      have HJ : Hid (j + k + 1 = len) := hjj
      have j1 : j + k < len := by omega
      have j2 : len ≤ j + k + 1 := by omega
      rw [hj]
      clear hx hc h hj hjj
      by_cases h10 : x = 10
      · have ht : (x == 10) = true := by simp [h10]
        have HS : Hid (iv .i64 (nlA zs (k+1)) = iv .i64 (nlA zs k) ++ [.int .i64 ((len : Int) - j)]) := by
          have := HJ.out
          have e : zs.length - 1 - k = j := by rw [HL.out]; omega
          show _ = _
          rw [nlA_hit (by rw [e, ← HX.out]; exact h10), iv_snoc, show (len : Int) - j = k + 1 by omega]
        clear h10
        go_wp2_with (at_builtin; refine wpList_append_own _ rfl (.tmp 20) (.tmp 25) 23 rfl w.heap.size 3 i0 (.int .i64 0) 1 8 Try.underlying23 hi hz0 hz1 hz2 rfl (by decide) _ _ _ rfl (hown.alloc _) ⟨wr.heap.size, 0, none⟩ 1 1 [.int .i64 ((len : Int) - j)] rfl rfl (cell1 _ _ _) (by simp [Value.oneCell']) (by unfold maxLen; omega) (by omega) (by have := hb.size; simp; omega) ?_)
        intro v' w1 hown' hgrow _
        obtain ⟨a2, c2, rfl⟩ := own_form hown'
        rw [← HS.out] at hown'
        have hb2 : Below w.heap.size w w1 := (hb.alloc hb.size _).grown hgrow (by have := hb.size; simp; omega) (fun j hj => (hown.lt j hj).1)
        clear hgrow HS hown hcx hb
        go_wp2
        go_roundw
        case rel => exact ⟨k + 1, n + 1, c2, a2, by omega, by go_num, by omega, rfl, hown', hb2⟩
        case measure => simp [intOf]
      · have ht : (x == 10) = false := by simp [h10]
        have HS : Hid (nlA zs (k+1) = nlA zs k) := nlA_miss (by have := HJ.out; rw [show zs.length - 1 - k = j by rw [HL.out]; omega, ← HX.out]; exact h10)
        clear h10
        go_wp2
        go_roundw
        case rel => exact ⟨k + 1, n, c, a', by omega, by go_num, by omega, rfl, by rw [HS.out]; exact hown, hb⟩
        case measure => simp [intOf]
    · have hkl : k = len - pos := by omega
      go_wp2
      go_ret
      exact ⟨a', n, c, rfl, Rd_of_own (by rw [← hkl]; exact hown), hb⟩
end Go.Proofs.Qxb6602056a
