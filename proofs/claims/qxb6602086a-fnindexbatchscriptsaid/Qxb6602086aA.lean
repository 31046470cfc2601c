import Derived.Test.Qxb6602086aRows
import Derived.WalkKit
import Derived.ProofKit
import Derived.OpenShut
import Derived.Below
import Derived.WalkSmall
import Derived.WalkSpells
import Derived.Handy
import Derived.Deep.QuietTactic
import Derived.BigQuiet
import Derived.Deep.DeepCutAuto
namespace Go.Proofs.Qxb6602086a
open Go.RowKit

theorem chain {a b c : World} (h : Below a.heap.size a b) (k : Below b.heap.size b c) : Below a.heap.size a c := h.trans (k.mono h.size)
theorem retB {a b : Bool} (h : a = b) : Ending.returned (.bool a) = .returned (.bool b) := by rw [h]
theorem retI {k : IntKind} {a b : Int} (h : a = b) : Ending.returned (.int k a) = .returned (.int k b) := by rw [h]

/-- The slice of slices at 'a': its elements' addresses, lengths, capacities. -/
def Bs (w : World) (a : Option Addr) (len : Nat) (A : Nat → Option Addr) (L C : Nat → Nat) : Prop :=
  (∀ r, r < len → L r ≤ maxLen) ∧ (len = 0 ∨ ∃ b off, a = some ⟨b, off, none⟩ ∧ b < w.heap.size ∧ ∀ r, r < len → w.cell? ⟨b, off + r, none⟩ = some (.slice (A r) (L r) (C r)))

theorem Bs.keep {w w' : World} {a : Option Addr} {len : Nat} {A : Nat → Option Addr} {L C : Nat → Nat} (h : Bs w a len A L C) (hb : Below w.heap.size w w') : Bs w' a len A L C := by
  obtain ⟨h1, h2⟩ := h
  refine ⟨h1, ?_⟩
  rcases h2 with h2 | ⟨b, off, rfl, hlt, hc⟩
  · exact .inl h2
  · exact .inr ⟨b, off, rfl, Nat.lt_of_lt_of_le hlt hb.size, fun i hi => (hb.cell (by exact hlt)).trans (hc i hi)⟩

def sumL (L : Nat → Nat) : Nat → Nat
  | 0 => 0
  | k + 1 => sumL L k + L k

theorem sumL_mono (L : Nat → Nat) {i j : Nat} (h : i ≤ j) : sumL L i ≤ sumL L j := by
  induction j with
  | zero => obtain rfl : i = 0 := by omega
            exact Nat.le_refl _
  | succ j ih =>
    rcases Nat.lt_or_eq_of_le h with h | h
    · have := ih (by omega); simp only [sumL]; omega
    · subst h; exact Nat.le_refl _

def zzP (la sa lb sb : Nat) : Bool := decide (la + sa + lb + sb ≤ 1048576)

set_option maxRecDepth 100000 in
set_option maxHeartbeats 1000000 in
theorem zz7 (a b : Option Addr) (la lb ca cb : Nat) (A1 A2 : Nat → Option Addr) (L1 L2 C1 C2 : Nat → Nat) (w : World) (h1 : Bs w a la A1 L1 C1) (h2 : Bs w b lb A2 L2 C2) (m1 : la ≤ maxLen) (m2 : lb ≤ maxLen) :
    Calls Try.prog 7 #[.slice a la ca, .slice b lb cb] w fun e w' => e = .returned (.bool (zzP la (sumL L1 la) lb (sumL L2 lb))) ∧ w = w' := by
  obtain ⟨b1, h1⟩ := h1
  obtain ⟨b2, h2⟩ := h2
  unfold maxLen at m1 m2
  have fin : ∀ x : Bool, (x = decide (la + sumL L1 la + lb + sumL L2 lb ≤ 1048576)) → Ending.returned (.bool x) = .returned (.bool (zzP la (sumL L1 la) lb (sumL L2 lb))) := fun x h => by rw [h]; rfl
  have F : Hid (∀ x : Bool, (x = decide (la + sumL L1 la + lb + sumL L2 lb ≤ 1048576)) → Ending.returned (.bool x) = .returned (.bool (zzP la (sumL L1 la) lb (sumL L2 lb)))) := fin
  clear fin
  by_cases g1 : (1048576 : Int) < la
  · go_enter Try.func7, Try.ntmps7
    go_wp2
    go_ret
    exact ⟨F.out _ (by simp; omega), rfl⟩
  go_enter Try.func7, Try.ntmps7
  go_wp2
  go_loop [5, 6] (fun t i => ∃ k : Nat, k ≤ la ∧ i = .int .i64 (k : Int) ∧ la + sumL L1 k ≤ 1048576 ∧ t = .int .i64 ((la + sumL L1 k : Nat) : Int)) (fun _ i => la - (intOf i).toNat)
  case atStart => exact ⟨0, Nat.zero_le _, rfl, by simp [sumL]; omega, by simp [sumL]⟩
  case round =>
    obtain ⟨k, hk, rfl, hs, rfl⟩ := hrel
    by_cases hlt : k < la
    · obtain ⟨b0, off, rfl, hbl, hc⟩ := h1.resolve_left (by omega)
      have hcx := hc k hlt
      have hbk := b1 k hlt
      unfold maxLen at hbk
      have hsum : sumL L1 (k + 1) = sumL L1 k + L1 k := rfl
      have hmono := sumL_mono L1 (show k + 1 ≤ la by omega)
      generalize L1 k = x at hcx hbk hsum
      rw [hsum] at hmono
      have HS : Hid (sumL L1 (k + 1) = sumL L1 k + x) := hsum
      clear hc hsum
      by_cases hx : (1048576 : Int) < x
      · go_wp2
        go_ret
        exact ⟨F.out _ (by simp; omega), rfl⟩
      by_cases hy : (1048576 : Int) < ((la + sumL L1 k : Nat) : Int) + x
      · go_wp2
        go_ret
        exact ⟨F.out _ (by simp; omega), rfl⟩
      · go_wp2
        go_round
        case rel => exact ⟨k + 1, by omega, by go_num, by rw [HS.out]; omega, by rw [HS.out]; go_num⟩
        case measure => simp [intOf]; omega
    · obtain rfl : k = la := by omega
      by_cases g2 : (1048576 : Int) < lb
      · go_wp2
        go_ret
        exact ⟨F.out _ (by simp; omega), rfl⟩
      by_cases g3 : (1048576 : Int) < ((k + sumL L1 k : Nat) : Int) + lb
      · go_wp2
        go_ret
        exact ⟨F.out _ (by simp; omega), rfl⟩
      go_wp2
      go_loop [5, 7] (fun t i => ∃ j : Nat, j ≤ lb ∧ i = .int .i64 (j : Int) ∧ k + sumL L1 k + lb + sumL L2 j ≤ 1048576 ∧ t = .int .i64 ((k + sumL L1 k + lb + sumL L2 j : Nat) : Int)) (fun _ i => lb - (intOf i).toNat)
      case atStart => exact ⟨0, Nat.zero_le _, rfl, by simp [sumL]; omega, by simp [sumL]⟩
      case round =>
        obtain ⟨j, hj, rfl, hs2, rfl⟩ := hrel
        by_cases hlt2 : j < lb
        · obtain ⟨b0, off, rfl, hbl, hc⟩ := h2.resolve_left (by omega)
          have hcx := hc j hlt2
          have hbk := b2 j hlt2
          unfold maxLen at hbk
          have hsum : sumL L2 (j + 1) = sumL L2 j + L2 j := rfl
          have hmono := sumL_mono L2 (show j + 1 ≤ lb by omega)
          generalize L2 j = x at hcx hbk hsum
          rw [hsum] at hmono
          have HS : Hid (sumL L2 (j + 1) = sumL L2 j + x) := hsum
          clear hc hsum
          by_cases hx : (1048576 : Int) < x
          · go_wp2
            go_ret
            exact ⟨F.out _ (by simp; omega), rfl⟩
          by_cases hy : (1048576 : Int) < ((k + sumL L1 k + lb + sumL L2 j : Nat) : Int) + x
          · go_wp2
            go_ret
            exact ⟨F.out _ (by simp; omega), rfl⟩
          · go_wp2
            go_round
            case rel => exact ⟨j + 1, by omega, by go_num, by rw [HS.out]; omega, by rw [HS.out]; go_num⟩
            case measure => simp [intOf]; omega
        · obtain rfl : j = lb := by omega
          go_wp2
          go_ret
          exact ⟨F.out _ (by simp; omega), rfl⟩
end Go.Proofs.Qxb6602086a
