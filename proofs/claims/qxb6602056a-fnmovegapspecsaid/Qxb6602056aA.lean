/- Shared notions and the small functions of the road. -/
import Derived.Test.Qxb6602056aRows
import Derived.WalkKit
import Derived.ProofKit
import Derived.OpenShut
import Derived.Below
import Derived.WalkSmall
import Derived.WalkSpells
import Derived.Handy
import Derived.Deep.QuietTactic
import Derived.BigQuiet
import Derived.Laws.CopyOwn
namespace Go.Proofs.Qxb6602056a
open Go.RowKit

/-- The slice at address 'a' of 'len' elements reads as the numbers 'zs'. -/
def Rd (k : IntKind) (w : World) (a : Option Addr) (len : Nat) (zs : List Int) : Prop :=
  zs.length = len ∧ (len = 0 ∨ ∃ b off, a = some ⟨b, off, none⟩ ∧ b < w.heap.size ∧ ∀ i, i < len → w.cell? ⟨b, off + i, none⟩ = some (.int k (zs.getD i 0)))

theorem Rd.keep {k : IntKind} {w w' : World} {a : Option Addr} {len : Nat} {zs : List Int} (h : Rd k w a len zs) (hb : Below w.heap.size w w') : Rd k w' a len zs := by
  obtain ⟨h1, h2⟩ := h
  refine ⟨h1, ?_⟩
  rcases h2 with h2 | ⟨b, off, rfl, hlt, hc⟩
  · exact .inl h2
  · exact .inr ⟨b, off, rfl, Nat.lt_of_lt_of_le hlt hb.size, fun i hi => (hb.cell (by exact hlt)).trans (hc i hi)⟩

theorem below_n {B : Nat} {a w : World} (h : Below B a w) (n : Nat) : Below B a (w.drewN n) := ⟨h.os, h.tape, h.output, h.size, h.block⟩

def eqv (a b : List Int) : Bool := decide (a = b)

theorem eqv_step {a b : List Int} {n k : Nat} (ha : a.length = n) (hb : b.length = n) (hk : k < n) (he : a.take k = b.take k) :
    a.take (k+1) = b.take (k+1) ↔ a.getD k 0 = b.getD k 0 := by
  have h1 : k < a.length := by omega
  have h2 : k < b.length := by omega
  rw [List.take_succ_eq_append_getElem h1, List.take_succ_eq_append_getElem h2, he, List.append_cancel_left_eq]
  simp [List.getD, h1, h2]

set_option maxHeartbeats 400000 in
theorem eqRunes (a b : Option Addr) (la lb ca cb : Nat) (za zb : List Int) (w : World) (h1 : Rd .i32 w a la za) (h2 : Rd .i32 w b lb zb) (hm : la ≤ 9000000000) :
    Calls Try.prog 17 #[.slice a la ca, .slice b lb cb] w fun e w' => e = .returned (.bool (eqv za zb)) ∧ Below w.heap.size w w' := by
  obtain ⟨l1, h1⟩ := h1
  obtain ⟨l2, h2⟩ := h2
  by_cases hl : la = lb
  · subst hl
    by_cases h0 : la = 0
    · subst h0
      have e : eqv za zb = true := by
        obtain rfl := List.eq_nil_of_length_eq_zero l1
        obtain rfl := List.eq_nil_of_length_eq_zero l2
        rfl
      rw [e]
      go_enter Try.func17, Try.ntmps17
      go_wp2
      go_rounds 1
      go_ret
      exact ⟨rfl, Below.refl _ _⟩
    · obtain ⟨ba, oa, rfl, hba, hca⟩ := h1.resolve_left h0
      obtain ⟨bb, ob, rfl, hbb, hcb⟩ := h2.resolve_left h0
      clear h1 h2
      go_enter Try.func17, Try.ntmps17
      go_wp2
      go_loopw [5] (fun i wr => ∃ k : Nat, k ≤ la ∧ i = .int .i64 k ∧ za.take k = zb.take k ∧ Below w.heap.size w wr) (fun i _ => la - (intOf i).toNat)
      case atStart => exact ⟨0, Nat.zero_le _, rfl, rfl, Below.refl _ _⟩
      case round =>
        obtain ⟨k, hk, rfl, he, hbel⟩ := hrel
        by_cases hlt : k < la
        · have ha := (hbel.cell (p := ⟨ba, oa + k, none⟩) (by exact hba)).trans (hca k hlt)
          have hb := (hbel.cell (p := ⟨bb, ob + k, none⟩) (by exact hbb)).trans (hcb k hlt)
          have hst : Hid (za.take (k+1) = zb.take (k+1) ↔ za.getD k 0 = zb.getD k 0) := eqv_step l1 l2 hlt he
          have HE : Hid (za.take k = zb.take k) := he
          clear he
          obtain ⟨x, hx⟩ : ∃ x, x = za.getD k 0 := ⟨_, rfl⟩
          obtain ⟨y, hy⟩ : ∃ y, y = zb.getD k 0 := ⟨_, rfl⟩
          rw [← hx] at ha hst
          rw [← hy] at hb hst
          clear hx hy hca hcb l1 l2
          go_wp2
          go_quiet (fail)
          go_wp2
          · have hxy : ¬ x = y := by simpa using (by assumption : (x != y) = true)
            go_ret
            refine ⟨?_, below_n hbel _⟩
            have e : eqv za zb = false := by
              unfold eqv
              rw [decide_eq_false_iff_not]
              intro e
              exact hxy (hst.out.1 (by rw [e]))
            rw [e]; rfl
          · have hxy : x = y := by simpa using (by assumption : (x != y) = false)
            go_round
            case rel => exact ⟨k + 1, by omega, by go_num, hst.out.2 hxy, below_n hbel _⟩
            case measure => simp [intOf]; omega
        · go_wp2
          go_ret
          have hkl : k = la := by omega
          subst hkl
          rw [List.take_of_length_le (by omega), List.take_of_length_le (by omega)] at he
          exact ⟨by simp [eqv, he], hbel⟩
  · have e : eqv za zb = false := by
      unfold eqv
      rw [decide_eq_false_iff_not]
      rintro rfl
      omega
    rw [e]
    clear h1 h2
    go_enter Try.func17, Try.ntmps17
    go_wp2
    go_ret
    exact ⟨rfl, Below.refl _ _⟩
set_option maxHeartbeats 400000 in
theorem eqInts (a b : Option Addr) (la lb ca cb : Nat) (za zb : List Int) (w : World) (h1 : Rd .i64 w a la za) (h2 : Rd .i64 w b lb zb) (hm : la ≤ 9000000000) :
    Calls Try.prog 18 #[.slice a la ca, .slice b lb cb] w fun e w' => e = .returned (.bool (eqv za zb)) ∧ Below w.heap.size w w' := by
  obtain ⟨l1, h1⟩ := h1
  obtain ⟨l2, h2⟩ := h2
  by_cases hl : la = lb
  · subst hl
    by_cases h0 : la = 0
    · subst h0
      have e : eqv za zb = true := by
        obtain rfl := List.eq_nil_of_length_eq_zero l1
        obtain rfl := List.eq_nil_of_length_eq_zero l2
        rfl
      rw [e]
      go_enter Try.func18, Try.ntmps18
      go_wp2
      go_rounds 1
      go_ret
      exact ⟨rfl, Below.refl _ _⟩
    · obtain ⟨ba, oa, rfl, hba, hca⟩ := h1.resolve_left h0
      obtain ⟨bb, ob, rfl, hbb, hcb⟩ := h2.resolve_left h0
      clear h1 h2
      go_enter Try.func18, Try.ntmps18
      go_wp2
      go_loopw [5] (fun i wr => ∃ k : Nat, k ≤ la ∧ i = .int .i64 k ∧ za.take k = zb.take k ∧ Below w.heap.size w wr) (fun i _ => la - (intOf i).toNat)
      case atStart => exact ⟨0, Nat.zero_le _, rfl, rfl, Below.refl _ _⟩
      case round =>
        obtain ⟨k, hk, rfl, he, hbel⟩ := hrel
        by_cases hlt : k < la
        · have ha := (hbel.cell (p := ⟨ba, oa + k, none⟩) (by exact hba)).trans (hca k hlt)
          have hb := (hbel.cell (p := ⟨bb, ob + k, none⟩) (by exact hbb)).trans (hcb k hlt)
          have hst : Hid (za.take (k+1) = zb.take (k+1) ↔ za.getD k 0 = zb.getD k 0) := eqv_step l1 l2 hlt he
          have HE : Hid (za.take k = zb.take k) := he
          clear he
          obtain ⟨x, hx⟩ : ∃ x, x = za.getD k 0 := ⟨_, rfl⟩
          obtain ⟨y, hy⟩ : ∃ y, y = zb.getD k 0 := ⟨_, rfl⟩
          rw [← hx] at ha hst
          rw [← hy] at hb hst
          clear hx hy hca hcb l1 l2
          go_wp2
          go_quiet (fail)
          go_wp2
          · have hxy : ¬ x = y := by simpa using (by assumption : (x != y) = true)
            go_ret
            refine ⟨?_, below_n hbel _⟩
            have e : eqv za zb = false := by
              unfold eqv
              rw [decide_eq_false_iff_not]
              intro e
              exact hxy (hst.out.1 (by rw [e]))
            rw [e]; rfl
          · have hxy : x = y := by simpa using (by assumption : (x != y) = false)
            go_round
            case rel => exact ⟨k + 1, by omega, by go_num, hst.out.2 hxy, below_n hbel _⟩
            case measure => simp [intOf]; omega
        · go_wp2
          go_ret
          have hkl : k = la := by omega
          subst hkl
          rw [List.take_of_length_le (by omega), List.take_of_length_le (by omega)] at he
          exact ⟨by simp [eqv, he], hbel⟩
  · have e : eqv za zb = false := by
      unfold eqv
      rw [decide_eq_false_iff_not]
      rintro rfl
      omega
    rw [e]
    clear h1 h2
    go_enter Try.func18, Try.ntmps18
    go_wp2
    go_ret
    exact ⟨rfl, Below.refl _ _⟩

def zzB (a b c : Nat) : Bool := decide (a + b + c ≤ 1048576)
def fitsB (a b c : Nat) : Bool := decide (a ≤ 262144 ∧ b ≤ 131072 ∧ c ≤ 131072 ∧ 4 * a + 8 * b + 8 * c ≤ 1048576)
def gapB (len : Nat) (gs ge : Int) : Bool := decide (0 ≤ gs ∧ gs ≤ ge ∧ ge ≤ len)

theorem retB {a b : Bool} (h : a = b) : Ending.returned (.bool a) = .returned (.bool b) := by rw [h]

set_option maxHeartbeats 400000 in
theorem zzR (v0 v4 v5 : Option Addr) (l0 c0 l4 c4 l5 c5 : Nat) (a1 a2 a3 a6 : Int) (w : World) (h0 : l0 ≤ maxLen) (h4 : l4 ≤ maxLen) (h5 : l5 ≤ maxLen) :
    Calls Try.prog 25 #[.slice v0 l0 c0, .int .i64 a1, .int .i64 a2, .int .i64 a3, .slice v4 l4 c4, .slice v5 l5 c5, .int .i64 a6] w fun e w' => e = .returned (.bool (zzB l0 l4 l5)) ∧ w' = w := by
  unfold maxLen at h0 h4 h5
  by_cases g0 : (1048576 : Int) < l0
  · go_enter Try.func25, Try.ntmps25
    go_wp2
    go_ret
    exact ⟨retB (by unfold zzB; rw [Bool.eq_iff_iff]; simp; omega), rfl⟩
  by_cases g4 : (1048576 : Int) < l0 + l4
  · by_cases g4' : (1048576 : Int) < l4
    all_goals
      go_enter Try.func25, Try.ntmps25
      go_wp2
      go_ret
      exact ⟨retB (by unfold zzB; rw [Bool.eq_iff_iff]; simp; omega), rfl⟩
  by_cases g5 : (1048576 : Int) < l0 + l4 + l5
  · by_cases g5' : (1048576 : Int) < l5
    all_goals
      go_enter Try.func25, Try.ntmps25
      go_wp2
      go_ret
      exact ⟨retB (by unfold zzB; rw [Bool.eq_iff_iff]; simp; omega), rfl⟩
  go_enter Try.func25, Try.ntmps25
  go_wp2
  go_ret
  exact ⟨retB (by unfold zzB; rw [Bool.eq_iff_iff]; simp; omega), rfl⟩

set_option maxHeartbeats 400000 in
theorem fitsR (v0 v4 v5 : Option Addr) (l0 c0 l4 c4 l5 c5 : Nat) (w : World) (h0 : l0 ≤ 1048576) (h4 : l4 ≤ 1048576) (h5 : l5 ≤ 1048576) :
    Calls Try.prog 8 #[.slice v0 l0 c0, .slice v4 l4 c4, .slice v5 l5 c5] w fun e w' => e = .returned (.bool (fitsB l0 l4 l5)) ∧ w' = w := by
  by_cases g0 : (262144 : Int) < l0
  · go_enter Try.func8, Try.ntmps8
    go_wp2
    go_ret
    exact ⟨retB (by unfold fitsB; rw [Bool.eq_iff_iff]; simp; omega), rfl⟩
  by_cases g4 : (131072 : Int) < l4
  · go_enter Try.func8, Try.ntmps8
    go_wp2
    go_ret
    exact ⟨retB (by unfold fitsB; rw [Bool.eq_iff_iff]; simp; omega), rfl⟩
  by_cases g5 : (131072 : Int) < l5
  · go_enter Try.func8, Try.ntmps8
    go_wp2
    go_ret
    exact ⟨retB (by unfold fitsB; rw [Bool.eq_iff_iff]; simp; omega), rfl⟩
  go_enter Try.func8, Try.ntmps8
  go_wp2
  go_ret
  exact ⟨retB (by unfold fitsB; rw [Bool.eq_iff_iff]; simp; omega), rfl⟩

set_option maxHeartbeats 400000 in
theorem gapR (v0 : Option Addr) (l0 c0 : Nat) (gs ge : Int) (w : World) :
    Calls Try.prog 9 #[.slice v0 l0 c0, .int .i64 gs, .int .i64 ge] w fun e w' => e = .returned (.bool (gapB l0 gs ge)) ∧ w' = w := by
  by_cases g0 : 0 ≤ gs
  · by_cases g1 : gs ≤ ge
    all_goals
      go_enter Try.func9, Try.ntmps9
      go_wp2
      go_ret
      exact ⟨retB (by unfold gapB; rw [Bool.eq_iff_iff]; simp; omega), rfl⟩
  · go_enter Try.func9, Try.ntmps9
    go_wp2
    go_ret
    exact ⟨retB (by unfold gapB; rw [Bool.eq_iff_iff]; simp; omega), rfl⟩
end Go.Proofs.Qxb6602056a
