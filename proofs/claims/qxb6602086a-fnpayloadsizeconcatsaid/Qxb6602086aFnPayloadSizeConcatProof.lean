/- 'Rows.FnPayloadSizeConcatSaid', proved: the frame is the kit's own way for a law over slices, turned to two slices of slices of bytes; the walk is built out of contracts. -/
import Derived.Test.Qxb6602086aC
import Derived.ShutString
import Derived.ChangeOld
import Derived.Deep.Matrix
namespace Go.Proofs.Qxb6602086a.fnPayloadSizeConcat
open Go.ChangeShapes Go.WideShapes Go.ChangeAt Go.RowKit Go.Deep
set_option linter.unusedVariables false

theorem own : ownKnob Try.prog.godebug = none := by kernel_rfl
theorem laidOut : laidOutB Try.prog = true := by kernel_rfl

theorem addr_of {w : World} {x : Addr} {v : Value} (h : w.cell? x = some v) : x = ⟨x.block, x.off, none⟩ := by
  obtain ⟨b, o, s⟩ := x
  cases s with
  | none => rfl
  | some s =>
    unfold World.cell? at h
    simp at h
    split at h <;> simp_all

theorem walk (a0 : Option Addr) (len0 cap0 : Nat) (A0 : Nat → Option Addr) (L0 C0 : Nat → Nat) (a1 : Option Addr) (len1 cap1 : Nat) (A1 : Nat → Option Addr) (L1 C1 : Nat → Nat) (w : World) (w0 : Bs w a0 len0 A0 L0 C0) (m0 : len0 ≤ maxLen) (w1 : Bs w a1 len1 A1 L1 C1) (m1 : len1 ≤ maxLen) :
    Calls Try.prog 3 #[.slice a0 len0 cap0, .slice a1 len1 cap1] w fun e w' => e = .returned (.bool true) ∧ Below w.heap.size w w' := by
  by_cases h : zzP len0 (sumL L0 len0) len1 (sumL L1 len1) = true ∧ len0 ≤ 65536 ∧ len1 ≤ 65536
  · obtain ⟨h1, h2, h3⟩ := h
    have b1 : body len0 (sumL L0 len0) = -1 ∨ ∃ x : Nat, x ≤ 1048576 ∧ body len0 (sumL L0 len0) = x := by
      unfold body; split
      · right; exact ⟨_, by omega, rfl⟩
      · left; rfl
    have b2 : body len1 (sumL L1 len1) = -1 ∨ ∃ x : Nat, x ≤ 1048576 ∧ body len1 (sumL L1 len1) = x := by
      unfold body; split
      · right; exact ⟨_, by omega, rfl⟩
      · left; rfl
    have early := payEarly2 a0 a1 len0 len1 cap0 cap1 A0 A1 L0 L1 C0 C1 w w0 w1 m0 m1 h1 h2 h3
    rcases b1 with b1 | ⟨x, bx, b1⟩
    · exact early (.inl (by omega)) (by omega) (by rcases b2 with b2 | ⟨y, by', b2⟩ <;> omega)
    · rcases b2 with b2 | ⟨y, by', b2⟩
      · exact early (.inr (.inl (by omega))) (by omega) (by omega)
      · by_cases hxy : x + y ≤ 1048576
        · exact payMain a0 a1 len0 len1 cap0 cap1 A0 A1 L0 L1 C0 C1 w w0 w1 m0 m1 h1 h2 h3 x y b1 b2 hxy
        · exact early (.inr (.inr (by omega))) (by omega) (by omega)
  · exact payEarly a0 a1 len0 len1 cap0 cap1 A0 A1 L0 L1 C0 C1 w w0 w1 m0 m1 h

theorem rows_of {H : Type} {enc : TypeId × Value → H} {W : World} {a : Option Addr} {len cap : Nat} {x : DataW H × List MemPlace} {fuel : Nat} (hf : DataW.trod enc Try.prog W 0 (fun _ => true) true fuel 22 (Value.slice a len cap).cells.toList = some x) :
    ∃ A L C, Bs W a len A L C ∧ len ≤ maxLen := by
  rcases open_int_rows Try.underlying22 Try.underlying25 Try.underlying5 (by kernel_rfl) (by kernel_rfl) hf with ⟨hcs, _⟩ | ⟨y, l, c, A, L, C, Z, hcs, _, hl, hm, _, hcell⟩
  · simp [Value.cells] at hcs
    obtain ⟨rfl, rfl, rfl⟩ := hcs
    exact ⟨fun _ => none, fun _ => 0, fun _ => 0, ⟨fun r h => absurd h (by omega), .inl rfl⟩, Nat.zero_le _⟩
  · simp [Value.cells] at hcs
    obtain ⟨rfl, rfl, rfl⟩ := hcs
    refine ⟨A, L, C, ⟨fun r h => ?_, ?_⟩, by omega⟩
    · obtain ⟨_, h2, h3, _⟩ := hcell r (by omega); omega
    · by_cases h0 : len = 0
      · exact .inl h0
      · have hc0 := (hcell 0 (by omega)).1
        have e0 : y.add 0 = y := by simp [Addr.add]
        rw [e0] at hc0
        have hy := addr_of hc0
        refine .inr ⟨y.block, y.off, by rw [← hy], World.block_lt_of_cell? W _ hc0, fun r hr => ?_⟩
        have := (hcell r (by omega)).1
        rw [hy, Addr.add_lit] at this
        exact this

set_option maxRecDepth 100000 in
theorem lifted (os : Os) (started : os.Started) (H : Type) (enc : TypeId × Value → H) :
    ReturnsInHanded {} Try.checked os 3 .any (Rows.fnPayloadSizeConcatSpec.pre6 enc Try.prog Try.f3 Rows.fnPayloadSizeConcatRow.domain false) (Rows.fnPayloadSizeConcatSpec.post enc Try.prog Try.f3 false true false false) := by
  refine returnsInHanded_of_change (C := Try.checked) own started (by kernel_rfl) Try.func3
    (ChangeSpec.witness6 (enc := enc) (C := Try.checked) false ⟨#[], #[.slice none 0 0, .slice none 0 0], []⟩ 8 (by kernel_rfl) (by kernel_rfl) (by kernel_rfl) (by kernel_rfl)) ?_
  intro W base args ds gs before hval0 hW hcnd _
  have hval : ∀ (j : Nat) t v, Try.f3.params[j]? = some t → args[j]? = some v → Value.okWide Try.prog W .any base t v := hval0
  have hW' := hW
  obtain ⟨p, q, hA0, hV, rfl, hfz, hnd⟩ := hW
  have hA : DataW.TrodAll enc Try.prog W 0 (fun _ => true) true Try.f3.params.toList args.toList ds p := hA0
  rw [Try.params3] at hA hval
  obtain ⟨v0, vs0, d0, ds0, p0, q0, hargs, rfl, rfl, h0, r0⟩ := trodAll_cons hA
  obtain ⟨v1, vs1, d1, ds1, p1, q1, rfl, rfl, rfl, h1, r1⟩ := trodAll_cons r0
  obtain ⟨rfl, rfl, rfl⟩ := trodAll_nil r1
  obtain rfl : args = #[v0, v1] := by cases args; simp_all
  obtain ⟨rfl, rfl⟩ := trodVars_none hV
  obtain ⟨a0, len0, cap0, rfl⟩ := okWide_slice Try.underlying22 (hval 0 22 v0 rfl rfl)
  have k0 := h0
  have lt0 : ∀ x ∈ p0, x.block < W.heap.size := by obtain ⟨m, hm⟩ := k0; exact DataW.trod_lt m _ _ _ hm
  obtain ⟨A0, L0, C0, w0, m0⟩ : ∃ A L C, Bs W a0 len0 A L C ∧ len0 ≤ maxLen := by
    obtain ⟨fuel, hf⟩ := h0
    exact rows_of hf
  obtain ⟨a1, len1, cap1, rfl⟩ := okWide_slice Try.underlying22 (hval 1 22 v1 rfl rfl)
  have k1 := h1
  have lt1 : ∀ x ∈ p1, x.block < W.heap.size := by obtain ⟨m, hm⟩ := k1; exact DataW.trod_lt m _ _ _ hm
  obtain ⟨A1, L1, C1, w1, m1⟩ : ∃ A L C, Bs W a1 len1 A L C ∧ len1 ≤ maxLen := by
    obtain ⟨fuel, hf⟩ := h1
    exact rows_of hf
  clear hA0 hval0
  refine (walk a0 len0 cap0 A0 L0 C0 a1 len1 cap1 A1 L1 C1 W w0 m0 w1 m1).mono fun e W' ⟨he, bel⟩ => ?_
  subst he
  exact ⟨_, rfl, _, _, _, [], _, [], hW', trodAll_mk1 (shut_bool Try.underlying4 _), (trodAll_cons_mk (Below.trod laidOut (by kernel_rfl) (of_decide_eq_true (by kernel_rfl)) k0 bel lt0) (trodAll_cons_mk (Below.trod laidOut (by kernel_rfl) (of_decide_eq_true (by kernel_rfl)) k1 bel lt1) trodAll_mk0)), rfl, bel.frame _, fun h => by cases h⟩

theorem over : Rows.fnPayloadSizeConcatRow.holds Try.pinned (OpenSpec.ofChange Rows.fnPayloadSizeConcatSpec) :=
  OpenClaim.holds_of_wide 3 Try.f3 rfl rfl rfl rfl rfl rfl rfl ⟨rfl, rfl, rfl, rfl, rfl⟩ rfl rfl rfl rfl rfl (by kernel_rfl) Try.func3 (by kernel_rfl)
    (of_decide_eq_true (by kernel_rfl)) (by unfold Func.isWrapper; first | (rw [if_pos (by decide +kernel)]; kernel_rfl) | (rw [if_neg (by decide +kernel)]; exact ⟨rfl, rfl⟩))
    (fun os started H enc _ => lifted os started H enc)

/-- THE STATEMENT -/
theorem proved : Rows.FnPayloadSizeConcatSaid := over
#print axioms proved
end Go.Proofs.Qxb6602086a.fnPayloadSizeConcat
