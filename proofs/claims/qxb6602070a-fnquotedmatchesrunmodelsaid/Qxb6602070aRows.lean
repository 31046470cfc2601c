/-
  No cell of these rows narrows 'for every input' (looked for: loops, veiled, ifaces, maps, wideKeys, modest, calm, conditions, laid).
  DERIVED. THE GIVEN ROWS OF THIS SEAT. 3 by the template 'for every input the law returns true; each argument reads behind the call as it read before'; 0 by the template 'total and deterministic' (their statements: Qxb6602070aTotals.lean).
  GIVEN WITH THE SEED: the statements are not yours to turn. If you find one false, say at which input.
  Laid BY PROGRAM, IN A SANDBOX (cutbox-rows.mjs): the forced cells as the released guide's own fill.sh prints them over the translation 751393240183d33c… (all of the seat's roots in one cut). By AI agents, Wed Nov 11 2026. No macro, syntax, notation, axiom, sorry.
-/
import Derived.Test.Qxb6602070aChecked
import GoSem.Claim
import GoSem.ClaimJoined
import GoSem.ClaimMapViews
import Derived.JoinedTies
import Derived.KernelRfl
namespace Go.Proofs.Qxb6602070a
/- THE CELL 'sum', in the pinned program and in every row, IS THE sha256 OF THE DUMP (.gsa) THAT Qxb6602070aProg.lean LOADS. Nothing in Lean hashes anything: it is a label: what it is worth is what the hold of that sum in a sandbox is worth. -/
noncomputable def Try.pinned : Pinned := { name := "qxb6602070a", sum := "751393240183d33c853cc57c4038c467887417bc4f6e356e24627586564c664d", checked := Try.checked }
namespace Rows
def none {H : Type} : Left H := { results := [], args := [] }

/-- 'zzlaws_internal_sqltoken_b1.FnQuotedMatchesRunModel': WHATEVER THE INPUT: true; the input reads as it did. -/
def fnQuotedMatchesRunModelSpec : ChangeSpec := { name := "fnQuotedMatchesRunModel", fn := fun _ => fun
  | [d1, d2, d3] => { results := [.lit (.bool true)], args := [d1, d2, d3] }
  | _ => none }
def fnQuotedMatchesRunModelRow : OpenClaim := { program := "qxb6602070a", sum := "751393240183d33c853cc57c4038c467887417bc4f6e356e24627586564c664d", func := "example.com/crossfade/crossfade/zzlaws_internal_sqltoken_b1.FnQuotedMatchesRunModel", spec := "fnQuotedMatchesRunModel", inPlace := ["internal/abi.NoEscape"], apart := false }
def FnQuotedMatchesRunModelSaid : Prop := fnQuotedMatchesRunModelRow.holds Try.pinned (OpenSpec.ofChange fnQuotedMatchesRunModelSpec)

/-- ITS FALSE NEIGHBOUR: 'it returns false'. Refute it at one input. -/
def fnQuotedMatchesRunModelWrong : ChangeSpec := { name := "fnQuotedMatchesRunModel", fn := fun _ => fun
  | [d1, d2, d3] => { results := [.lit (.bool false)], args := [d1, d2, d3] }
  | _ => none }
def FnQuotedMatchesRunModelWrongFalsely : Prop := fnQuotedMatchesRunModelRow.holds Try.pinned (OpenSpec.ofChange fnQuotedMatchesRunModelWrong)

/-- 'zzlaws_internal_sqltoken_b1.FnQuotedRoundTrip': WHATEVER THE INPUT: true; the input reads as it did. -/
def fnQuotedRoundTripSpec : ChangeSpec := { name := "fnQuotedRoundTrip", fn := fun _ => fun
  | [d1, d2, d3, d4, d5] => { results := [.lit (.bool true)], args := [d1, d2, d3, d4, d5] }
  | _ => none }
def fnQuotedRoundTripRow : OpenClaim := { program := "qxb6602070a", sum := "751393240183d33c853cc57c4038c467887417bc4f6e356e24627586564c664d", func := "example.com/crossfade/crossfade/zzlaws_internal_sqltoken_b1.FnQuotedRoundTrip", spec := "fnQuotedRoundTrip", inPlace := ["internal/abi.NoEscape"], apart := false }
def FnQuotedRoundTripSaid : Prop := fnQuotedRoundTripRow.holds Try.pinned (OpenSpec.ofChange fnQuotedRoundTripSpec)

/-- ITS FALSE NEIGHBOUR: 'it returns false'. Refute it at one input. -/
def fnQuotedRoundTripWrong : ChangeSpec := { name := "fnQuotedRoundTrip", fn := fun _ => fun
  | [d1, d2, d3, d4, d5] => { results := [.lit (.bool false)], args := [d1, d2, d3, d4, d5] }
  | _ => none }
def FnQuotedRoundTripWrongFalsely : Prop := fnQuotedRoundTripRow.holds Try.pinned (OpenSpec.ofChange fnQuotedRoundTripWrong)

/-- 'zzlaws_internal_sqltoken_b1.FnQuotedReadsOnlyItsSpan': WHATEVER THE INPUT: true; the input reads as it did. -/
def fnQuotedReadsOnlyItsSpanSpec : ChangeSpec := { name := "fnQuotedReadsOnlyItsSpan", fn := fun _ => fun
  | [d1, d2, d3] => { results := [.lit (.bool true)], args := [d1, d2, d3] }
  | _ => none }
def fnQuotedReadsOnlyItsSpanRow : OpenClaim := { program := "qxb6602070a", sum := "751393240183d33c853cc57c4038c467887417bc4f6e356e24627586564c664d", func := "example.com/crossfade/crossfade/zzlaws_internal_sqltoken_b1.FnQuotedReadsOnlyItsSpan", spec := "fnQuotedReadsOnlyItsSpan", inPlace := ["internal/abi.NoEscape"], apart := false }
def FnQuotedReadsOnlyItsSpanSaid : Prop := fnQuotedReadsOnlyItsSpanRow.holds Try.pinned (OpenSpec.ofChange fnQuotedReadsOnlyItsSpanSpec)

/-- ITS FALSE NEIGHBOUR: 'it returns false'. Refute it at one input. -/
def fnQuotedReadsOnlyItsSpanWrong : ChangeSpec := { name := "fnQuotedReadsOnlyItsSpan", fn := fun _ => fun
  | [d1, d2, d3] => { results := [.lit (.bool false)], args := [d1, d2, d3] }
  | _ => none }
def FnQuotedReadsOnlyItsSpanWrongFalsely : Prop := fnQuotedReadsOnlyItsSpanRow.holds Try.pinned (OpenSpec.ofChange fnQuotedReadsOnlyItsSpanWrong)

end Rows
end Go.Proofs.Qxb6602070a
