/-
  No cell of these rows narrows 'for every input' (looked for: loops, veiled, ifaces, maps, wideKeys, modest, calm, conditions, laid).
  DERIVED. THE GIVEN ROWS OF THIS SEAT. 4 by the template 'for every input the law returns true; each argument reads behind the call as it read before'; 0 by the template 'total and deterministic' (their statements: Qxb6602086aTotals.lean).
  GIVEN WITH THE SEED: the statements are not yours to turn. If you find one false, say at which input.
  Laid BY PROGRAM, IN A SANDBOX (cutbox-rows.mjs): the forced cells as the released guide's own fill.sh prints them over the translation edaf242023aafd23… (all of the seat's roots in one cut). By AI agents, Wed Nov 11 2026. No macro, syntax, notation, axiom, sorry.
-/
import Derived.Test.Qxb6602086aChecked
import GoSem.Claim
import GoSem.ClaimJoined
import GoSem.ClaimMapViews
import Derived.JoinedTies
import Derived.KernelRfl
namespace Go.Proofs.Qxb6602086a
/- THE CELL 'sum', in the pinned program and in every row, IS THE sha256 OF THE DUMP (.gsa) THAT Qxb6602086aProg.lean LOADS. Nothing in Lean hashes anything: it is a label: what it is worth is what the hold of that sum in a sandbox is worth. -/
noncomputable def Try.pinned : Pinned := { name := "qxb6602086a", sum := "edaf242023aafd238e6fc9b3e0713ee5b64bb6b02eb6cbe520c30daf22e25ac3", checked := Try.checked }
namespace Rows
def none {H : Type} : Left H := { results := [], args := [] }

/-- 'zzlaws_internal_msglog_b1.FnPayloadSizeConcat': WHATEVER THE INPUT: true; the input reads as it did. -/
def fnPayloadSizeConcatSpec : ChangeSpec := { name := "fnPayloadSizeConcat", fn := fun _ => fun
  | [d1, d2] => { results := [.lit (.bool true)], args := [d1, d2] }
  | _ => none }
def fnPayloadSizeConcatRow : OpenClaim := { program := "qxb6602086a", sum := "edaf242023aafd238e6fc9b3e0713ee5b64bb6b02eb6cbe520c30daf22e25ac3", func := "example.com/skirnir/skirnir/zzlaws_internal_msglog_b1.FnPayloadSizeConcat", spec := "fnPayloadSizeConcat", apart := false }
def FnPayloadSizeConcatSaid : Prop := fnPayloadSizeConcatRow.holds Try.pinned (OpenSpec.ofChange fnPayloadSizeConcatSpec)

/-- ITS FALSE NEIGHBOUR: 'it returns false'. Refute it at one input. -/
def fnPayloadSizeConcatWrong : ChangeSpec := { name := "fnPayloadSizeConcat", fn := fun _ => fun
  | [d1, d2] => { results := [.lit (.bool false)], args := [d1, d2] }
  | _ => none }
def FnPayloadSizeConcatWrongFalsely : Prop := fnPayloadSizeConcatRow.holds Try.pinned (OpenSpec.ofChange fnPayloadSizeConcatWrong)

/-- 'zzlaws_internal_msglog_b1.FnIndexBatchIdempotent': WHATEVER THE INPUT: true; the input reads as it did. -/
def fnIndexBatchIdempotentSpec : ChangeSpec := { name := "fnIndexBatchIdempotent", fn := fun _ => fun
  | [d1, d2, d3, d4] => { results := [.lit (.bool true)], args := [d1, d2, d3, d4] }
  | _ => none }
def fnIndexBatchIdempotentRow : OpenClaim := { program := "qxb6602086a", sum := "edaf242023aafd238e6fc9b3e0713ee5b64bb6b02eb6cbe520c30daf22e25ac3", func := "example.com/skirnir/skirnir/zzlaws_internal_msglog_b1.FnIndexBatchIdempotent", spec := "fnIndexBatchIdempotent", apart := false }
def FnIndexBatchIdempotentSaid : Prop := fnIndexBatchIdempotentRow.holds Try.pinned (OpenSpec.ofChange fnIndexBatchIdempotentSpec)

/-- ITS FALSE NEIGHBOUR: 'it returns false'. Refute it at one input. -/
def fnIndexBatchIdempotentWrong : ChangeSpec := { name := "fnIndexBatchIdempotent", fn := fun _ => fun
  | [d1, d2, d3, d4] => { results := [.lit (.bool false)], args := [d1, d2, d3, d4] }
  | _ => none }
def FnIndexBatchIdempotentWrongFalsely : Prop := fnIndexBatchIdempotentRow.holds Try.pinned (OpenSpec.ofChange fnIndexBatchIdempotentWrong)

/-- 'zzlaws_internal_msglog_b1.FnIndexBatchKeepsEntries': WHATEVER THE INPUT: true; the input reads as it did. -/
def fnIndexBatchKeepsEntriesSpec : ChangeSpec := { name := "fnIndexBatchKeepsEntries", fn := fun _ => fun
  | [d1, d2, d3, d4] => { results := [.lit (.bool true)], args := [d1, d2, d3, d4] }
  | _ => none }
def fnIndexBatchKeepsEntriesRow : OpenClaim := { program := "qxb6602086a", sum := "edaf242023aafd238e6fc9b3e0713ee5b64bb6b02eb6cbe520c30daf22e25ac3", func := "example.com/skirnir/skirnir/zzlaws_internal_msglog_b1.FnIndexBatchKeepsEntries", spec := "fnIndexBatchKeepsEntries", apart := false }
def FnIndexBatchKeepsEntriesSaid : Prop := fnIndexBatchKeepsEntriesRow.holds Try.pinned (OpenSpec.ofChange fnIndexBatchKeepsEntriesSpec)

/-- ITS FALSE NEIGHBOUR: 'it returns false'. Refute it at one input. -/
def fnIndexBatchKeepsEntriesWrong : ChangeSpec := { name := "fnIndexBatchKeepsEntries", fn := fun _ => fun
  | [d1, d2, d3, d4] => { results := [.lit (.bool false)], args := [d1, d2, d3, d4] }
  | _ => none }
def FnIndexBatchKeepsEntriesWrongFalsely : Prop := fnIndexBatchKeepsEntriesRow.holds Try.pinned (OpenSpec.ofChange fnIndexBatchKeepsEntriesWrong)

/-- 'zzlaws_internal_msglog_b1.FnIndexBatchScript': WHATEVER THE INPUT: true; the input reads as it did. -/
def fnIndexBatchScriptSpec : ChangeSpec := { name := "fnIndexBatchScript", fn := fun _ => fun
  | [d1, d2] => { results := [.lit (.bool true)], args := [d1, d2] }
  | _ => none }
def fnIndexBatchScriptRow : OpenClaim := { program := "qxb6602086a", sum := "edaf242023aafd238e6fc9b3e0713ee5b64bb6b02eb6cbe520c30daf22e25ac3", func := "example.com/skirnir/skirnir/zzlaws_internal_msglog_b1.FnIndexBatchScript", spec := "fnIndexBatchScript", apart := false }
def FnIndexBatchScriptSaid : Prop := fnIndexBatchScriptRow.holds Try.pinned (OpenSpec.ofChange fnIndexBatchScriptSpec)

/-- ITS FALSE NEIGHBOUR: 'it returns false'. Refute it at one input. -/
def fnIndexBatchScriptWrong : ChangeSpec := { name := "fnIndexBatchScript", fn := fun _ => fun
  | [d1, d2] => { results := [.lit (.bool false)], args := [d1, d2] }
  | _ => none }
def FnIndexBatchScriptWrongFalsely : Prop := fnIndexBatchScriptRow.holds Try.pinned (OpenSpec.ofChange fnIndexBatchScriptWrong)

end Rows
end Go.Proofs.Qxb6602086a
