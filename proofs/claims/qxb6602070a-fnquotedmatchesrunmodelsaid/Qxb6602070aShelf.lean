import Derived.Test.Qxb6602070aRows
import Derived.Shelf.Strings.Builder1
namespace Go.Proofs.Qxb6602070a
open Go.Shelf
def lays169_ren : Go.Shelf.Ren := ⟨fun | 169 => 14 | n => n, fun | 70 => 28 | 9 => 9 | 0 => 0 | 72 => 30 | 37 => 27 | 127 => 35 | 3 => 3 | 5 => 5 | n => n, fun | n => n⟩
theorem lays169 : Go.Proofs.Lays.n169 Try.prog lays169_ren := {
  mixed := by kernel_rfl
  f169 := Try.func14.trans (congrArg some (by kernel_rfl))
  t0 := Try.underlying0
  a0 := Try.isAgg0
  z0 := Try.sizeOf0
  v0 := Try.zeroValue0
  t3 := Try.underlying3
  a3 := Try.isAgg3
  z3 := Try.sizeOf3
  v3 := Try.zeroValue3
  t9 := Try.underlying9
  a9 := Try.isAgg9
  z9 := Try.sizeOf9
  v9 := Try.zeroValue9
  t37 := Try.underlying27
  a37 := Try.isAgg27
  z37 := Try.sizeOf27
  v37 := Try.zeroValue27
  t70 := Try.underlying28
  a70 := Try.isAgg28
  z70 := Try.sizeOf28
  v70 := Try.zeroValue28
  t72 := Try.underlying30
  a72 := Try.isAgg30
  z72 := Try.sizeOf30
  v72 := Try.zeroValue30
  t127 := Try.underlying35
  a127 := Try.isAgg35
  z127 := Try.sizeOf35
  v127 := Try.zeroValue35 }
theorem builder_Extra_169 : Builder.Extra Try.prog lays169_ren := {
  sizeBuilder := by kernel_rfl
  liesBuilder := by kernel_rfl
  t5 := Try.underlying5
  a5 := Try.isAgg5
  z5 := Try.sizeOf5
  v5 := Try.zeroValue5
  infoByte := by kernel_rfl
  cellsByte := by kernel_rfl
  sizeByte := by kernel_rfl
  neB5 := by decide }
open Go.RowKit in
/-- (*strings.Builder).String, whatever the builder holds: the shelf's contract at this dump. -/
theorem builder_String_any (B b : Nat) (l : List UInt8) (w : World) (h : Lib.IsBuilder 30 5 B b (Lib.byteCells l) w) (hBw : B ≤ w.heap.size) :
    Calls Try.prog 14 #[.pointer (some ⟨b, 0, none⟩)] w fun e w' => e = .returned (.string ⟨l.toArray⟩) ∧ Below B w w' := Any.Builder_String_any lays169 builder_Extra_169 B b l w h hBw
end Go.Proofs.Qxb6602070a
