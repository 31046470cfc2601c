import Derived.Test.Qxb6602070aShelf
import Derived.WalkKit
import Derived.ProofKit
import Derived.OpenShut
import Derived.Below
import Derived.WalkSmall
import Derived.WalkSpells
import Derived.WalkLawsBesides
import Derived.Handy
import Derived.Deep.QuietTactic
import Derived.BigQuiet
import Derived.Deep.DeepCutAuto
namespace Go.Proofs.Qxb6602070a
open Go.RowKit

/-! Conversions to and from a raw pointer, at a builder's address: the address as it is. -/
theorem toRaw (b : Nat) (w : World) (j : TypeInfo) (hj : Try.prog.info? 30 = some j) (hjs : j.size ≠ 0) (hsh : w.shape? b = some (30, 2)) :
    (convert 28 36 (.pointer (some ⟨b, 0, none⟩))).run Try.prog w = .ok (.pointer (some ⟨b, 0, none⟩)) w := by
  simp [convert, run_underlying Try.underlying28, run_underlying Try.underlying36]
  change Sem.run Try.prog (underlying 28 >>= _) w = _
  simp [run_underlying Try.underlying28, run_underlying Try.underlying36, Conv.seenAt, viewAt, cellsIn, hsh, sizeOf, typeInfo, hj, hjs]
theorem fromRaw (b : Nat) (w : World) (j : TypeInfo) (hj : Try.prog.info? 30 = some j) (hsh : w.shape? b = some (30, 2)) (hlies : liesAt Try.prog Try.prog.depth 30 (2 / Try.prog.cellsOf 30) 0 30 1 = true) :
    (convert 36 28 (.pointer (some ⟨b, 0, none⟩))).run Try.prog w = .ok (.pointer (some ⟨b, 0, none⟩)) w := by
  simp [convert, run_underlying Try.underlying28, run_underlying Try.underlying36]
  change Sem.run Try.prog (underlying 36 >>= _) w = _
  simp [run_underlying Try.underlying28, run_underlying Try.underlying36, Conv.seenAt, viewAt, hsh, variablesAt, hlies, sizeOf, typeInfo, hj]

theorem Try.info5 : (Try.prog.info? 5).map (fun i => (i.zero, i.size, i.bytes)) = some (some (.int .u8 0), 1, 1) := by kernel_rfl

set_option maxRecDepth 100000 in
set_option maxHeartbeats 400000 in
theorem copyUsed (b : Nat) (w : World) (h0 : w.cell? ⟨b, 0, none⟩ = some (.pointer (some ⟨b, 0, none⟩))) :
    Calls Try.prog 15 #[.pointer (some ⟨b, 0, none⟩)] w fun e w' => e = .returned (.tuple #[]) ∧ w' = w := by
  obtain ⟨j, hj, _⟩ := Option.map_eq_some_iff.1 builder_Extra_169.sizeBuilder
  go_enter Try.func15, Try.ntmps15
  go_wp2
  rw [Lib.run_neq_ptr_same w _ Try.underlying28 hj]
  go_wp2
  go_returns
  exact ⟨rfl, rfl⟩

set_option maxRecDepth 100000 in
set_option maxHeartbeats 400000 in
theorem copyFresh (b : Nat) (w : World) (h0 : w.cell? ⟨b, 0, none⟩ = some (.pointer none)) (hsh : w.shape? b = some (30, 2)) (hfz : w.frozen? ⟨b, 0, none⟩ = false) :
    Calls Try.prog 15 #[.pointer (some ⟨b, 0, none⟩)] w fun e w' => e = .returned (.tuple #[]) ∧ w' = w.setCell ⟨b, 0, none⟩ (.pointer (some ⟨b, 0, none⟩)) := by
  obtain ⟨j, hj, hjs⟩ := Option.map_eq_some_iff.1 builder_Extra_169.sizeBuilder
  go_enter Try.func15, Try.ntmps15
  go_wp2
  rw [toRaw b w j hj (by rw [hjs]; decide) hsh]
  simp only [Result.andThen]
  rw [Oper.upon_value]
  go_wp2
  rw [run_callFunc_extern Try.func16 (by kernel_rfl) (by kernel_rfl) (by kernel_rfl) (e := Extern.AbiNoEscape.same) (by kernel_rfl)]
  rw [Lib.run_noEscape]
  simp only [Result.andThen]
  rw [Oper.upon_value]
  go_wp2
  rw [fromRaw b w j hj hsh builder_Extra_169.liesBuilder]
  simp only [Result.andThen]
  rw [Oper.upon_value]
  go_wp2
  go_returns
  exact ⟨rfl, rfl⟩

theorem copyC (B b : Nat) (bs : List Value) (w : World) (h : Lib.IsBuilder 30 5 B b bs w) :
    Calls Try.prog 15 #[.pointer (some ⟨b, 0, none⟩)] w fun e w' => e = .returned (.tuple #[]) ∧ Lib.BuilderAt 30 5 B b (.pointer (some ⟨b, 0, none⟩)) bs w' ∧ Below B w w' := by
  rcases h with h | h
  · refine (copyFresh b w h.cell0 h.shape h.frozen0).mono ?_
    rintro e w' ⟨rfl, rfl⟩
    exact ⟨rfl, h.used _, (Below.refl _ _).setCell h.1 _⟩
  · refine (copyUsed b w h.cell0).mono ?_
    rintro e w' ⟨rfl, rfl⟩
    exact ⟨rfl, h, Below.refl _ _⟩

/-- A builder that has been laid. -/
def Bld (B b : Nat) (l : List UInt8) (w : World) : Prop := Lib.IsBuilder 30 5 B b (Lib.byteCells l) w

set_option maxRecDepth 100000 in
set_option maxHeartbeats 1000000 in
theorem writeC (B b : Nat) (l : List UInt8) (c : UInt8) (w : World) (h : Bld B b l w) (hlen : l.length ≤ 9000000) (hBw : B ≤ w.heap.size) :
    Calls Try.prog 13 #[.pointer (some ⟨b, 0, none⟩), .int .u8 (c.toNat : Int)] w fun e w' => e = .returned .nilIface ∧ Bld B b (l ++ [c]) w' ∧ Below B w w' := by
  obtain ⟨i0, hi, hz0, hz1, hz2⟩ := info_parts Try.info5
  have hll := Lib.byteCells_length l
  obtain ⟨bs, hbs⟩ : ∃ bs, bs = Lib.byteCells l := ⟨_, rfl⟩
  have hbl : bs.length ≤ 9000000 := by rw [hbs, hll]; exact hlen
  have HB : Hid (bs = Lib.byteCells l) := hbs
  unfold Bld at h ⊢
  rw [← hbs] at h
  clear hbs hll
  go_enter Try.func13, Try.ntmps13
  go_wp2_with (go_at_call 15; refine (copyC B b bs _ h).mono ?_)
  rintro e w1 ⟨rfl, h1, hb1⟩
  obtain ⟨hB, v, hbk, hown, hne⟩ := h1
  have c0 : w1.cell? ⟨b, 0, none⟩ = some (.pointer (some ⟨b, 0, none⟩)) := by rw [Lib.cell_of_heap hbk]; rfl
  have c1 : w1.cell? ⟨b, 1, none⟩ = some v := by rw [Lib.cell_of_heap hbk]; rfl
  go_wp2_with (at_builtin; refine wpList_append_own _ rfl _ _ 27 rfl B 5 i0 (.int .u8 0) 1 1 Try.underlying27 hi hz0 hz1 hz2 rfl (by decide) _ _ _ rfl (hown.alloc _) ⟨w1.heap.size, 0, none⟩ 1 1 [.int .u8 (c.toNat : Int)] rfl rfl ?c1 ?c2 ?c3 ?c4 ?c5 ?_)
  case c1 =>
    intro j u hj
    match j, hj with
    | 0, hj => simp at hj; subst hj; simp [Addr.add]
  case c2 => intro u hu; simp at hu; subst hu; rfl
  case c3 => unfold maxLen; omega
  case c4 => omega
  case c5 => have := hb1.size; simp; omega
  intro v' w2 hown' hgrow _
  have hlt : b < w1.heap.size := (Array.getElem?_eq_some_iff.1 hbk).1
  have hb2 : w2.heap[b]? = some (.cells #[.pointer (some ⟨b, 0, none⟩), v] 30 (0, 0)) := by
    rw [hgrow.block b (by simp; omega) (fun e => hne e.symm), Below.heap_alloc w1 _ b hlt]
    exact hbk
  have d0 : w2.cell? ⟨b, 0, none⟩ = some (.pointer (some ⟨b, 0, none⟩)) := by rw [Lib.cell_of_heap hb2]; rfl
  have d1 : w2.cell? ⟨b, 1, none⟩ = some v := by rw [Lib.cell_of_heap hb2]; rfl
  have f1 : w2.frozen? ⟨b, 1, none⟩ = false := Lib.frozen_of_heap hb2 1
  obtain ⟨g, cap, rfl⟩ : ∃ g cap, v' = .slice (some ⟨g, 0, none⟩) (bs.length + 1) cap := by
    rcases hown'.2 with ⟨_, h0⟩ | ⟨g, cap, cur, hv, _⟩
    · omega
    · exact ⟨g, cap, hv⟩
  have HG := hgrow
  have HO := hown'
  clear hgrow hown' c0 c1
  go_wp2
  go_ret
  have hcat : Lib.byteCells (l ++ [c]) = bs ++ [.int .u8 (c.toNat : Int)] := by rw [HB.out]; simp [Lib.byteCells]
  refine ⟨rfl, ?_, ?_⟩
  · rw [hcat]
    exact .inr (Lib.BuilderAt.put hB hb2 (by simpa using HO) (by decide))
  · exact ((hb1.alloc (by have := hb1.size; omega) _).grown HG (by have := hb1.size; simp; omega) (fun k hk => (hown.lt k hk).1)).setCell hB _
end Go.Proofs.Qxb6602070a
