import Derived.Test.Qxb6602056aC
namespace Go.Proofs.Qxb6602056a
open Go.RowKit

/-- The buffer's struct at block p. -/
def Buf (w : World) (p : Nat) (a : Option Addr) (len cap : Nat) (gs ge bl : Int) (a4 : Option Addr) (l4 c4 : Nat) (a5 : Option Addr) (l5 c5 : Nat) : Prop :=
  w.heap[p]? = some (.cells #[.slice a len cap, .int .i64 gs, .int .i64 ge, .int .i64 bl, .slice a4 l4 c4, .slice a5 l5 c5] 42 (0, 0))

section
variable {w : World} {p : Nat} {a : Option Addr} {len cap : Nat} {gs ge bl : Int} {a4 : Option Addr} {l4 c4 : Nat} {a5 : Option Addr} {l5 c5 : Nat}

theorem Buf.lt (h : Buf w p a len cap gs ge bl a4 l4 c4 a5 l5 c5) : p < w.heap.size := (Array.getElem?_eq_some_iff.1 h).1
theorem Buf.cells (h : Buf w p a len cap gs ge bl a4 l4 c4 a5 l5 c5) :
    w.cell? ⟨p, 0, none⟩ = some (.slice a len cap) ∧ w.cell? ⟨p, 1, none⟩ = some (.int .i64 gs) ∧ w.cell? ⟨p, 2, none⟩ = some (.int .i64 ge) ∧ w.cell? ⟨p, 3, none⟩ = some (.int .i64 bl) ∧
    w.cell? ⟨p, 4, none⟩ = some (.slice a4 l4 c4) ∧ w.cell? ⟨p, 5, none⟩ = some (.slice a5 l5 c5) := by
  unfold Buf at h
  simp [World.cell?, h]
theorem Buf.free (h : Buf w p a len cap gs ge bl a4 l4 c4 a5 l5 c5) (i : Nat) : w.frozen? ⟨p, i, none⟩ = false := by
  unfold Buf at h
  simp [World.frozen?, h]
theorem Buf.keep {w' : World} (h : Buf w p a len cap gs ge bl a4 l4 c4 a5 l5 c5) (hb : Below w.heap.size w w') : Buf w' p a len cap gs ge bl a4 l4 c4 a5 l5 c5 := by
  have := hb.block p h.lt
  unfold Buf at h ⊢
  rw [this, h]
end

set_option maxHeartbeats 400000 in
theorem makeC (a : Option Addr) (len cap : Nat) (gs ge bl : Int) (a4 : Option Addr) (l4 c4 : Nat) (a5 : Option Addr) (l5 c5 : Nat) (w : World) :
    Calls Try.prog 14 #[.slice a len cap, .int .i64 gs, .int .i64 ge, .int .i64 bl, .slice a4 l4 c4, .slice a5 l5 c5] w fun e w' =>
      e = .returned (.pointer (some ⟨w.heap.size, 0, none⟩)) ∧ Buf w' w.heap.size a len cap gs ge bl a4 l4 c4 a5 l5 c5 ∧ Below w.heap.size w w' ∧ w'.heap.size = w.heap.size + 1 := by
  go_enter Try.func14, Try.ntmps14
  go_wp2
  go_ret
  refine ⟨rfl, ?_, (Below.refl _ _).alloc (Nat.le_refl _) _, by simp⟩
  exact heap_alloc_new w _

set_option maxHeartbeats 400000 in
theorem lenC (p : Nat) (a : Option Addr) (len cap : Nat) (gs ge : Nat) (bl : Int) (a4 : Option Addr) (l4 c4 : Nat) (a5 : Option Addr) (l5 c5 : Nat) (w : World) (h : Buf w p a len cap gs ge bl a4 l4 c4 a5 l5 c5) (h1 : gs ≤ ge) (h2 : ge ≤ len) (h3 : len ≤ 9000000) :
    Calls Try.prog 29 #[.pointer (some ⟨p, 0, none⟩)] w fun e w' => e = .returned (.int .i64 ((len : Int) - ((ge : Int) - gs))) ∧ ∃ n, w' = w.drewN n := by
  obtain ⟨c0, c1, c2, -, -, -⟩ := h.cells
  clear h
  go_enter Try.func29, Try.ntmps29
  go_wp2
  go_quiet (fail)
  go_wp2
  go_ret
  exact ⟨rfl, _, rfl⟩

set_option maxHeartbeats 400000 in
theorem fieldsC (p : Nat) (a : Option Addr) (len cap : Nat) (gs ge bl : Int) (a4 : Option Addr) (l4 c4 : Nat) (a5 : Option Addr) (l5 c5 : Nat) (w : World) (h : Buf w p a len cap gs ge bl a4 l4 c4 a5 l5 c5) :
    Calls Try.prog 16 #[.pointer (some ⟨p, 0, none⟩)] w fun e w' => e = .returned (.tuple #[.slice a len cap, .int .i64 gs, .int .i64 ge, .int .i64 bl, .slice a4 l4 c4, .slice a5 l5 c5]) ∧ ∃ n, w' = w.drewN n := by
  obtain ⟨c0, c1, c2, c3', c4', c5'⟩ := h.cells
  clear h
  go_enter Try.func16, Try.ntmps16
  go_wp2
  go_quiet (fail)
  go_wp2
  exact bodyPost_ret (v := .tuple #[.slice a len cap, .int .i64 gs, .int .i64 ge, .int .i64 bl, .slice a4 l4 c4, .slice a5 l5 c5]) (by simp [results, Try.results16, go_sem]) rfl ⟨rfl, _, rfl⟩
end Go.Proofs.Qxb6602056a
