import Derived.Test.Qxb6602070aR
import Derived.Lib.AppendStr
import Derived.Laws.BytesArg
namespace Go.Proofs.Qxb6602070a
open Go.RowKit

/-- A slice of bytes of the call's own. -/
def Ob (B : Nat) (a : Option Addr) (n c : Nat) (l : List UInt8) (w : World) : Prop := w.ownsRow B 5 1 (.slice a n c) n (Lib.byteCells l)

theorem Ob.len {B : Nat} {a : Option Addr} {n c : Nat} {l : List UInt8} {w : World} (h : Ob B a n c l w) : l.length = n := by
  have := h.1; rw [Lib.byteCells_length] at this; omega

theorem form5 {w : World} {base : Nat} {e : TypeId} {v : Value} {n : Nat} {xs : List Value} (h : w.ownsRow base e 1 v n xs) : ∃ a c, v = .slice a n c := by
  rcases h.2 with ⟨h0, h1⟩ | ⟨g', cap', cur, hv, hg, hh, hn, hcap, hsz, htake⟩
  · exact ⟨none, 0, by rw [h0, h1]⟩
  · exact ⟨_, _, hv⟩

/-- 's = append(s, u)', one byte. -/
theorem app1 {ops : Array Oper} {rest : List Oper} {o : Oper} {act : Act} {Q : Exit → Act → World → Prop} {w0 : World} (hgd : o.guard = none) (s x : Operand)
    (ho : o.op = .call { callee := .builtin .append, args := #[s, x], argTypes := #[27, 27] }) (B : Nat) (a : Option Addr) (n c : Nat) (l : List UInt8) (hs : act.eval s = .slice a n c) (hown : Ob B a n c l w0)
    (u : UInt8) (z : Int) (hz : z = (u.toNat : Int)) (hx : act.eval x = .slice (some ⟨w0.heap.size, 0, none⟩) 1 1) (hn : n ≤ 9000000) (hB : B ≤ w0.heap.size)
    (h : ∀ a' c' w', Ob B a' (n + 1) c' (l ++ [u]) w' → Below B w0 w' → wpList Try.prog ops Q rest (act.put o.dst (.slice a' (n + 1) c')) w') :
    wpList Try.prog ops Q (o :: rest) act (w0.alloc (.cells #[.int .u8 z] 5)) := by
  obtain ⟨i0, hi, hz0, hz1, hz2⟩ := info_parts Try.info5
  subst hz
  refine wpList_append_own _ hgd s x 27 ho B 5 i0 (.int .u8 0) 1 1 Try.underlying27 hi hz0 hz1 hz2 rfl (by decide) _ n _ hs (World.ownsRow.alloc hown _) ⟨w0.heap.size, 0, none⟩ 1 1 [.int .u8 (u.toNat : Int)] hx rfl ?_ (by intro u hu; simp at hu; subst hu; rfl) (by unfold maxLen; omega) (by omega) (by simp; omega) ?_
  · intro j v hj
    match j, hj with
    | 0, hj => simp at hj; subst hj; simp [Addr.add]
    | j + 1, hj => simp at hj
  · intro v' w1 hown' hgrow _
    obtain ⟨a', c', rfl⟩ := form5 hown'
    refine h a' c' w1 ?_ ?_
    · show w1.ownsRow B 5 1 (.slice a' (n + 1) c') (n + 1) (Lib.byteCells (l ++ [u]))
      have e : Lib.byteCells (l ++ [u]) = Lib.byteCells l ++ [.int .u8 (u.toNat : Int)] := by simp [Lib.byteCells]
      rw [e]; exact hown'
    · exact ((Below.refl B w0).alloc hB _).grown hgrow (by simp; omega) (fun k hk => (hown.lt k hk).1)

/-- 's = append(s, t...)', t a string. -/
theorem appS {ops : Array Oper} {rest : List Oper} {o : Oper} {act : Act} {Q : Exit → Act → World → Prop} {w0 : World} (hgd : o.guard = none) (s x : Operand)
    (ho : o.op = .call { callee := .builtin .append, args := #[s, x], argTypes := #[27, 9] }) (B : Nat) (a : Option Addr) (n c : Nat) (l : List UInt8) (hs : act.eval s = .slice a n c) (hown : Ob B a n c l w0)
    (t : ByteArray) (hx : act.eval x = .string t) (hn : n ≤ 9000000) (ht : t.size ≤ 9000000) (hB : B ≤ w0.heap.size)
    (h : ∀ a' c' w', Ob B a' (n + t.size) c' (l ++ t.data.toList) w' → Below B w0 w' → wpList Try.prog ops Q rest (act.put o.dst (.slice a' (n + t.size) c')) w') :
    wpList Try.prog ops Q (o :: rest) act w0 := by
  obtain ⟨i0, hi, hz0, hz1, hz2⟩ := info_parts Try.info5
  refine Lib.wpList_append_own_string _ hgd s x 27 9 ho B 5 i0 Try.underlying27 Try.underlying9 hi hz0 hz1 hz2 _ n _ hs hown t hx (by unfold maxLen; omega) (by omega) hB ?_
  intro v' w1 hown' hgrow _
  obtain ⟨a', c', rfl⟩ := form5 hown'
  refine h a' c' w1 ?_ ?_
  · show w1.ownsRow B 5 1 (.slice a' (n + t.size) c') (n + t.size) (Lib.byteCells (l ++ t.data.toList))
    have e : Lib.byteCells (l ++ t.data.toList) = Lib.byteCells l ++ Lib.strCells t := by simp [Lib.byteCells, Lib.strCells]
    rw [e]; exact hown'
  · exact (Below.refl B w0).grown hgrow hB (fun k hk => (hown.lt k hk).1)

/-- 'string(s)'. -/
theorem strOf {B : Nat} {a : Option Addr} {n c : Nat} {l : List UInt8} {w : World} (h : Ob B a n c l w) : (convert 27 9 (.slice a n c)).run Try.prog w = .ok (.string ⟨l.toArray⟩) w := by
  have hl := h.len
  rcases h.2 with ⟨h0, h1⟩ | ⟨g', cap', cur, hv, hg, hh, hn, hcap, hsz, htake⟩
  · cases h0
    obtain rfl := List.eq_nil_of_length_eq_zero hl
    rw [run_convert_bytes_nil w 27 5 Try.underlying27 Try.underlying5 0 0 9 Try.underlying9]
    rfl
  · cases hv
    rw [run_convert_bytes_arg w 27 5 Try.underlying27 Try.underlying5 g' 0 n c (l.map fun b => (b.toNat : Int)) (by simpa using hl) ?_ 9 Try.underlying9]
    · congr 2
      unfold strOfNums
      congr 1
      have e : ((fun n : Int => UInt8.ofNat n.toNat) ∘ fun b : UInt8 => (b.toNat : Int)) = id := by funext b; simp
      rw [List.map_map, e, List.map_id]
    · intro i hi
      have := World.ownsRow.cells h (g := g') rfl i (.int .u8 ((l.map fun b => (b.toNat : Int)).getD i 0)) (by simp [Lib.byteCells, List.getD, show i < l.length by omega])
      rwa [Addr.add_lit] at this

def zz3 (a b c : Nat) : Bool := decide (a + b + c ≤ 1048576)
set_option maxHeartbeats 400000 in
theorem zz10 (a b c : ByteArray) (q : Int) (e : Bool) (w : World) (ha : a.size ≤ maxLen) (hb : b.size ≤ maxLen) (hc : c.size ≤ maxLen) : Calls Try.prog 10 #[.string a, .string b, .string c, .int .u8 q, .bool e] w fun e w' => e = .returned (.bool (zz3 a.size b.size c.size)) ∧ w = w' := by
  unfold maxLen at ha hb hc
  by_cases g0 : (1048576 : Int) < a.size
  · go_enter Try.func10, Try.ntmps10
    go_wp2
    go_ret
    exact ⟨retB (by unfold zz3; rw [Bool.eq_iff_iff]; simp; omega), rfl⟩
  by_cases g4 : (1048576 : Int) < a.size + b.size
  · by_cases g4' : (1048576 : Int) < b.size
    all_goals
      go_enter Try.func10, Try.ntmps10
      go_wp2
      go_ret
      exact ⟨retB (by unfold zz3; rw [Bool.eq_iff_iff]; simp; omega), rfl⟩
  by_cases g5 : (1048576 : Int) < a.size + b.size + c.size
  · by_cases g5' : (1048576 : Int) < c.size
    all_goals
      go_enter Try.func10, Try.ntmps10
      go_wp2
      go_ret
      exact ⟨retB (by unfold zz3; rw [Bool.eq_iff_iff]; simp; omega), rfl⟩
  go_enter Try.func10, Try.ntmps10
  go_wp2
  go_ret
  exact ⟨retB (by unfold zz3; rw [Bool.eq_iff_iff]; simp; omega), rfl⟩
end Go.Proofs.Qxb6602070a
