import Derived.Test.Qxb6602056aA
namespace Go.Proofs.Qxb6602056a
open Go.RowKit

theorem Try.info21 : (Try.prog.info? 21).map (fun i => (i.zero, i.size, i.bytes)) = some (some (.int .i32 0), 1, 4) := by kernel_rfl
theorem Try.info3 : (Try.prog.info? 3).map (fun i => (i.zero, i.size, i.bytes)) = some (some (.int .i64 0), 1, 8) := by kernel_rfl
theorem Try.sz21 : (Try.prog.info? 21).map (·.size) = some 1 := by kernel_rfl
theorem Try.sz3 : (Try.prog.info? 3).map (·.size) = some 1 := by kernel_rfl

/-- A list of numbers as cells. -/
def iv (k : IntKind) (zs : List Int) : List Value := zs.map (Value.int k)
theorem iv_len (k : IntKind) (zs : List Int) : (iv k zs).length = zs.length := by simp [iv]
theorem iv_one (k : IntKind) (zs : List Int) : ∀ u ∈ iv k zs, u.oneCell' = true := ints_oneCell k zs
theorem iv_snoc (k : IntKind) (zs : List Int) (x : Int) : iv k (zs ++ [x]) = iv k zs ++ [.int k x] := by simp [iv]

/-- The block of an owned row. -/
theorem own_block {w : World} {base : Nat} {e : TypeId} {g n cap : Nat} {m : Nat} {xs : List Value} (h : w.ownsRow base e 1 (.slice (some ⟨g, 0, none⟩) n cap) m xs) :
    ∃ cur : List Value, w.heap[g]? = some (.cells cur.toArray e (0, 0)) ∧ cur.length = cap ∧ cur.take n = xs ∧ n ≤ cap ∧ base ≤ g ∧ m = n ∧ cap ≤ maxLen := by
  obtain ⟨h1, h2⟩ := h
  rcases h2 with ⟨h0, _⟩ | ⟨g', cap', cur, hv, hg, hh, hn, hcap, hsz, htake⟩
  · cases h0
  · cases hv
    exact ⟨cur.toList, by simpa using hh, by simpa using hsz, by simpa using htake, hn, hg, rfl, hcap⟩

theorem own_mk {w : World} {base : Nat} {e : TypeId} {g n cap : Nat} {xs cur : List Value} (h : w.heap[g]? = some (.cells cur.toArray e (0, 0))) (hl : cur.length = cap) (ht : cur.take n = xs) (hn : n ≤ cap) (hb : base ≤ g) (hm : cap ≤ maxLen) :
    w.ownsRow base e 1 (.slice (some ⟨g, 0, none⟩) n cap) n xs := by
  refine ⟨?_, .inr ⟨g, cap, cur.toArray, rfl, hb, h, hn, hm, by simpa using hl, by simpa using ht⟩⟩
  rw [← ht, List.length_take]; omega

theorem Rd_cells {k : IntKind} {w : World} {a : Option Addr} {len : Nat} {zs : List Int} (h : Rd k w a len zs) (h0 : 0 < len) : ∃ ad, a = some ad ∧ ∀ j v, (iv k zs)[j]? = some v → w.cell? (ad.add j) = some v := by
  obtain ⟨h1, h2⟩ := h
  obtain ⟨b, off, rfl, hlt, hc⟩ := h2.resolve_left (by omega)
  refine ⟨_, rfl, fun j v hj => ?_⟩
  have hjl : j < len := by have := (List.getElem?_eq_some_iff.1 hj).1; simpa [iv, h1] using this
  rw [Addr.add_lit, hc j hjl]
  rw [← hj]
  simp [iv, List.getD, show j < zs.length by omega]

set_option maxHeartbeats 400000 in
theorem cloneR (a : Option Addr) (len cap : Nat) (zs : List Int) (w : World) (h : Rd .i32 w a len zs) (hn : a = none → len = 0) (hm : len ≤ 1048576) :
    Calls Try.prog 11 #[.slice a len cap] w fun e w' => ∃ a' cap', e = .returned (.slice a' len cap') ∧ w'.ownsRow w.heap.size 21 1 (.slice a' len cap') len (iv .i32 zs) ∧ Below w.heap.size w w' := by
  have q22 : ∀ (w : World) (a : Option Addr) (n c n' c' : Nat), (binOp .eql 22 (.slice a n c) (.slice none n' c')).run Try.prog w = .ok (.bool a.isNone) w := fun w a n c n' c' => Lib.run_eql_slice_nil w _ _ a n c n' c' Try.underlying22
  cases a with
  | none =>
    obtain rfl := hn rfl
    obtain rfl := List.eq_nil_of_length_eq_zero h.1
    go_enter Try.func11, Try.ntmps11
    go_wp2
    go_ret
    exact ⟨none, 0, rfl, World.ownsRow_nil _ _ _ _, Below.refl _ _⟩
  | some x =>
    obtain ⟨i0, hi, hz0, hz1, hz2⟩ := info_parts Try.info21
    have H : Hid (Rd .i32 w (some x) len zs) := h
    clear h hn
    go_enter Try.func11, Try.ntmps11
    go_wp2_with (at_make; refine wpList_make_full _ rfl _ _ 22 rfl w.heap.size 21 i0 (.int .i32 0) 1 Try.underlying22 hi hz0 hz1 _ _ _ _ len rfl rfl rfl rfl ?b2 ?b3 ?b4 ?_)
    case b2 => rw [hz2]; omega
    case b3 => unfold maxLen; omega
    case b4 => exact Nat.le_refl _
    · intro w1 hown hgrow
      obtain ⟨cur, hcur, hcl, -, -, -, -, hcm⟩ := own_block hown
      have hb1 : Below w.heap.size w w1 := (Below.refl _ _).grown hgrow (Nat.le_refl _) (by intro k hk; cases hk)
      have HC : Hid (w1.heap[w.heap.size]? = some (.cells cur.toArray 21 (0, 0))) := hcur
      have HL : Hid (cur.length = len) := hcl
      have HP : Hid (0 < (iv .i32 zs).length → (some ⟨w.heap.size, 0, none⟩ : Option Addr) = some ⟨w.heap.size, 0, none⟩ ∧ ∃ ad, some x = some ad ∧ ∀ j v, (iv .i32 zs)[j]? = some v → w1.cell? (ad.add j) = some v) :=
        fun h0 => ⟨rfl, Rd_cells (H.out.keep hb1) (by rw [iv_len, H.out.1] at h0; exact h0)⟩
      clear hown hgrow hcur hcl hz0 hz1 hz2 hi
      go_wp2_with (refine wpList_copy_splice rfl (.tmp 9) (.tmp 10) 22 22 rfl 21 Try.underlying22 Try.sz21 _ _ len len len cap rfl rfl w.heap.size 0 cur 21 HC.out (iv .i32 zs) ?c1 HP.out ?c3 (iv_one _ _) w.heap.size w hb1 (Nat.le_refl _) ?_)
      case c1 => rw [iv_len, H.out.1] <;> exact (Nat.min_self _).symm
      case c3 => have h1 := H.out.1; have h2 := HL.out; rw [iv_len]; omega
      · intro w2 HC2 hb2
        clear hb1
        go_wp2
        go_ret
        refine ⟨some ⟨w.heap.size, 0, none⟩, len, rfl, own_mk HC2.out ?_ ?_ (Nat.le_refl _) (Nat.le_refl _) hcm, hb2⟩
        · rw [length_splice _ _ _ (by rw [iv_len, H.out.1, HL.out]; omega), HL.out]
        · have hl := H.out.1
          have hc := HL.out
          simp only [splice, List.take_zero, List.nil_append]
          rw [List.take_append_of_le_length (by rw [iv_len]; omega), List.take_of_length_le (by rw [iv_len]; omega)]
set_option maxHeartbeats 400000 in
theorem cloneI (a : Option Addr) (len cap : Nat) (zs : List Int) (w : World) (h : Rd .i64 w a len zs) (hn : a = none → len = 0) (hm : len ≤ 1048576) :
    Calls Try.prog 12 #[.slice a len cap] w fun e w' => ∃ a' cap', e = .returned (.slice a' len cap') ∧ w'.ownsRow w.heap.size 3 1 (.slice a' len cap') len (iv .i64 zs) ∧ Below w.heap.size w w' := by
  have q22 : ∀ (w : World) (a : Option Addr) (n c n' c' : Nat), (binOp .eql 23 (.slice a n c) (.slice none n' c')).run Try.prog w = .ok (.bool a.isNone) w := fun w a n c n' c' => Lib.run_eql_slice_nil w _ _ a n c n' c' Try.underlying23
  cases a with
  | none =>
    obtain rfl := hn rfl
    obtain rfl := List.eq_nil_of_length_eq_zero h.1
    go_enter Try.func12, Try.ntmps12
    go_wp2
    go_ret
    exact ⟨none, 0, rfl, World.ownsRow_nil _ _ _ _, Below.refl _ _⟩
  | some x =>
    obtain ⟨i0, hi, hz0, hz1, hz2⟩ := info_parts Try.info3
    have H : Hid (Rd .i64 w (some x) len zs) := h
    clear h hn
    go_enter Try.func12, Try.ntmps12
    go_wp2_with (at_make; refine wpList_make_full _ rfl _ _ 23 rfl w.heap.size 3 i0 (.int .i64 0) 1 Try.underlying23 hi hz0 hz1 _ _ _ _ len rfl rfl rfl rfl ?b2 ?b3 ?b4 ?_)
    case b2 => rw [hz2]; omega
    case b3 => unfold maxLen; omega
    case b4 => exact Nat.le_refl _
    · intro w1 hown hgrow
      obtain ⟨cur, hcur, hcl, -, -, -, -, hcm⟩ := own_block hown
      have hb1 : Below w.heap.size w w1 := (Below.refl _ _).grown hgrow (Nat.le_refl _) (by intro k hk; cases hk)
      have HC : Hid (w1.heap[w.heap.size]? = some (.cells cur.toArray 3 (0, 0))) := hcur
      have HL : Hid (cur.length = len) := hcl
      have HP : Hid (0 < (iv .i64 zs).length → (some ⟨w.heap.size, 0, none⟩ : Option Addr) = some ⟨w.heap.size, 0, none⟩ ∧ ∃ ad, some x = some ad ∧ ∀ j v, (iv .i64 zs)[j]? = some v → w1.cell? (ad.add j) = some v) :=
        fun h0 => ⟨rfl, Rd_cells (H.out.keep hb1) (by rw [iv_len, H.out.1] at h0; exact h0)⟩
      clear hown hgrow hcur hcl hz0 hz1 hz2 hi
      go_wp2_with (refine wpList_copy_splice rfl (.tmp 9) (.tmp 10) 23 23 rfl 3 Try.underlying23 Try.sz3 _ _ len len len cap rfl rfl w.heap.size 0 cur 3 HC.out (iv .i64 zs) ?c1 HP.out ?c3 (iv_one _ _) w.heap.size w hb1 (Nat.le_refl _) ?_)
      case c1 => rw [iv_len, H.out.1] <;> exact (Nat.min_self _).symm
      case c3 => have h1 := H.out.1; have h2 := HL.out; rw [iv_len]; omega
      · intro w2 HC2 hb2
        clear hb1
        go_wp2
        go_ret
        refine ⟨some ⟨w.heap.size, 0, none⟩, len, rfl, own_mk HC2.out ?_ ?_ (Nat.le_refl _) (Nat.le_refl _) hcm, hb2⟩
        · rw [length_splice _ _ _ (by rw [iv_len, H.out.1, HL.out]; omega), HL.out]
        · have hl := H.out.1
          have hc := HL.out
          simp only [splice, List.take_zero, List.nil_append]
          rw [List.take_append_of_le_length (by rw [iv_len]; omega), List.take_of_length_le (by rw [iv_len]; omega)]
end Go.Proofs.Qxb6602056a
