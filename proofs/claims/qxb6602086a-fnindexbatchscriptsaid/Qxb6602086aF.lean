import Derived.Test.Qxb6602086aE
namespace Go.Proofs.Qxb6602086a
open Go.RowKit

def zzKB (l0 l1 : Nat) : Bool := decide (l0 + l1 ≤ 1048576)

set_option maxHeartbeats 400000 in
theorem zzK (v0 v1 : Option Addr) (l0 c0 l1 c1 : Nat) (o p : Int) (w : World) (h0 : l0 ≤ maxLen) (h1 : l1 ≤ maxLen) :
    Calls Try.prog 15 #[.slice v0 l0 c0, .slice v1 l1 c1, .int .u64 o, .int .i64 p] w fun e w' => e = .returned (.bool (zzKB l0 l1)) ∧ w = w' := by
  unfold maxLen at h0 h1
  by_cases g0 : (1048576 : Int) < l0
  · go_enter Try.func15, Try.ntmps15
    go_wp2
    go_ret
    exact ⟨retB (by unfold zzKB; rw [Bool.eq_iff_iff]; simp; omega), rfl⟩
  by_cases g4 : (1048576 : Int) < l0 + l1
  · by_cases g4' : (1048576 : Int) < l1
    all_goals
      go_enter Try.func15, Try.ntmps15
      go_wp2
      go_ret
      exact ⟨retB (by unfold zzKB; rw [Bool.eq_iff_iff]; simp; omega), rfl⟩
  go_enter Try.func15, Try.ntmps15
  go_wp2
  go_ret
  exact ⟨retB (by unfold zzKB; rw [Bool.eq_iff_iff]; simp; omega), rfl⟩

set_option maxHeartbeats 400000 in
theorem zzS (v0 v1 : Option Addr) (l0 c0 l1 c1 : Nat) (w : World) (h0 : l0 ≤ maxLen) (h1 : l1 ≤ maxLen) :
    Calls Try.prog 16 #[.slice v0 l0 c0, .slice v1 l1 c1] w fun e w' => e = .returned (.bool (zzKB l0 l1)) ∧ w = w' := by
  unfold maxLen at h0 h1
  by_cases g0 : (1048576 : Int) < l0
  · go_enter Try.func16, Try.ntmps16
    go_wp2
    go_ret
    exact ⟨retB (by unfold zzKB; rw [Bool.eq_iff_iff]; simp; omega), rfl⟩
  by_cases g4 : (1048576 : Int) < l0 + l1
  · by_cases g4' : (1048576 : Int) < l1
    all_goals
      go_enter Try.func16, Try.ntmps16
      go_wp2
      go_ret
      exact ⟨retB (by unfold zzKB; rw [Bool.eq_iff_iff]; simp; omega), rfl⟩
  go_enter Try.func16, Try.ntmps16
  go_wp2
  go_ret
  exact ⟨retB (by unfold zzKB; rw [Bool.eq_iff_iff]; simp; omega), rfl⟩

theorem neqB {n m : Nat} (h : ¬ n = m) : ((n : Int) == (m : Int)) = false := by simp; omega

set_option maxRecDepth 1000000 in
set_option maxHeartbeats 1000000 in
theorem keepsEarly (a0 a1 : Option Addr) (l0 c0 l1 c1 : Nat) (o p : Int) (w : World) (M0 : l0 ≤ maxLen) (M1 : l1 ≤ maxLen) (h : ¬ (zzKB l0 l1 = true ∧ l0 ≤ 65536 ∧ l1 ≤ 65536 ∧ l0 = l1)) :
    Calls Try.prog 5 #[.slice a0 l0 c0, .slice a1 l1 c1, .int .u64 o, .int .i64 p] w fun e w' => e = .returned (.bool true) ∧ Below w.heap.size w w' := by
  have HZ := zzK a0 a1 l0 c0 l1 c1 o p w M0 M1
  by_cases hb : zzKB l0 l1 = true
  · rw [hb] at HZ
    by_cases h0 : l0 ≤ 65536
    · by_cases h1 : l1 ≤ 65536
      · have hn := neqB (fun e : l0 = l1 => h ⟨hb, h0, h1, e⟩)
        clear h
        go_enter Try.func5, Try.ntmps5
        go_wp2_with (go_at_call 15; refine HZ.mono ?_; rintro e w1 ⟨rfl, rfl⟩)
        go_ret
        exact ⟨rfl, Below.refl _ _⟩
      · clear h
        go_enter Try.func5, Try.ntmps5
        go_wp2_with (go_at_call 15; refine HZ.mono ?_; rintro e w1 ⟨rfl, rfl⟩)
        go_ret
        exact ⟨rfl, Below.refl _ _⟩
    · clear h
      go_enter Try.func5, Try.ntmps5
      go_wp2_with (go_at_call 15; refine HZ.mono ?_; rintro e w1 ⟨rfl, rfl⟩)
      go_ret
      exact ⟨rfl, Below.refl _ _⟩
  · have hb' : zzKB l0 l1 = false := by simpa using hb
    rw [hb'] at HZ
    clear h
    go_enter Try.func5, Try.ntmps5
    go_wp2_with (go_at_call 15; refine HZ.mono ?_; rintro e w1 ⟨rfl, rfl⟩)
    go_ret
    exact ⟨rfl, Below.refl _ _⟩

set_option maxRecDepth 1000000 in
set_option maxHeartbeats 1000000 in
theorem scriptEarly (a0 a1 : Option Addr) (l0 c0 l1 c1 : Nat) (w : World) (M0 : l0 ≤ maxLen) (M1 : l1 ≤ maxLen) (h : ¬ (zzKB l0 l1 = true ∧ l0 ≤ 65536 ∧ l1 ≤ 65536 ∧ l0 = l1)) :
    Calls Try.prog 6 #[.slice a0 l0 c0, .slice a1 l1 c1] w fun e w' => e = .returned (.bool true) ∧ Below w.heap.size w w' := by
  have HZ := zzS a0 a1 l0 c0 l1 c1 w M0 M1
  by_cases hb : zzKB l0 l1 = true
  · rw [hb] at HZ
    by_cases h0 : l0 ≤ 65536
    · by_cases h1 : l1 ≤ 65536
      · have hn := neqB (fun e : l0 = l1 => h ⟨hb, h0, h1, e⟩)
        clear h
        go_enter Try.func6, Try.ntmps6
        go_wp2_with (go_at_call 16; refine HZ.mono ?_; rintro e w1 ⟨rfl, rfl⟩)
        go_ret
        exact ⟨rfl, Below.refl _ _⟩
      · clear h
        go_enter Try.func6, Try.ntmps6
        go_wp2_with (go_at_call 16; refine HZ.mono ?_; rintro e w1 ⟨rfl, rfl⟩)
        go_ret
        exact ⟨rfl, Below.refl _ _⟩
    · clear h
      go_enter Try.func6, Try.ntmps6
      go_wp2_with (go_at_call 16; refine HZ.mono ?_; rintro e w1 ⟨rfl, rfl⟩)
      go_ret
      exact ⟨rfl, Below.refl _ _⟩
  · have hb' : zzKB l0 l1 = false := by simpa using hb
    rw [hb'] at HZ
    clear h
    go_enter Try.func6, Try.ntmps6
    go_wp2_with (go_at_call 16; refine HZ.mono ?_; rintro e w1 ⟨rfl, rfl⟩)
    go_ret
    exact ⟨rfl, Below.refl _ _⟩

/-! Rows of the call's own, read as numbers. -/
theorem Try.info29 : (Try.prog.info? 29).map (fun i => (i.zero, i.size, i.bytes)) = some (some (.int .u64 0), 1, 8) := by kernel_rfl
theorem Try.info2 : (Try.prog.info? 2).map (fun i => (i.zero, i.size, i.bytes)) = some (some (.int .i64 0), 1, 8) := by kernel_rfl
theorem Try.sz29 : (Try.prog.info? 29).map (·.size) = some 1 := by kernel_rfl
theorem Try.sz2 : (Try.prog.info? 2).map (·.size) = some 1 := by kernel_rfl

theorem own_block {w : World} {base : Nat} {e : TypeId} {g n cap : Nat} {m : Nat} {xs : List Value} (h : w.ownsRow base e 1 (.slice (some ⟨g, 0, none⟩) n cap) m xs) :
    ∃ cur : List Value, w.heap[g]? = some (.cells cur.toArray e (0, 0)) ∧ cur.length = cap ∧ cur.take n = xs ∧ n ≤ cap ∧ base ≤ g ∧ m = n ∧ cap ≤ maxLen := by
  obtain ⟨h1, h2⟩ := h
  rcases h2 with ⟨h0, _⟩ | ⟨g', cap', cur, hv, hg, hh, hn, hcap, hsz, htake⟩
  · cases h0
  · cases hv
    exact ⟨cur.toList, by simpa using hh, by simpa using hsz, by simpa using htake, hn, hg, rfl, hcap⟩
theorem Rd_cells {k : IntKind} {w : World} {a : Option Addr} {len : Nat} {zs : List Int} (h : Rd k w a len zs) (h0 : 0 < len) : ∃ ad, a = some ad ∧ ∀ j v, (iv k zs)[j]? = some v → w.cell? (ad.add j) = some v := by
  obtain ⟨h1, h2⟩ := h
  obtain ⟨b, off, rfl, hlt, hc⟩ := h2.resolve_left (by omega)
  refine ⟨_, rfl, fun j v hj => ?_⟩
  have hjl : j < len := by have := (List.getElem?_eq_some_iff.1 hj).1; simpa [iv, h1] using this
  rw [Addr.add_lit, hc j hjl]
  rw [← hj]
  simp [iv, List.getD, show j < zs.length by omega]
theorem Rd_row {k : IntKind} {w : World} {g : Nat} {t : TypeId} {n : Nat} {zs : List Int} {cur : List Value} (h : w.heap[g]? = some (.cells (splice cur 0 (iv k zs)).toArray t (0, 0))) (hl : zs.length = n) (hc : cur.length = n) : Rd k w (some ⟨g, 0, none⟩) n zs := by
  have e : splice cur 0 (iv k zs) = iv k zs := by
    simp only [splice, List.take_zero, List.nil_append]
    rw [List.drop_eq_nil_of_le (by rw [iv_len]; omega)]; simp
  rw [e] at h
  refine ⟨hl, .inr ⟨g, 0, rfl, (Array.getElem?_eq_some_iff.1 h).1, fun i hi => ?_⟩⟩
  rw [cell_of_row w g (0 + i) _ t (0, 0) h]
  simp [iv, List.getD, show i < zs.length by omega]

end Go.Proofs.Qxb6602086a
