import Derived.Test.Qxb6602086aB
namespace Go.Proofs.Qxb6602086a
open Go.RowKit

theorem Try.info25 : (Try.prog.info? 25).map (fun i => (i.zero, i.size, i.bytes)) = some (some (.slice none 0 0), 1, 24) := by kernel_rfl

theorem cell1 (w : World) (x : Value) (t : TypeId) : ∀ j u, [x][j]? = some u → (w.alloc (.cells #[x] t)).cell? ((⟨w.heap.size, 0, none⟩ : Addr).add j) = some u := by
  intro j u hj
  match j, hj with
  | 0, hj => simp at hj; subst hj; simp [Addr.add]
  | j + 1, hj => simp at hj

section
variable (a b : Option Addr) (la lb ca cb : Nat) (A1 A2 : Nat → Option Addr) (L1 L2 C1 C2 : Nat → Nat) (w : World)

set_option maxRecDepth 100000 in
set_option maxHeartbeats 400000 in
theorem payEarly (h1 : Bs w a la A1 L1 C1) (h2 : Bs w b lb A2 L2 C2) (m1 : la ≤ maxLen) (m2 : lb ≤ maxLen) (h : ¬ (zzP la (sumL L1 la) lb (sumL L2 lb) = true ∧ la ≤ 65536 ∧ lb ≤ 65536)) :
    Calls Try.prog 3 #[.slice a la ca, .slice b lb cb] w fun e w' => e = .returned (.bool true) ∧ Below w.heap.size w w' := by
  by_cases g : zzP la (sumL L1 la) lb (sumL L2 lb) = true
  · by_cases g1 : (65536 : Int) < la
    · clear h
      go_enter Try.func3, Try.ntmps3
      go_wp2_with (go_at_call 7; refine (zz7 _ _ _ _ _ _ _ _ _ _ _ _ _ h1 h2 m1 m2).mono ?_; rintro e w' ⟨rfl, rfl⟩)
      go_ret
      exact ⟨rfl, Below.refl _ _⟩
    · have g2 : (65536 : Int) < lb := by
        by_cases g2 : (65536 : Int) < lb
        · exact g2
        · exact absurd ⟨g, by omega, by omega⟩ h
      clear h
      go_enter Try.func3, Try.ntmps3
      go_wp2_with (go_at_call 7; refine (zz7 _ _ _ _ _ _ _ _ _ _ _ _ _ h1 h2 m1 m2).mono ?_; rintro e w' ⟨rfl, rfl⟩)
      go_ret
      exact ⟨rfl, Below.refl _ _⟩
  · have g' : zzP la (sumL L1 la) lb (sumL L2 lb) = false := by simpa using g
    clear h g
    go_enter Try.func3, Try.ntmps3
    go_wp2_with (go_at_call 7; refine (zz7 _ _ _ _ _ _ _ _ _ _ _ _ _ h1 h2 m1 m2).mono ?_; rintro e w' ⟨rfl, rfl⟩)
    go_ret
    exact ⟨rfl, Below.refl _ _⟩

set_option maxRecDepth 100000 in
set_option maxHeartbeats 1000000 in
theorem payEarly2 (h1 : Bs w a la A1 L1 C1) (h2 : Bs w b lb A2 L2 C2) (m1 : la ≤ maxLen) (m2 : lb ≤ maxLen) (g : zzP la (sumL L1 la) lb (sumL L2 lb) = true) (g1 : la ≤ 65536) (g2 : lb ≤ 65536)
    (h : body la (sumL L1 la) < 0 ∨ body lb (sumL L2 lb) < 0 ∨ 1048576 < body la (sumL L1 la) + body lb (sumL L2 lb)) (hx : body la (sumL L1 la) ≤ 1048576) (hy : body lb (sumL L2 lb) ≤ 1048576) :
    Calls Try.prog 3 #[.slice a la ca, .slice b lb cb] w fun e w' => e = .returned (.bool true) ∧ Below w.heap.size w w' := by
  have hc1 := fun w (h : Bs w a la A1 L1 C1) => bodyC a la ca A1 L1 C1 w h m1
  have hc2 := fun w (h : Bs w b lb A2 L2 C2) => bodyC b lb cb A2 L2 C2 w h m2
  generalize body la (sumL L1 la) = x at h hx hc1
  generalize body lb (sumL L2 lb) = y at h hy hc2
  have H1 : Hid (∀ w, _) := hc1
  have H2 : Hid (∀ w, _) := hc2
  clear hc1 hc2
  by_cases e1 : x < 0
  · clear h
    go_enter Try.func3, Try.ntmps3
    go_wp2_with (go_at_call 7; refine (zz7 _ _ _ _ _ _ _ _ _ _ _ _ _ h1 h2 m1 m2).mono ?_; rintro e w' ⟨rfl, rfl⟩)
    refine (H1.out _ h1).mono ?_
    rintro e w' ⟨rfl, rfl⟩
    go_wp2_with fail
    refine (H2.out _ h2).mono ?_
    rintro e w' ⟨rfl, rfl⟩
    go_wp2
    go_ret
    exact ⟨rfl, Below.refl _ _⟩
  · by_cases e2 : y < 0
    all_goals
      go_enter Try.func3, Try.ntmps3
      go_wp2_with (go_at_call 7; refine (zz7 _ _ _ _ _ _ _ _ _ _ _ _ _ h1 h2 m1 m2).mono ?_; rintro e w' ⟨rfl, rfl⟩)
      refine (H1.out _ h1).mono ?_
      rintro e w' ⟨rfl, rfl⟩
      go_wp2_with fail
      refine (H2.out _ h2).mono ?_
      rintro e w' ⟨rfl, rfl⟩
      go_wp2
      go_ret
      exact ⟨rfl, Below.refl _ _⟩

set_option maxRecDepth 100000 in
set_option maxHeartbeats 1000000 in
theorem payMain (h1 : Bs w a la A1 L1 C1) (h2 : Bs w b lb A2 L2 C2) (m1 : la ≤ maxLen) (m2 : lb ≤ maxLen) (g : zzP la (sumL L1 la) lb (sumL L2 lb) = true) (g1 : la ≤ 65536) (g2 : lb ≤ 65536) (x y : Nat)
    (hx : body la (sumL L1 la) = x) (hy : body lb (sumL L2 lb) = y) (hxy : x + y ≤ 1048576) :
    Calls Try.prog 3 #[.slice a la ca, .slice b lb cb] w fun e w' => e = .returned (.bool true) ∧ Below w.heap.size w w' := by
  have hsum : la + sumL L1 la + lb + sumL L2 lb ≤ 1048576 := by simpa [zzP] using g
  have hc1 := bodyC a la ca A1 L1 C1 w h1 m1
  have hc2 := bodyC b lb cb A2 L2 C2 w h2 m2
  rw [hx] at hc1
  rw [hy] at hc2
  clear hx hy
  obtain ⟨i0, hi, hz0, hz1, hz2⟩ := info_parts Try.info25
  have hmake : i0.bytes * (la + lb) ≤ 281474976710656 := by rw [hz2]; omega
  obtain ⟨n, hn⟩ : ∃ n, n = la + lb := ⟨_, rfl⟩
  have n1 : n ≤ la + lb := by omega
  have n2 : la + lb ≤ n := by omega
  rw [← hn] at hmake
  have HN : Hid (n = la + lb) := hn
  have H1 := h1
  have H2 := h2
  have B1m := h1.1
  have B2m := h2.1
  clear hn
  go_enter Try.func3, Try.ntmps3
  go_wp2_with (go_at_call 7; refine (zz7 _ _ _ _ _ _ _ _ _ _ _ _ _ h1 h2 m1 m2).mono ?_; rintro e w' ⟨rfl, rfl⟩)
  refine hc1.mono ?_
  rintro e w' ⟨rfl, rfl⟩
  go_wp2_with fail
  refine hc2.mono ?_
  rintro e w' ⟨rfl, rfl⟩
  clear hc1 hc2
  obtain ⟨-, h1⟩ := h1
  obtain ⟨-, h2⟩ := h2
  go_wp2_with (at_make; refine wpList_make_own _ rfl _ _ 22 rfl w.heap.size 25 i0 (.slice none 0 0) 1 Try.underlying22 hi hz0 hz1 _ _ _ n rfl rfl (by omega) hmake (by unfold maxLen; omega) (Nat.le_refl _) ?_)
  intro w1 hown hgrow
  have hb1 : Below w.heap.size w w1 := (Below.refl _ _).grown hgrow (Nat.le_refl _) (by intro k hk; cases hk)
  clear hgrow hmake
  go_wp2
  go_loopw [7, 8] (fun t i wr => ∃ k : Nat, k ≤ la ∧ i = .int .i64 (k : Int) ∧ t = .slice (some ⟨w.heap.size, 0, none⟩) k n ∧ wr.ownsRow w.heap.size 25 1 (.slice (some ⟨w.heap.size, 0, none⟩) k n) k (cel (cat la A1 A2) (cat la L1 L2) (cat la C1 C2) k) ∧ Below w.heap.size w wr) (fun _ i _ => la - (intOf i).toNat)
  case atStart => exact ⟨0, Nat.zero_le _, rfl, rfl, by simpa [cel] using hown, hb1⟩
  case round =>
    clear hown hb1
    obtain ⟨k, hk, rfl, rfl, hown, hb⟩ := hrel
    by_cases hlt : k < la
    · obtain ⟨b0, off, rfl, hbl, hc⟩ := h1.resolve_left (by omega)
      have hcx := (hb.cell (p := ⟨b0, off + k, none⟩) (by exact hbl)).trans (hc k hlt)
      have hcel : cel (cat la A1 A2) (cat la L1 L2) (cat la C1 C2) (k + 1) = cel (cat la A1 A2) (cat la L1 L2) (cat la C1 C2) k ++ [.slice (A1 k) (L1 k) (C1 k)] := by
        simp only [cel]; rw [cat_lo hlt, cat_lo hlt, cat_lo hlt]
      have HS : Hid (_ = _) := hcel
      clear hc h1 hcel
      go_wp2_with (at_builtin; refine wpList_append_fits _ rfl (.tmp 52) (.tmp 57) 22 rfl w.heap.size 25 i0 1 Try.underlying22 hi hz1 w.heap.size k n _ rfl (hown.alloc _) ⟨wr.heap.size, 0, none⟩ 1 1 [.slice (A1 k) (L1 k) (C1 k)] rfl rfl (cell1 _ _ _) (by simp [Value.oneCell']) (by omega) ?_)
      intro w2 hown2 hgrow
      rw [← HS.out] at hown2
      have hb2 : Below w.heap.size w w2 := (hb.alloc hb.size _).grown hgrow (by have := hb.size; simp; omega) (by intro j hj; cases hj; exact Nat.le_refl _)
      clear hgrow HS hown hcx hb
      go_wp2
      go_roundw
      case rel => exact ⟨k + 1, by omega, by go_num, rfl, hown2, hb2⟩
      case measure => simp [intOf]; omega
    · obtain rfl : k = la := by omega
      go_wp2
      go_loopw [7, 9] (fun t i wr => ∃ j : Nat, j ≤ lb ∧ i = .int .i64 (j : Int) ∧ t = .slice (some ⟨w.heap.size, 0, none⟩) (k + j) n ∧ wr.ownsRow w.heap.size 25 1 (.slice (some ⟨w.heap.size, 0, none⟩) (k + j) n) (k + j) (cel (cat k A1 A2) (cat k L1 L2) (cat k C1 C2) (k + j)) ∧ Below w.heap.size w wr) (fun _ i _ => lb - (intOf i).toNat)
      case atStart => exact ⟨0, Nat.zero_le _, rfl, rfl, hown, hb⟩
      case round =>
        clear hown hb
        obtain ⟨j, hj, rfl, rfl, hown, hb⟩ := hrel
        by_cases hlt2 : j < lb
        · obtain ⟨b0, off, rfl, hbl, hc⟩ := h2.resolve_left (by omega)
          have hcx := (hb.cell (p := ⟨b0, off + j, none⟩) (by exact hbl)).trans (hc j hlt2)
          have hcel : cel (cat k A1 A2) (cat k L1 L2) (cat k C1 C2) (k + j + 1) = cel (cat k A1 A2) (cat k L1 L2) (cat k C1 C2) (k + j) ++ [.slice (A2 j) (L2 j) (C2 j)] := by
            simp only [cel]; rw [cat_hi, cat_hi, cat_hi]
          have HS : Hid (_ = _) := hcel
          clear hc h2 hcel
          go_wp2_with (at_builtin; refine wpList_append_fits _ rfl (.tmp 65) (.tmp 70) 22 rfl w.heap.size 25 i0 1 Try.underlying22 hi hz1 w.heap.size (k + j) n _ rfl (hown.alloc _) ⟨wr.heap.size, 0, none⟩ 1 1 [.slice (A2 j) (L2 j) (C2 j)] rfl rfl (cell1 _ _ _) (by simp [Value.oneCell']) (by omega) ?_)
          intro w2 hown2 hgrow
          rw [← HS.out] at hown2
          have hb2 : Below w.heap.size w w2 := (hb.alloc hb.size _).grown hgrow (by have := hb.size; simp; omega) (by intro j hj; cases hj; exact Nat.le_refl _)
          clear hgrow HS hown hcx hb
          go_wp2
          go_roundw
          case rel => exact ⟨j + 1, by omega, by go_num, rfl, hown2, hb2⟩
          case measure => simp [intOf]; omega
        · obtain rfl : j = lb := by omega
          have HC : Bs wr (some ⟨w.heap.size, 0, none⟩) (k + j) (cat k A1 A2) (cat k L1 L2) (cat k C1 C2) := Bs_of_own hown (by
            intro r hr
            by_cases h : r < k
            · rw [cat_lo h]; exact B1m r h
            · obtain ⟨r', rfl⟩ : ∃ r', r = k + r' := ⟨r - k, by omega⟩
              rw [cat_hi]; exact B2m r' (by omega))
          have hs := sum_hi (f := L1) (g := L2) (la := k) j
          have P3 := zzpayC _ (k + j) n _ _ _ wr HC (by omega) (by rw [hs]; omega)
          rw [hs] at P3
          clear hs hown
          go_wp2_with fail
          refine (zzpayC _ _ _ _ _ _ _ (H1.keep hb) (by omega) (by omega)).mono ?_
          rintro e w' ⟨rfl, rfl⟩
          go_wp2_with fail
          refine (zzpayC _ _ _ _ _ _ _ (H2.keep hb) (by omega) (by omega)).mono ?_
          rintro e w' ⟨rfl, rfl⟩
          go_wp2_with fail
          refine P3.mono ?_
          rintro e w' ⟨rfl, rfl⟩
          go_wp2
          go_ret
          exact ⟨retB (by simp; omega), hb⟩
end
end Go.Proofs.Qxb6602086a
