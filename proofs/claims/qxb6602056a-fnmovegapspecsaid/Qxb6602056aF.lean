import Derived.Test.Qxb6602056aE
namespace Go.Proofs.Qxb6602056a
open Go.RowKit

theorem chain {a b c : World} (h : Below a.heap.size a b) (k : Below b.heap.size b c) : Below a.heap.size a c := h.trans (k.mono h.size)

theorem own_none {e : TypeId} {w : World} {base n cap : Nat} {a : Option Addr} {xs : List Value} (h : w.ownsRow base e 1 (.slice a n cap) n xs) : a = none → n = 0 := by
  rintro rfl
  rcases h.2 with ⟨h0, h1⟩ | ⟨g', cap', cur, hv, hg, hh, hn, hcap, hsz, htake⟩
  · exact h1
  · cases hv
theorem own_cap {e : TypeId} {w : World} {base n cap : Nat} {a : Option Addr} {xs : List Value} (h : w.ownsRow base e 1 (.slice a n cap) n xs) : n ≤ cap := by
  rcases h.2 with ⟨h0, h1⟩ | ⟨g', cap', cur, hv, hg, hh, hn, hcap, hsz, htake⟩
  · omega
  · cases hv; exact hn

theorem eqv_self (z : List Int) : eqv z z = true := by simp [eqv]
theorem eqIntsT (a b : Option Addr) (la ca lb cb : Nat) (za : List Int) (w : World) (h1 : Rd .i64 w a la za) (h2 : Rd .i64 w b lb za) (hm : la ≤ 9000000000) :
    Calls Try.prog 18 #[.slice a la ca, .slice b lb cb] w fun e w' => e = .returned (.bool true) ∧ Below w.heap.size w w' := by
  have := eqInts a b la lb ca cb za za w h1 h2 hm
  rwa [eqv_self] at this
theorem eqRunesT (a b : Option Addr) (la ca lb cb : Nat) (za : List Int) (w : World) (h1 : Rd .i32 w a la za) (h2 : Rd .i32 w b lb za) (hm : la ≤ 9000000000) :
    Calls Try.prog 17 #[.slice a la ca, .slice b lb cb] w fun e w' => e = .returned (.bool true) ∧ Below w.heap.size w w' := by
  have := eqRunes a b la lb ca cb za za w h1 h2 hm
  rwa [eqv_self] at this

theorem txt_grown {zs : List Int} {len gs ge g2 : Nat} (hl : zs.length = len) (h1 : gs ≤ ge) (h2 : ge ≤ len) (h3 : gs ≤ g2) : txt (grown zs gs ge g2) gs g2 = txt zs gs ge := by
  have hlen : (zs.take gs).length = gs := by simp; omega
  unfold txt grown
  rw [List.take_append, hlen, List.take_of_length_le (by omega), Nat.sub_self, List.take_zero, List.append_nil, List.drop_append, hlen, List.drop_eq_nil_of_le (by omega), List.drop_append]
  simp [List.drop_eq_nil_of_le]
theorem grown_gap {zs : List Int} {len gs ge g2 i : Nat} (hl : zs.length = len) (h1 : gs ≤ ge) (h2 : ge ≤ len) (h3 : gs ≤ i) (h4 : i < g2) : (grown zs gs ge g2).getD i 0 = 0 := by
  have hlen : (zs.take gs).length = gs := by simp; omega
  unfold grown
  rw [List.getD_eq_getElem?_getD, List.getElem?_append_right (by omega), hlen, List.getElem?_append_left (by simp; omega), List.getElem?_replicate]
  split <;> rfl

theorem toBelow {P : Program} {f : Nat} {args : Array Value} {w : World} {v : Value} (h : Calls P f args w fun e w' => e = .returned v ∧ ∃ n, w' = w.drewN n) : Calls P f args w fun e w' => e = .returned v ∧ Below w.heap.size w w' :=
  h.mono fun e w' ⟨he, n, hw⟩ => ⟨he, by rw [hw]; exact below_n (Below.refl _ _) n⟩

section
variable (a0 : Option Addr) (l0 c0 : Nat) (z0 : List Int) (gs ge bl : Int) (a4 : Option Addr) (l4 c4 : Nat) (z4 : List Int) (a5 : Option Addr) (l5 c5 : Nat) (z5 : List Int) (n : Int) (w : World)

set_option maxRecDepth 1000000 in
set_option maxHeartbeats 400000 in
theorem resEarly (m0 : l0 ≤ maxLen) (m4 : l4 ≤ maxLen) (m5 : l5 ≤ maxLen) (h : ¬ (zzB l0 l4 l5 = true ∧ fitsB l0 l4 l5 = true ∧ n ≤ 65536 ∧ gapB l0 gs ge = true)) :
    Calls Try.prog 6 #[.slice a0 l0 c0, .int .i64 gs, .int .i64 ge, .int .i64 bl, .slice a4 l4 c4, .slice a5 l5 c5, .int .i64 n] w fun e w' => e = .returned (.bool true) ∧ Below w.heap.size w w' := by
  by_cases h1 : zzB l0 l4 l5 = true
  · have e1 : l0 ≤ 1048576 ∧ l4 ≤ 1048576 ∧ l5 ≤ 1048576 := by simp [zzB] at h1; omega
    by_cases h2 : fitsB l0 l4 l5 = true
    · by_cases h3 : n ≤ 65536
      · have h4 : gapB l0 gs ge = false := by
          cases hg : gapB l0 gs ge
          · rfl
          · exact absurd ⟨h1, h2, h3, hg⟩ h
        clear h
        go_enter Try.func6, Try.ntmps6
        go_wp2_with (first | (go_at_call 25; refine (zzR _ _ _ _ _ _ _ _ _ _ _ _ _ _ m0 m4 m5).mono ?_; rintro e w1 ⟨rfl, rfl⟩) | (go_at_call 8; refine (fitsR _ _ _ _ _ _ _ _ _ _ e1.1 e1.2.1 e1.2.2).mono ?_; rintro e w1 ⟨rfl, rfl⟩) | (go_at_call 9; refine (gapR _ _ _ _ _ _).mono ?_; rintro e w1 ⟨rfl, rfl⟩))
        go_ret
        exact ⟨rfl, Below.refl _ _⟩
      · clear h
        go_enter Try.func6, Try.ntmps6
        go_wp2_with (first | (go_at_call 25; refine (zzR _ _ _ _ _ _ _ _ _ _ _ _ _ _ m0 m4 m5).mono ?_; rintro e w1 ⟨rfl, rfl⟩) | (go_at_call 8; refine (fitsR _ _ _ _ _ _ _ _ _ _ e1.1 e1.2.1 e1.2.2).mono ?_; rintro e w1 ⟨rfl, rfl⟩))
        go_ret
        exact ⟨rfl, Below.refl _ _⟩
    · have h2' : fitsB l0 l4 l5 = false := by simpa using h2
      clear h h2
      go_enter Try.func6, Try.ntmps6
      go_wp2_with (first | (go_at_call 25; refine (zzR _ _ _ _ _ _ _ _ _ _ _ _ _ _ m0 m4 m5).mono ?_; rintro e w1 ⟨rfl, rfl⟩) | (go_at_call 8; refine (fitsR _ _ _ _ _ _ _ _ _ _ e1.1 e1.2.1 e1.2.2).mono ?_; rintro e w1 ⟨rfl, rfl⟩))
      go_ret
      exact ⟨rfl, Below.refl _ _⟩
  · have h1' : zzB l0 l4 l5 = false := by simpa using h1
    clear h h1
    go_enter Try.func6, Try.ntmps6
    go_wp2_with (first | (go_at_call 25; refine (zzR _ _ _ _ _ _ _ _ _ _ _ _ _ _ m0 m4 m5).mono ?_; rintro e w1 ⟨rfl, rfl⟩))
    go_ret
    exact ⟨rfl, Below.refl _ _⟩

set_option maxRecDepth 1000000 in
set_option maxHeartbeats 1000000 in
theorem resKeep (g h : Nat) (m0 : l0 ≤ maxLen) (m4 : l4 ≤ maxLen) (m5 : l5 ≤ maxLen) (R0 : Rd .i32 w a0 l0 z0) (R4 : Rd .i64 w a4 l4 z4) (R5 : Rd .i64 w a5 l5 z5) (N0 : a0 = none → l0 = 0) (N4 : a4 = none → l4 = 0) (N5 : a5 = none → l5 = 0)
    (h1 : zzB l0 l4 l5 = true) (h2 : fitsB l0 l4 l5 = true) (h3 : n ≤ 65536) (h4 : gapB l0 g h = true) (h5 : n ≤ (h : Int) - g) :
    Calls Try.prog 6 #[.slice a0 l0 c0, .int .i64 g, .int .i64 h, .int .i64 bl, .slice a4 l4 c4, .slice a5 l5 c5, .int .i64 n] w fun e w' => e = .returned (.bool true) ∧ Below w.heap.size w w' := by
  have e1 : l0 ≤ 1048576 ∧ l4 ≤ 1048576 ∧ l5 ≤ 1048576 := by simp [zzB] at h1; omega
  obtain ⟨e0, e4, e5⟩ := e1
  have hg : g ≤ h ∧ h ≤ l0 := by simp [gapB] at h4; omega
  obtain ⟨hgh, hhl⟩ := hg
  go_enter Try.func6, Try.ntmps6
  go_wp2_with (first | (go_at_call 25; refine (zzR _ _ _ _ _ _ _ _ _ _ _ _ _ _ m0 m4 m5).mono ?_; rintro e w1 ⟨rfl, rfl⟩) | (go_at_call 8; refine (fitsR _ _ _ _ _ _ _ _ _ _ e0 e4 e5).mono ?_; rintro e w1 ⟨rfl, rfl⟩) | (go_at_call 9; refine (gapR _ _ _ _ _ _).mono ?_; rintro e w1 ⟨rfl, rfl⟩))
  refine (cloneR _ _ _ _ _ R0 N0 e0).mono ?_
  rintro e w1 ⟨b0, d0, rfl, O0, B1⟩
  go_wp2_with fail
  refine (cloneI _ _ _ _ _ (R4.keep B1) N4 e4).mono ?_
  rintro e w2 ⟨b4, d4, rfl, O4, B2⟩
  go_wp2_with fail
  refine (cloneI _ _ _ _ _ (R5.keep (chain B1 B2)) N5 e5).mono ?_
  rintro e w3 ⟨b5, d5, rfl, O5, B3⟩
  have B13 := chain B2 B3
  go_wp2_with fail
  refine (cloneR _ _ _ _ _ ((Rd_of_own O0).keep B13) (own_none O0) e0).mono ?_
  rintro e w4 ⟨k0, q0, rfl, K0, B4⟩
  go_wp2_with fail
  refine (cloneI _ _ _ _ _ ((Rd_of_own O4).keep (chain B3 B4)) (own_none O4) e4).mono ?_
  rintro e w5 ⟨k4, q4, rfl, K4, B5⟩
  go_wp2_with fail
  refine (cloneI _ _ _ _ _ ((Rd_of_own O5).keep (chain B4 B5)) (own_none O5) e5).mono ?_
  rintro e w6 ⟨k5, q5, rfl, K5, B6⟩
  have B16 := chain B13 (chain B4 (chain B5 B6))
  go_wp2_with fail
  refine (textR _ _ _ _ _ _ _ ((Rd_of_own O0).keep B16) hgh hhl (by omega)).mono ?_
  rintro e w7 ⟨t7, q7, rfl, T7, B7⟩
  go_wp2_with fail
  refine (makeC _ _ _ _ _ _ _ _ _ _ _ _ _).mono ?_
  rintro e w8 ⟨rfl, U8, B8, Z8⟩
  clear Z8
  go_wp2_with fail
  refine (toBelow (resA' _ _ _ _ _ _ _ _ _ _ _ _ _ _ _ U8 hgh hhl e0 h5)).mono ?_
  rintro e w9 ⟨rfl, B9⟩
  go_wp2_with fail
  refine (toBelow (fieldsC _ _ _ _ _ _ _ _ _ _ _ _ _ _ (U8.keep B9))).mono ?_
  rintro e w10 ⟨rfl, B10⟩
  have B7t := chain B7 (chain B8 (chain B9 B10))
  go_wp2_with fail
  refine (eqIntsT _ _ _ _ _ _ _ _ ((Rd_of_own O4).keep (chain B3 (chain B4 (chain B5 (chain B6 B7t))))) ((Rd_of_own K4).keep (chain B6 B7t)) (by omega)).mono ?_
  rintro e w11 ⟨rfl, B11⟩
  go_wp2_with fail
  refine (eqIntsT _ _ _ _ _ _ _ _ ((Rd_of_own O5).keep (chain B4 (chain B5 (chain B6 (chain B7t B11))))) ((Rd_of_own K5).keep (chain B7t B11)) (by omega)).mono ?_
  rintro e w12 ⟨rfl, B12⟩
  go_wp2_with fail
  refine (eqRunesT _ _ _ _ _ _ _ _ ((Rd_of_own O0).keep (chain B16 (chain B7t (chain B11 B12)))) ((Rd_of_own K0).keep (chain B5 (chain B6 (chain B7t (chain B11 B12))))) (by omega)).mono ?_
  rintro e w13 ⟨rfl, B13'⟩
  go_wp2
  go_ret
  exact ⟨rfl, chain B1 (chain B16 (chain B7t (chain B11 (chain B12 B13'))))⟩

set_option maxRecDepth 1000000 in
set_option maxHeartbeats 1000000 in
theorem resGrow (g h m : Nat) (m0 : l0 ≤ maxLen) (m4 : l4 ≤ maxLen) (m5 : l5 ≤ maxLen) (R0 : Rd .i32 w a0 l0 z0) (R4 : Rd .i64 w a4 l4 z4) (R5 : Rd .i64 w a5 l5 z5) (N0 : a0 = none → l0 = 0) (N4 : a4 = none → l4 = 0) (N5 : a5 = none → l5 = 0)
    (h1 : zzB l0 l4 l5 = true) (h2 : fitsB l0 l4 l5 = true) (h3 : m ≤ 65536) (h4 : gapB l0 g h = true) (h5 : (h : Int) - g < m) :
    Calls Try.prog 6 #[.slice a0 l0 c0, .int .i64 g, .int .i64 h, .int .i64 bl, .slice a4 l4 c4, .slice a5 l5 c5, .int .i64 m] w fun e w' => e = .returned (.bool true) ∧ Below w.heap.size w w' := by
  have e1 : l0 ≤ 1048576 ∧ l4 ≤ 1048576 ∧ l5 ≤ 1048576 := by simp [zzB] at h1; omega
  obtain ⟨e0, e4, e5⟩ := e1
  have L0 := R0.1
  have hg : g ≤ h ∧ h ≤ l0 := by simp [gapB] at h4; omega
  obtain ⟨hgh, hhl⟩ := hg
  obtain ⟨tl, htl⟩ : ∃ tl, l0 - (h - g) = tl := ⟨_, rfl⟩
  have Htl : Hid (l0 - (h - g) = tl) := htl
  have t1 : tl + h ≤ l0 + g := by omega
  have t2 : l0 + g ≤ tl + h := by omega
  clear htl
  obtain ⟨size, hsize⟩ : ∃ size, size = max (2 * l0) (tl + m + (tl + m) / 8 + 64) := ⟨_, rfl⟩
  have s1 : 2 * l0 ≤ size := by omega
  have s2 : tl + m + (tl + m) / 8 + 64 ≤ size := by omega
  have s3 : size ≤ 2 * l0 ∨ size ≤ tl + m + (tl + m) / 8 + 64 := by omega
  have HS : Hid (size = max (2 * l0) (tl + m + (tl + m) / 8 + 64)) := hsize
  clear hsize
  go_enter Try.func6, Try.ntmps6
  go_wp2_with (first | (go_at_call 25; refine (zzR _ _ _ _ _ _ _ _ _ _ _ _ _ _ m0 m4 m5).mono ?_; rintro e w1 ⟨rfl, rfl⟩) | (go_at_call 8; refine (fitsR _ _ _ _ _ _ _ _ _ _ e0 e4 e5).mono ?_; rintro e w1 ⟨rfl, rfl⟩) | (go_at_call 9; refine (gapR _ _ _ _ _ _).mono ?_; rintro e w1 ⟨rfl, rfl⟩))
  refine (cloneR _ _ _ _ _ R0 N0 e0).mono ?_
  rintro e w1 ⟨b0, d0, rfl, O0, B1⟩
  go_wp2_with fail
  refine (cloneI _ _ _ _ _ (R4.keep B1) N4 e4).mono ?_
  rintro e w2 ⟨b4, d4, rfl, O4, B2⟩
  go_wp2_with fail
  refine (cloneI _ _ _ _ _ (R5.keep (chain B1 B2)) N5 e5).mono ?_
  rintro e w3 ⟨b5, d5, rfl, O5, B3⟩
  have B13 := chain B2 B3
  go_wp2_with fail
  refine (cloneR _ _ _ _ _ ((Rd_of_own O0).keep B13) (own_none O0) e0).mono ?_
  rintro e w4 ⟨k0, q0, rfl, K0, B4⟩
  go_wp2_with fail
  refine (cloneI _ _ _ _ _ ((Rd_of_own O4).keep (chain B3 B4)) (own_none O4) e4).mono ?_
  rintro e w5 ⟨k4, q4, rfl, K4, B5⟩
  go_wp2_with fail
  refine (cloneI _ _ _ _ _ ((Rd_of_own O5).keep (chain B4 B5)) (own_none O5) e5).mono ?_
  rintro e w6 ⟨k5, q5, rfl, K5, B6⟩
  have B16 := chain B13 (chain B4 (chain B5 B6))
  go_wp2_with fail
  have hT := textR _ _ d0 _ _ _ _ ((Rd_of_own O0).keep B16) hgh hhl (by omega)
  rw [Htl.out] at hT
  refine hT.mono ?_
  clear hT
  rintro e w7 ⟨t7, q7, rfl, T7, B7⟩
  go_wp2_with fail
  refine (makeC _ _ _ _ _ _ _ _ _ _ _ _ _).mono ?_
  rintro e w8 ⟨rfl, U8, B8, Z8⟩
  clear Z8
  go_wp2_with fail
  refine (resB' _ _ _ _ _ _ _ _ _ _ _ _ _ _ _ _ U8 ((Rd_of_own O0).keep (chain B16 (chain B7 B8))) hgh hhl (own_cap O0) e0 h5 h3 size (tl + m) (by rw [Htl.out]) HS.out).mono ?_
  rintro e w9 ⟨rfl, B9, g2, a2, hg2, hg64, U9, R9⟩
  have f1 : g2 + l0 ≤ size + h := by omega
  have f2 : size + h ≤ g2 + l0 := by omega
  have B79 := B8.trans B9
  have HG : Hid (g2 + (l0 - h) = size) := hg2
  clear B8 B9 U8 HS hg2
  go_wp2_with fail
  refine (toBelow (fieldsC _ _ _ _ _ _ _ _ _ _ _ _ _ _ U9)).mono ?_
  rintro e w10 ⟨rfl, B10⟩
  have B7t := chain B7 (chain B79 B10)
  have R10 := R9.keep B10
  clear U9 R9
  go_wp2_with fail
  refine (eqIntsT _ _ _ _ _ _ _ _ ((Rd_of_own O4).keep (chain B3 (chain B4 (chain B5 (chain B6 B7t))))) ((Rd_of_own K4).keep (chain B6 B7t)) (by omega)).mono ?_
  rintro e w11 ⟨rfl, B11⟩
  go_wp2_with fail
  refine (eqIntsT _ _ _ _ _ _ _ _ ((Rd_of_own O5).keep (chain B4 (chain B5 (chain B6 (chain B7t B11))))) ((Rd_of_own K5).keep (chain B7t B11)) (by omega)).mono ?_
  rintro e w12 ⟨rfl, B12⟩
  have R12 := R10.keep (chain B11 B12)
  have B712 := chain (chain B79 B10) (chain B11 B12)
  have BB := chain B1 (chain B16 (chain B7 B712))
  have T12 := T7.keep B712
  clear R10 O4 K4 O5 K5 O0 K0 T7 B1 B2 B3 B4 B5 B6 B7 B79 B10 B11 B12 B712 B7t B13 B16 R0 R4 R5 N0 N4 N5
  go_upto_region 29 with fail
  go_cut [153] (fun s wx => s = .bool false ∧ wx = w12)
  case first =>
    by_cases hs : (size : Int) = 2 * (l0 : Int)
    · have hb : ((size : Int) != 2 * (l0 : Int)) = false := by simp [hs]
      clear hs
      go_wp2
      go_meet
      exact ⟨by go_num, rfl⟩
    · have hb : ((size : Int) != 2 * (l0 : Int)) = true := by simp [hs]
      have hle : (size : Int) ≤ (tl : Int) + m + ((tl : Int) + m) / 8 + 64 := by omega
      go_wp2
      go_meet
      exact ⟨by go_num, rfl⟩
  case rest =>
    obtain ⟨rfl, rfl⟩ := hcut
    have hgo : gapB size g g2 = true := by simp [gapB]; omega
    go_wp2_with (go_at_call 9; refine (gapR _ _ _ _ _ _).mono ?_; rintro e w13 ⟨rfl, rfl⟩)
    have R13 := R12
    obtain ⟨HL, R12⟩ := R12
    obtain ⟨b2, o2, rfl, hb2, hc2⟩ := R12.resolve_left (by omega)
    have HL' : Hid (z0.length = l0) := L0
    clear R12 L0 HL
    go_loop [30] (fun i => ∃ k : Nat, g ≤ k ∧ k ≤ g2 ∧ i = .int .i64 k) (fun i => g2 - (intOf i).toNat)
    case atStart => exact ⟨g, Nat.le_refl _, by omega, rfl⟩
    case round =>
      obtain ⟨k, hk1, hk2, rfl⟩ := hrel
      by_cases hlt : k < g2
      · have hcx := hc2 k (by omega)
        rw [grown_gap HL'.out hgh hhl hk1 hlt] at hcx
        clear hc2
        go_wp2
        go_round
        case rel => exact ⟨k + 1, by omega, by omega, by go_num⟩
        case measure => simp [intOf]; omega
      · clear hc2
        go_wp2_with fail
        refine (textR _ _ _ _ _ _ _ R13 (by omega) (by omega) (by omega)).mono ?_
        rintro e w14 ⟨t14, q14, rfl, T14, B14⟩
        rw [txt_grown HL'.out hgh hhl (by omega)] at T14
        go_wp2_with fail
        refine (eqRunesT _ _ _ _ _ _ _ _ T14 (T12.keep B14) (by omega)).mono ?_
        rintro e w15 ⟨rfl, B15⟩
        go_wp2
        go_ret
        exact ⟨rfl, chain BB (chain B14 B15)⟩
end
end Go.Proofs.Qxb6602056a
