import Derived.Test.Qxb6602056aM
namespace Go.Proofs.Qxb6602056a
open Go.RowKit

set_option maxHeartbeats 1000000 in
theorem textF (a : Option Addr) (len cap : Nat) (zs : List Int) (gs ge : Nat) (w : World) (h : Rd .i32 w a len zs) (h1 : gs ≤ ge) (h2 : ge ≤ len) (hm : len ≤ 9000000) :
    Calls Try.prog 13 #[.slice a len cap, .int .i64 gs, .int .i64 ge] w fun e w' => ∃ cap', e = .returned (.slice (some ⟨w.heap.size, 0, none⟩) (len - (ge - gs)) cap') ∧ Rd .i32 w' (some ⟨w.heap.size, 0, none⟩) (len - (ge - gs)) (txt zs gs ge) ∧ Below w.heap.size w w' := by
  obtain ⟨i0, hi, hz0, hz1, hz2⟩ := info_parts Try.info21
  obtain ⟨hl, h⟩ := h
  have HL : Hid (zs.length = len) := hl
  clear hl
  obtain ⟨n, hn⟩ : ∃ n, n + (ge - gs) = len := ⟨len - (ge - gs), by omega⟩
  have hmake : i0.bytes * n ≤ 281474976710656 := by rw [hz2]; omega
  go_enter Try.func13, Try.ntmps13
  go_wp2_with (at_make; refine wpList_make_own _ rfl _ _ 22 rfl w.heap.size 21 i0 (.int .i32 0) 1 Try.underlying22 hi hz0 hz1 _ _ _ n rfl rfl (by omega) hmake (by unfold maxLen; omega) (Nat.le_refl _) ?_)
  intro w1 hown hgrow
  have hb1 : Below w.heap.size w w1 := (Below.refl _ _).grown hgrow (Nat.le_refl _) (by intro k hk; cases hk)
  clear hgrow hmake
  go_wp2
  go_loopw [7, 8] (fun t i wr => ∃ k : Nat, k ≤ gs ∧ i = .int .i64 k ∧ t = .slice (some ⟨w.heap.size, 0, none⟩) k n ∧ wr.ownsRow w.heap.size 21 1 (.slice (some ⟨w.heap.size, 0, none⟩) k n) k (iv .i32 (zs.take k)) ∧ Below w.heap.size w wr) (fun _ i _ => gs - (intOf i).toNat)
  case atStart => exact ⟨0, Nat.zero_le _, rfl, rfl, by simpa [iv] using hown, hb1⟩
  case round =>
    clear hown hb1
    obtain ⟨k, hk, rfl, rfl, hown, hb⟩ := hrel
    by_cases hlt : k < gs
    · obtain ⟨b, off, rfl, hbl, hc⟩ := h.resolve_left (by omega)
      have hcx := (hb.cell (p := ⟨b, off + k, none⟩) (by exact hbl)).trans (hc k (by omega))
      obtain ⟨x, hx⟩ : ∃ x, x = zs.getD k 0 := ⟨_, rfl⟩
      rw [← hx] at hcx
      have HS : Hid (iv .i32 (zs.take (k+1)) = iv .i32 (zs.take k) ++ [.int .i32 x]) := by rw [hx]; exact map_take_snoc (by rw [HL.out]; omega)
      clear hx hc h
      go_wp2_with (at_builtin; refine wpList_append_fits _ rfl (.tmp 22) (.tmp 27) 22 rfl w.heap.size 21 i0 1 Try.underlying22 hi hz1 w.heap.size k n (iv .i32 (zs.take k)) rfl (hown.alloc _) ⟨wr.heap.size, 0, none⟩ 1 1 [.int .i32 x] rfl rfl (cell1 _ _ _) (by simp [Value.oneCell']) (by omega) ?_)
      intro w2 hown2 hgrow
      rw [← HS.out] at hown2
      have hb2 : Below w.heap.size w w2 := (hb.alloc hb.size _).grown hgrow (by have := hb.size; simp; omega) (by intro j hj; cases hj; exact Nat.le_refl _)
      clear hgrow HS hown hcx hb
      go_wp2
      go_roundw
      case rel => exact ⟨k + 1, by omega, by go_num, rfl, hown2, hb2⟩
      case measure => simp [intOf]; omega
    · have hkl : k = gs := by omega
      subst hkl
      go_wp2
      go_loopw [7, 9] (fun t i wr => ∃ j : Nat, ge ≤ j ∧ j ≤ len ∧ i = .int .i64 j ∧ t = .slice (some ⟨w.heap.size, 0, none⟩) (k + (j - ge)) n ∧ wr.ownsRow w.heap.size 21 1 (.slice (some ⟨w.heap.size, 0, none⟩) (k + (j - ge)) n) (k + (j - ge)) (iv .i32 (part zs k ge j)) ∧ Below w.heap.size w wr) (fun _ i _ => len - (intOf i).toNat)
      case atStart => exact ⟨ge, Nat.le_refl _, h2, rfl, by simp, by rw [part_start]; simpa using hown, hb⟩
      case round =>
        clear hown hb
        obtain ⟨j, hj1, hj2, rfl, rfl, hown, hb⟩ := hrel
        by_cases hlt : j < len
        · obtain ⟨b, off, rfl, hbl, hc⟩ := h.resolve_left (by omega)
          have hcx := (hb.cell (p := ⟨b, off + j, none⟩) (by exact hbl)).trans (hc j (by omega))
          obtain ⟨x, hx⟩ : ∃ x, x = zs.getD j 0 := ⟨_, rfl⟩
          rw [← hx] at hcx
          have HS : Hid (iv .i32 (part zs k ge (j+1)) = iv .i32 (part zs k ge j) ++ [.int .i32 x]) := by rw [hx]; exact part_snoc (by rw [HL.out]; omega) hj1
          have HK : Hid (k + (j + 1 - ge) = k + (j - ge) + 1) := show _ = _ by omega
          clear hx hc h
          go_wp2_with (at_builtin; refine wpList_append_fits _ rfl (.tmp 36) (.tmp 41) 22 rfl w.heap.size 21 i0 1 Try.underlying22 hi hz1 w.heap.size (k + (j - ge)) n (iv .i32 (part zs k ge j)) rfl (hown.alloc _) ⟨wr.heap.size, 0, none⟩ 1 1 [.int .i32 x] rfl rfl (cell1 _ _ _) (by simp [Value.oneCell']) (by omega) ?_)
          intro w2 hown2 hgrow
          rw [← HS.out, ← HK.out] at hown2
          have hb2 : Below w.heap.size w w2 := (hb.alloc hb.size _).grown hgrow (by have := hb.size; simp; omega) (by intro j hj; cases hj; exact Nat.le_refl _)
          clear hgrow HS hown hcx hb
          go_wp2
          go_roundw
          case rel => exact ⟨j + 1, by omega, by omega, by go_num, by rw [HK.out], hown2, hb2⟩
          case measure => simp [intOf]; omega
        · have hjl : j = len := by omega
          subst hjl
          go_wp2
          go_ret
          have e : k + (j - ge) = j - (ge - k) := by omega
          rw [e, part_end HL.out] at hown
          exact ⟨n, by rw [← e]; rfl, Rd_of_own hown, hb⟩

theorem moveTop (p l0 d0 g h L W pos : Nat) (bl : Int) (b0 b4 b5 : Option Addr) (l4 d4 l5 d5 : Nat) (z0 t : List Int) (w1 w2 w3 w4 w6 : World)
    (O0 : w2.ownsRow w1.heap.size 21 1 (.slice b0 l0 d0) l0 (iv .i32 z0)) (O4 : w3.ownsRow w2.heap.size 3 1 (.slice b4 l4 d4) l4 (iv .i64 (nlB t g))) (O5 : w4.ownsRow w3.heap.size 3 1 (.slice b5 l5 d5) l5 (iv .i64 (nlA t (L - g))))
    (B2 : Below w1.heap.size w1 w2) (B3 : Below w2.heap.size w2 w3) (B4 : Below w3.heap.size w3 w4) (B6 : Below w4.heap.size w4 w6) (U6 : Buf w6 p b0 l0 d0 g h bl b4 l4 d4 b5 l5 d5)
    (hgh : g ≤ h) (hhl : h ≤ l0) (e0 : l0 ≤ 1048576) (hz : z0.length = l0) (ht : txt z0 g h = t) (hL : l0 - (h - g) = L) (hW : g + W = h) (hpos : pos ≤ L) (h4 : l4 ≤ 1048576) (h5 : l5 ≤ 1048576) :
    Calls Try.prog 15 #[.pointer (some ⟨p, 0, none⟩), .int .i64 pos] w6 fun e w' => e = .returned (.tuple #[]) ∧ Kp (Ws p w1.heap.size w4.heap.size) w6 w' ∧ Moved p bl t l0 W L pos w' := by
  refine wrap15 p pos w6 (fun e w' h => h.1) ?_
  have s2 := B2.size
  have s3 := B3.size
  have s4 := B4.size
  have s6 := B6.size
  have O0' := own_below O0 (chain B3 (chain B4 B6))
  have O4' := own_base (own_below O4 (chain B4 B6)) (show w1.heap.size ≤ w2.heap.size by omega)
  have O5' := own_base (own_below O5 B6) (show w1.heap.size ≤ w3.heap.size by omega)
  by_cases hl : l0 = 0
  · obtain rfl : g = pos := by omega
    refine (moveE p _ l0 d0 g h bl b4 l4 d4 b5 l5 d5 w6 U6).mono ?_
    rintro e w' ⟨rfl, rfl⟩
    exact ⟨rfl, Kp.refl _ _, ⟨_, d0, h, l4, d4, l5, d5, b4, b5, z0, U6, Rd_of_own O0', hW, hhl, ht, Rd_of_own O4', Rd_of_own O5', h4, h5⟩⟩
  · obtain ⟨g0, rfl⟩ : ∃ g0, b0 = some ⟨g0, 0, none⟩ := by
      rcases O0.2 with ⟨h0, h1⟩ | ⟨g', cap', cur, hv, _⟩
      · exact absurd h1 hl
      · cases hv; exact ⟨g', rfl⟩
    obtain ⟨cur, hrun, hcl, hct, hlc, -, -, hcm⟩ := own_block O0'
    have hb := O0.lt g0 rfl
    refine moveAny p g0 l0 d0 g h pos bl b4 l4 d4 b5 l5 d5 z0 t cur w6 w1.heap.size w4.heap.size L W (st_mk U6 hrun O4' O5' w3.heap.size (fun y hy => own_blk O4 y hy) (fun y hy => own_ge O5 y hy)) hgh hhl hlc e0 hcm hcl hct hz ht (by omega) hW hpos (by omega) hb.1 (by omega) (fun y hy => by have := own_blk O4 y hy; omega) (fun y hy => own_blk O5 y hy)

theorem kp_below {W0 w w' : World} {p B0 B2 : Nat} (h : Kp (Ws p B0 B2) w w') (hb : Below W0.heap.size W0 w) (h1 : W0.heap.size ≤ B0) (hp : W0.heap.size ≤ p) : Below W0.heap.size W0 w' :=
  hb.trans ⟨h.os, h.tape, h.output, h.size, fun k hk => h.block k (by have := hb.size; omega) (by rintro (h | h) <;> omega)⟩

section
variable (a0 : Option Addr) (l0 c0 : Nat) (z0 : List Int) (bl : Int) (a4 : Option Addr) (l4 c4 : Nat) (z4 : List Int) (a5 : Option Addr) (l5 c5 : Nat) (z5 : List Int) (w : World)

set_option maxRecDepth 1000000 in
set_option maxHeartbeats 400000 in
theorem mgEarly (gs ge pos : Int) (m0 : l0 ≤ maxLen) (m4 : l4 ≤ maxLen) (m5 : l5 ≤ maxLen) (h : ¬ (zzB l0 l4 l5 = true ∧ fitsB l0 l4 l5 = true ∧ gapB l0 gs ge = true)) :
    Calls Try.prog 3 #[.slice a0 l0 c0, .int .i64 gs, .int .i64 ge, .int .i64 bl, .slice a4 l4 c4, .slice a5 l5 c5, .int .i64 pos] w fun e w' => e = .returned (.bool true) ∧ Below w.heap.size w w' := by
  by_cases h1 : zzB l0 l4 l5 = true
  · have e1 : l0 ≤ 1048576 ∧ l4 ≤ 1048576 ∧ l5 ≤ 1048576 := by simp [zzB] at h1; omega
    by_cases h2 : fitsB l0 l4 l5 = true
    · have h4 : gapB l0 gs ge = false := by
        cases hg : gapB l0 gs ge
        · rfl
        · exact absurd ⟨h1, h2, hg⟩ h
      clear h
      go_enter Try.func3, Try.ntmps3
      go_wp2_with (first | (go_at_call 7; refine (zzM _ _ _ _ _ _ _ _ _ _ _ _ _ _ m0 m4 m5).mono ?_; rintro e w1 ⟨rfl, rfl⟩) | (go_at_call 8; refine (fitsR _ _ _ _ _ _ _ _ _ _ e1.1 e1.2.1 e1.2.2).mono ?_; rintro e w1 ⟨rfl, rfl⟩) | (go_at_call 9; refine (gapR _ _ _ _ _ _).mono ?_; rintro e w1 ⟨rfl, rfl⟩))
      go_ret
      exact ⟨rfl, Below.refl _ _⟩
    · have h2' : fitsB l0 l4 l5 = false := by simpa using h2
      clear h h2
      go_enter Try.func3, Try.ntmps3
      go_wp2_with (first | (go_at_call 7; refine (zzM _ _ _ _ _ _ _ _ _ _ _ _ _ _ m0 m4 m5).mono ?_; rintro e w1 ⟨rfl, rfl⟩) | (go_at_call 8; refine (fitsR _ _ _ _ _ _ _ _ _ _ e1.1 e1.2.1 e1.2.2).mono ?_; rintro e w1 ⟨rfl, rfl⟩))
      go_ret
      exact ⟨rfl, Below.refl _ _⟩
  · have h1' : zzB l0 l4 l5 = false := by simpa using h1
    clear h h1
    go_enter Try.func3, Try.ntmps3
    go_wp2_with (first | (go_at_call 7; refine (zzM _ _ _ _ _ _ _ _ _ _ _ _ _ _ m0 m4 m5).mono ?_; rintro e w1 ⟨rfl, rfl⟩))
    go_ret
    exact ⟨rfl, Below.refl _ _⟩

set_option maxRecDepth 1000000 in
set_option maxHeartbeats 1000000 in
theorem mgEarly2 (g h L : Nat) (pos : Int) (m0 : l0 ≤ maxLen) (m4 : l4 ≤ maxLen) (m5 : l5 ≤ maxLen) (R0 : Rd .i32 w a0 l0 z0) (R4 : Rd .i64 w a4 l4 z4) (R5 : Rd .i64 w a5 l5 z5)
    (h1 : zzB l0 l4 l5 = true) (h2 : fitsB l0 l4 l5 = true) (h4 : gapB l0 g h = true) (hL : l0 - (h - g) = L) (hx : linesB z0 g h L z4 z5 = false ∨ pos < 0 ∨ (l0 : Int) - ((h : Int) - g) < pos) :
    Calls Try.prog 3 #[.slice a0 l0 c0, .int .i64 g, .int .i64 h, .int .i64 bl, .slice a4 l4 c4, .slice a5 l5 c5, .int .i64 pos] w fun e w' => e = .returned (.bool true) ∧ Below w.heap.size w w' := by
  have e1 : l0 ≤ 1048576 ∧ l4 ≤ 1048576 ∧ l5 ≤ 1048576 := by simp [zzB] at h1; omega
  obtain ⟨e0, e4, e5⟩ := e1
  have hg : g ≤ h ∧ h ≤ l0 := by simp [gapB] at h4; omega
  obtain ⟨hgh, hhl⟩ := hg
  have hlc := linesC a0 l0 c0 z0 g h a4 l4 c4 z4 a5 l5 c5 z5 w L R0 R4 R5 hgh hhl e0 e4 e5 hL
  clear hL
  cases hlb : linesB z0 g h L z4 z5
  · rw [hlb] at hlc
    clear hlb hx
    go_enter Try.func3, Try.ntmps3
    go_wp2_with (first | (go_at_call 7; refine (zzM _ _ _ _ _ _ _ _ _ _ _ _ _ _ m0 m4 m5).mono ?_; rintro e w1 ⟨rfl, rfl⟩) | (go_at_call 8; refine (fitsR _ _ _ _ _ _ _ _ _ _ e0 e4 e5).mono ?_; rintro e w1 ⟨rfl, rfl⟩) | (go_at_call 9; refine (gapR _ _ _ _ _ _).mono ?_; rintro e w1 ⟨rfl, rfl⟩))
    refine hlc.mono ?_
    rintro e w1 ⟨rfl, B1⟩
    go_wp2
    go_ret
    exact ⟨rfl, B1⟩
  · rw [hlb] at hlc hx
    clear hlb
    by_cases hp : pos < 0
    · clear hx
      go_enter Try.func3, Try.ntmps3
      go_wp2_with (first | (go_at_call 7; refine (zzM _ _ _ _ _ _ _ _ _ _ _ _ _ _ m0 m4 m5).mono ?_; rintro e w1 ⟨rfl, rfl⟩) | (go_at_call 8; refine (fitsR _ _ _ _ _ _ _ _ _ _ e0 e4 e5).mono ?_; rintro e w1 ⟨rfl, rfl⟩) | (go_at_call 9; refine (gapR _ _ _ _ _ _).mono ?_; rintro e w1 ⟨rfl, rfl⟩))
      refine hlc.mono ?_
      rintro e w1 ⟨rfl, B1⟩
      go_wp2
      go_ret
      exact ⟨rfl, B1⟩
    · have hq : (l0 : Int) - ((h : Int) - g) < pos := by
        rcases hx with hx | hx | hx
        · cases hx
        · exact absurd hx hp
        · exact hx
      clear hx
      go_enter Try.func3, Try.ntmps3
      go_wp2_with (first | (go_at_call 7; refine (zzM _ _ _ _ _ _ _ _ _ _ _ _ _ _ m0 m4 m5).mono ?_; rintro e w1 ⟨rfl, rfl⟩) | (go_at_call 8; refine (fitsR _ _ _ _ _ _ _ _ _ _ e0 e4 e5).mono ?_; rintro e w1 ⟨rfl, rfl⟩) | (go_at_call 9; refine (gapR _ _ _ _ _ _).mono ?_; rintro e w1 ⟨rfl, rfl⟩))
      refine hlc.mono ?_
      rintro e w1 ⟨rfl, B1⟩
      go_wp2
      go_ret
      exact ⟨rfl, B1⟩

set_option maxRecDepth 1000000 in
set_option maxHeartbeats 1000000 in
theorem mgMain (g h L W pos : Nat) (m0 : l0 ≤ maxLen) (m4 : l4 ≤ maxLen) (m5 : l5 ≤ maxLen) (R0 : Rd .i32 w a0 l0 z0) (R4 : Rd .i64 w a4 l4 z4) (R5 : Rd .i64 w a5 l5 z5) (N0 : a0 = none → l0 = 0) (N4 : a4 = none → l4 = 0) (N5 : a5 = none → l5 = 0)
    (h1 : zzB l0 l4 l5 = true) (h2 : fitsB l0 l4 l5 = true) (h4 : gapB l0 g h = true) (hL : l0 - (h - g) = L) (hW : g + W = h) (hlb : linesB z0 g h L z4 z5 = true) (hpos : pos ≤ L) :
    Calls Try.prog 3 #[.slice a0 l0 c0, .int .i64 g, .int .i64 h, .int .i64 bl, .slice a4 l4 c4, .slice a5 l5 c5, .int .i64 pos] w fun e w' => e = .returned (.bool true) ∧ Below w.heap.size w w' := by
  have e1 : l0 ≤ 1048576 ∧ l4 ≤ 1048576 ∧ l5 ≤ 1048576 := by simp [zzB] at h1; omega
  obtain ⟨e0, e4, e5⟩ := e1
  have hg : g ≤ h ∧ h ≤ l0 := by simp [gapB] at h4; omega
  obtain ⟨hgh, hhl⟩ := hg
  have hlc := linesC a0 l0 c0 z0 g h a4 l4 c4 z4 a5 l5 c5 z5 w L R0 R4 R5 hgh hhl e0 e4 e5 hL
  rw [hlb] at hlc
  obtain ⟨t, ht⟩ : ∃ t, txt z0 g h = t := ⟨_, rfl⟩
  have hb : z4 = nlB t g ∧ z5 = nlA t (L - g) := by
    unfold linesB eqv at hlb
    rw [ht] at hlb
    simpa using hlb
  have L0 := R0.1
  have HL : Hid (l0 - (h - g) = L) := hL
  have HW : Hid (g + W = h) := hW
  have HT : Hid (txt z0 g h = t) := ht
  have HZ : Hid (z4 = nlB t g ∧ z5 = nlA t (L - g)) := hb
  have H0 : Hid (z0.length = l0) := L0
  have p1 : (pos : Int) ≤ (l0 : Int) - ((h : Int) - g) := by omega
  have p2 : h ≤ g + W := by omega
  have p3 : g + W ≤ h := by omega
  have p4 : L + h ≤ l0 + g := by omega
  have p5 : l0 + g ≤ L + h := by omega
  clear hL hW hlb ht hb L0
  go_enter Try.func3, Try.ntmps3
  go_wp2_with (first | (go_at_call 7; refine (zzM _ _ _ _ _ _ _ _ _ _ _ _ _ _ m0 m4 m5).mono ?_; rintro e w1 ⟨rfl, hw⟩; obtain rfl := hw.symm) | (go_at_call 8; refine (fitsR _ _ _ _ _ _ _ _ _ _ e0 e4 e5).mono ?_; rintro e w1 ⟨rfl, hw⟩; obtain rfl := hw.symm) | (go_at_call 9; refine (gapR _ _ _ _ _ _).mono ?_; rintro e w1 ⟨rfl, hw⟩; obtain rfl := hw.symm))
  refine hlc.mono ?_
  clear hlc
  rintro e w1 ⟨rfl, B1⟩
  go_wp2_with fail
  refine (cloneR _ _ _ _ _ (R0.keep B1) N0 e0).mono ?_
  rintro e w2 ⟨b0, d0, rfl, O0, B2⟩
  go_wp2_with fail
  refine (cloneI _ _ _ _ _ (R4.keep (chain B1 B2)) N4 e4).mono ?_
  rintro e w3 ⟨b4, d4, rfl, O4, B3⟩
  go_wp2_with fail
  refine (cloneI _ _ _ _ _ (R5.keep (chain B1 (chain B2 B3))) N5 e5).mono ?_
  rintro e w4 ⟨b5, d5, rfl, O5, B4⟩
  go_wp2_with fail
  have hT := textF _ _ d0 _ _ _ _ ((Rd_of_own O0).keep (chain B3 B4)) hgh hhl (by omega)
  rw [HL.out, HT.out] at hT
  refine hT.mono ?_
  clear hT
  rintro e w5 ⟨q5, rfl, T5, B5⟩
  go_wp2_with fail
  refine (makeC _ _ _ _ _ _ _ _ _ _ _ _ _).mono ?_
  rintro e w6 ⟨rfl, U6, B6, Z6⟩
  clear Z6
  go_wp2_with fail
  refine (moveTop _ _ _ _ _ _ _ _ _ _ _ _ _ _ _ _ _ _ _ _ _ _ _ O0 (by rw [← HZ.out.1]; exact O4) (by rw [← HZ.out.2]; exact O5) B2 B3 B4 (chain B5 B6) U6 hgh hhl e0 H0.out HT.out HL.out HW.out hpos e4 e5).mono ?_
  rintro e w7 ⟨rfl, K7, ⟨⟨r7, cp7, ge7, l47, c47, l57, c57, a47, a57, z7, U7, R7, hge, hge2, ht7, B47, A57, x4, x5⟩⟩⟩
  have BB : Below w.heap.size w w7 := kp_below K7 (chain B1 (chain B2 (chain B3 (chain B4 (chain B5 B6))))) B1.size (by have := B1.size; have := B2.size; have := B3.size; have := B4.size; have := B5.size; omega)
  have T7 : Rd .i32 w7 (some ⟨w4.heap.size, 0, none⟩) L t := by
    by_cases hL0 : L = 0
    · exact ⟨T5.1, .inl hL0⟩
    · obtain ⟨b, o, he, hlt, -⟩ := T5.2.resolve_left hL0
      have hb : w4.heap.size < w5.heap.size := by cases he; exact hlt
      refine (T5.keep B6).kp K7 ?_
      rintro y hy hS
      have hy' : y.block = w4.heap.size := by cases hy; rfl
      unfold Ws at hS
      omega
  have u1 : pos + W ≤ ge7 := by omega
  have u2 : ge7 ≤ pos + W := by omega
  have HT7 : Hid (txt z7 pos ge7 = t) := ht7
  clear K7 U6 T5 O0 O4 O5 B1 B2 B3 B4 B5 B6 R0 R4 R5 N0 N4 N5 hge ht7
  go_wp2_with fail
  refine (toBelow (fieldsC _ _ _ _ _ _ _ _ _ _ _ _ _ _ U7)).mono ?_
  rintro e w8 ⟨rfl, B8⟩
  clear U7
  have hgo : gapB l0 (pos : Int) (ge7 : Int) = true := by simp [gapB]; omega
  go_wp2_with (go_at_call 9; refine (gapR _ _ _ _ _ _).mono ?_; rintro e w13 ⟨rfl, hw⟩; obtain rfl := hw.symm)
  refine (textR _ _ _ _ _ _ _ (R7.keep B8) (by omega) (by omega) (by omega)).mono ?_
  rintro e w9 ⟨t9, q9, rfl, T9, B9⟩
  rw [HT7.out] at T9
  go_wp2_with fail
  refine (eqRunesT _ _ _ _ _ _ _ _ T9 (T7.keep (chain B8 B9)) (by omega)).mono ?_
  rintro e w10 ⟨rfl, B10⟩
  have B7t := chain B8 (chain B9 B10)
  go_wp2_with fail
  refine (nlBefore _ _ _ _ _ _ (T7.keep B7t) hpos (by omega)).mono ?_
  rintro e w11 ⟨a11, n11, q11, rfl, N11, B11⟩
  go_wp2_with fail
  refine (eqIntsT _ _ _ _ _ _ _ _ (B47.keep (chain B7t B11)) N11 (by omega)).mono ?_
  rintro e w12 ⟨rfl, B12⟩
  go_wp2_with fail
  refine (nlAfter _ _ _ _ _ _ (T7.keep (chain B7t (chain B11 B12))) hpos (by omega)).mono ?_
  rintro e w14 ⟨a14, n14, q14, rfl, N14, B14⟩
  go_wp2_with fail
  refine (eqIntsT _ _ _ _ _ _ _ _ (A57.keep (chain B7t (chain B11 (chain B12 B14)))) N14 (by omega)).mono ?_
  rintro e w15 ⟨rfl, B15⟩
  go_wp2
  go_ret
  exact ⟨rfl, chain BB (chain B7t (chain B11 (chain B12 (chain B14 B15))))⟩
end
end Go.Proofs.Qxb6602056a
