import Derived.Test.Qxb6602056aB
namespace Go.Proofs.Qxb6602056a
open Go.RowKit

def txt (zs : List Int) (gs ge : Nat) : List Int := zs.take gs ++ zs.drop ge

theorem txt_len {zs : List Int} {len gs ge : Nat} (hl : zs.length = len) (h1 : gs ≤ ge) (h2 : ge ≤ len) : (txt zs gs ge).length = len - (ge - gs) := by
  simp [txt, hl]; omega

theorem map_take_snoc {k : IntKind} {zs : List Int} {i : Nat} (h : i < zs.length) : iv k (zs.take (i+1)) = iv k (zs.take i) ++ [.int k (zs.getD i 0)] := by
  rw [List.take_succ_eq_append_getElem h, iv_snoc]; simp [List.getD, h]

/-- What has been gathered in the second loop: the head, then the runes from 'ge' up to 'i'. -/
def part (zs : List Int) (gs ge i : Nat) : List Int := zs.take gs ++ (zs.drop ge).take (i - ge)

theorem part_snoc {k : IntKind} {zs : List Int} {gs ge i : Nat} (h : i < zs.length) (hge : ge ≤ i) : iv k (part zs gs ge (i+1)) = iv k (part zs gs ge i) ++ [.int k (zs.getD i 0)] := by
  unfold part
  rw [show i + 1 - ge = (i - ge) + 1 by omega, List.take_succ_eq_append_getElem (by simp; omega), ← List.append_assoc, iv_snoc]
  simp [List.getD, h, show ge + (i - ge) = i by omega]

theorem part_start (zs : List Int) (gs ge : Nat) : part zs gs ge ge = zs.take gs := by simp [part]
theorem part_end {zs : List Int} {gs ge len : Nat} (h : zs.length = len) : part zs gs ge len = txt zs gs ge := by
  unfold part txt; rw [List.take_of_length_le (l := zs.drop ge) (by simp; omega)]

theorem cell1 (w : World) (x : Value) (t : TypeId) : ∀ j u, [x][j]? = some u → (w.alloc (.cells #[x] t)).cell? ((⟨w.heap.size, 0, none⟩ : Addr).add j) = some u := by
  intro j u hj
  match j, hj with
  | 0, hj => simp at hj; subst hj; simp [Addr.add]
  | j + 1, hj => simp at hj

theorem Rd_of_own {k : IntKind} {e : TypeId} {w : World} {base n cap : Nat} {a : Option Addr} {zs : List Int} (h : w.ownsRow base e 1 (.slice a n cap) n (iv k zs)) : Rd k w a n zs := by
  have hl : zs.length = n := by simpa [iv] using h.1
  refine ⟨hl, ?_⟩
  rcases h.2 with ⟨h0, h1⟩ | ⟨g', cap', cur, hv, hg, hh, hn, hcap, hsz, htake⟩
  · exact .inl h1
  · cases hv
    refine .inr ⟨g', 0, rfl, (Array.getElem?_eq_some_iff.1 hh).1, fun i hi => ?_⟩
    have := h.cells (g := g') rfl i (.int k (zs.getD i 0)) (by simp [iv, List.getD, show i < zs.length by omega])
    rwa [Addr.add_lit] at this

set_option maxHeartbeats 1000000 in
theorem textR (a : Option Addr) (len cap : Nat) (zs : List Int) (gs ge : Nat) (w : World) (h : Rd .i32 w a len zs) (h1 : gs ≤ ge) (h2 : ge ≤ len) (hm : len ≤ 9000000) :
    Calls Try.prog 13 #[.slice a len cap, .int .i64 gs, .int .i64 ge] w fun e w' => ∃ a' cap', e = .returned (.slice a' (len - (ge - gs)) cap') ∧ Rd .i32 w' a' (len - (ge - gs)) (txt zs gs ge) ∧ Below w.heap.size w w' := by
  obtain ⟨i0, hi, hz0, hz1, hz2⟩ := info_parts Try.info21
  obtain ⟨hl, h⟩ := h
  have HL : Hid (zs.length = len) := hl
  clear hl
  obtain ⟨n, hn⟩ : ∃ n, n + (ge - gs) = len := ⟨len - (ge - gs), by omega⟩
  have hmake : i0.bytes * n ≤ 281474976710656 := by rw [hz2]; omega
  go_enter Try.func13, Try.ntmps13
  go_wp2_with (at_make; refine wpList_make_own _ rfl _ _ 22 rfl w.heap.size 21 i0 (.int .i32 0) 1 Try.underlying22 hi hz0 hz1 _ _ _ n rfl rfl (by omega) hmake (by unfold maxLen; omega) (Nat.le_refl _) ?_)
  intro w1 hown hgrow
  have hb1 : Below w.heap.size w w1 := (Below.refl _ _).grown hgrow (Nat.le_refl _) (by intro k hk; cases hk)
  clear hgrow hmake
  go_wp2
  go_loopw [7, 8] (fun t i wr => ∃ k : Nat, k ≤ gs ∧ i = .int .i64 k ∧ t = .slice (some ⟨w.heap.size, 0, none⟩) k n ∧ wr.ownsRow w.heap.size 21 1 (.slice (some ⟨w.heap.size, 0, none⟩) k n) k (iv .i32 (zs.take k)) ∧ Below w.heap.size w wr) (fun _ i _ => gs - (intOf i).toNat)
  case atStart => exact ⟨0, Nat.zero_le _, rfl, rfl, by simpa [iv] using hown, hb1⟩
  case round =>
    clear hown hb1
    obtain ⟨k, hk, rfl, rfl, hown, hb⟩ := hrel
    by_cases hlt : k < gs
    · obtain ⟨b, off, rfl, hbl, hc⟩ := h.resolve_left (by omega)
      have hcx := (hb.cell (p := ⟨b, off + k, none⟩) (by exact hbl)).trans (hc k (by omega))
      obtain ⟨x, hx⟩ : ∃ x, x = zs.getD k 0 := ⟨_, rfl⟩
      rw [← hx] at hcx
      have HS : Hid (iv .i32 (zs.take (k+1)) = iv .i32 (zs.take k) ++ [.int .i32 x]) := by rw [hx]; exact map_take_snoc (by rw [HL.out]; omega)
      clear hx hc h
      go_wp2_with (at_builtin; refine wpList_append_fits _ rfl (.tmp 22) (.tmp 27) 22 rfl w.heap.size 21 i0 1 Try.underlying22 hi hz1 w.heap.size k n (iv .i32 (zs.take k)) rfl (hown.alloc _) ⟨wr.heap.size, 0, none⟩ 1 1 [.int .i32 x] rfl rfl (cell1 _ _ _) (by simp [Value.oneCell']) (by omega) ?_)
      intro w2 hown2 hgrow
      rw [← HS.out] at hown2
      have hb2 : Below w.heap.size w w2 := (hb.alloc hb.size _).grown hgrow (by have := hb.size; simp; omega) (by intro j hj; cases hj; exact Nat.le_refl _)
      clear hgrow HS hown hcx hb
      go_wp2
      go_roundw
      case rel => exact ⟨k + 1, by omega, by go_num, rfl, hown2, hb2⟩
      case measure => simp [intOf]; omega
    · have hkl : k = gs := by omega
      subst hkl
      go_wp2
      go_loopw [7, 9] (fun t i wr => ∃ j : Nat, ge ≤ j ∧ j ≤ len ∧ i = .int .i64 j ∧ t = .slice (some ⟨w.heap.size, 0, none⟩) (k + (j - ge)) n ∧ wr.ownsRow w.heap.size 21 1 (.slice (some ⟨w.heap.size, 0, none⟩) (k + (j - ge)) n) (k + (j - ge)) (iv .i32 (part zs k ge j)) ∧ Below w.heap.size w wr) (fun _ i _ => len - (intOf i).toNat)
      case atStart => exact ⟨ge, Nat.le_refl _, h2, rfl, by simp, by rw [part_start]; simpa using hown, hb⟩
      case round =>
        clear hown hb
        obtain ⟨j, hj1, hj2, rfl, rfl, hown, hb⟩ := hrel
        by_cases hlt : j < len
        · obtain ⟨b, off, rfl, hbl, hc⟩ := h.resolve_left (by omega)
          have hcx := (hb.cell (p := ⟨b, off + j, none⟩) (by exact hbl)).trans (hc j (by omega))
          obtain ⟨x, hx⟩ : ∃ x, x = zs.getD j 0 := ⟨_, rfl⟩
          rw [← hx] at hcx
          have HS : Hid (iv .i32 (part zs k ge (j+1)) = iv .i32 (part zs k ge j) ++ [.int .i32 x]) := by rw [hx]; exact part_snoc (by rw [HL.out]; omega) hj1
          have HK : Hid (k + (j + 1 - ge) = k + (j - ge) + 1) := show _ = _ by omega
          clear hx hc h
          go_wp2_with (at_builtin; refine wpList_append_fits _ rfl (.tmp 36) (.tmp 41) 22 rfl w.heap.size 21 i0 1 Try.underlying22 hi hz1 w.heap.size (k + (j - ge)) n (iv .i32 (part zs k ge j)) rfl (hown.alloc _) ⟨wr.heap.size, 0, none⟩ 1 1 [.int .i32 x] rfl rfl (cell1 _ _ _) (by simp [Value.oneCell']) (by omega) ?_)
          intro w2 hown2 hgrow
          rw [← HS.out, ← HK.out] at hown2
          have hb2 : Below w.heap.size w w2 := (hb.alloc hb.size _).grown hgrow (by have := hb.size; simp; omega) (by intro j hj; cases hj; exact Nat.le_refl _)
          clear hgrow HS hown hcx hb
          go_wp2
          go_roundw
          case rel => exact ⟨j + 1, by omega, by omega, by go_num, by rw [HK.out], hown2, hb2⟩
          case measure => simp [intOf]; omega
        · have hjl : j = len := by omega
          subst hjl
          go_wp2
          go_ret
          have e : k + (j - ge) = j - (ge - k) := by omega
          rw [e, part_end HL.out] at hown
          exact ⟨_, n, by rw [← e]; rfl, Rd_of_own hown, hb⟩
end Go.Proofs.Qxb6602056a
