import Derived.Test.Qxb6602056aD
import Derived.Deep.DeepCutAuto
namespace Go.Proofs.Qxb6602056a
open Go.RowKit

/-- What a copy asks of its source: where a cell goes over at all, the target and the source have their addresses, and the cells lie there. -/
def Src (w : World) (dp sp : Option Addr) (g off : Nat) (cs : List Value) : Prop :=
  0 < cs.length → dp = some ⟨g, off, none⟩ ∧ ∃ ad, sp = some ad ∧ ∀ j v, cs[j]? = some v → w.cell? (ad.add j) = some v

theorem src_head {k : IntKind} {w : World} {a : Option Addr} {len : Nat} {zs : List Int} (h : Rd k w a len zs) (m g off : Nat) (hm : m ≤ len) (dp : Option Addr) (hd : 0 < m → dp = some ⟨g, off, none⟩) : Src w dp a g off (iv k (zs.take m)) := by
  intro h0
  have hm0 : 0 < m := by simp [iv] at h0; omega
  refine ⟨hd hm0, ?_⟩
  obtain ⟨ad, rfl, hc⟩ := Rd_cells h (by omega)
  refine ⟨ad, rfl, fun j v hj => hc j v ?_⟩
  rw [← hj]
  have hjm : j < m := by
    have := (List.getElem?_eq_some_iff.1 hj).1
    simp [iv] at this; omega
  simp [iv, hjm]

theorem src_tail {k : IntKind} {w : World} {a : Option Addr} {len cap : Nat} {zs : List Int} (h : Rd k w a len zs) (m g off : Nat) (hc : len ≤ cap) (dp sp : Option Addr) (hd : m < len → dp = some ⟨g, off, none⟩)
    (hs : ¬ cap = m → sp = a.map (fun x => x.add m)) : Src w dp sp g off (iv k (zs.drop m)) := by
  intro h0
  have hl := h.1
  have hm0 : m < len := by simp [iv] at h0; omega
  refine ⟨hd hm0, ?_⟩
  obtain ⟨-, h2⟩ := h
  obtain ⟨b, o, rfl, hlt, hcc⟩ := h2.resolve_left (by omega)
  refine ⟨⟨b, o + m, none⟩, by rw [hs (by omega)]; simp [Addr.add_lit], fun j v hj => ?_⟩
  have hjm : j < len - m := by
    have := (List.getElem?_eq_some_iff.1 hj).1
    simp [iv] at this; omega
  rw [Addr.add_lit, Nat.add_assoc, hcc (m + j) (by omega), ← hj]
  simp [iv, List.getD, show m + j < zs.length by omega]

set_option maxHeartbeats 400000 in
theorem resA (p : Nat) (a : Option Addr) (len cap : Nat) (gs ge : Nat) (bl : Int) (a4 : Option Addr) (l4 c4 : Nat) (a5 : Option Addr) (l5 c5 : Nat) (n : Int) (w : World) (h : Buf w p a len cap gs ge bl a4 l4 c4 a5 l5 c5)
    (h1 : gs ≤ ge) (h2 : ge ≤ len) (h3 : len ≤ 1048576) (hn : n ≤ (ge : Int) - gs) :
    Calls Try.prog 27 #[.pointer (some ⟨p, 0, none⟩), .int .i64 n] w fun e w' => e = .returned (.tuple #[]) ∧ ∃ n, w' = w.drewN n := by
  obtain ⟨c0, c1, c2, -, -, -⟩ := h.cells
  clear h
  go_enter Try.func27, Try.ntmps27
  go_wp2
  go_quiet (fail)
  go_wp2
  go_returns
  exact ⟨rfl, _, rfl⟩

/-- The runes behind a growth: the head, the gap's zeros, the tail. -/
def grown (zs : List Int) (gs ge g2 : Nat) : List Int := zs.take gs ++ (List.replicate (g2 - gs) 0 ++ zs.drop ge)

theorem grown_len {zs : List Int} {len gs ge g2 size : Nat} (hl : zs.length = len) (h1 : gs ≤ ge) (h2 : ge ≤ len) (h3 : gs ≤ g2) (h4 : g2 + (len - ge) = size) : (grown zs gs ge g2).length = size := by
  simp [grown, hl]; omega

theorem grown_splice {zs : List Int} {len gs ge g2 size : Nat} (hl : zs.length = len) (h1 : gs ≤ ge) (h2 : ge ≤ len) (h3 : gs ≤ g2) (h4 : g2 + (len - ge) = size) (cur : List Value) (hc : cur = List.replicate size (.int .i32 0)) :
    splice (splice cur 0 (iv .i32 (zs.take gs))) g2 (iv .i32 (zs.drop ge)) = iv .i32 (grown zs gs ge g2) := by
  have e1 : splice cur 0 (iv .i32 (zs.take gs)) = iv .i32 (zs.take gs) ++ List.replicate (size - gs) (.int .i32 0) := by
    simp only [splice, List.take_zero, List.nil_append, Nat.zero_add, hc, iv_len, List.length_take, hl, List.drop_replicate]
    rw [Nat.min_eq_left (by omega)]
  rw [e1]
  have hlen : (iv .i32 (zs.take gs)).length = gs := by rw [iv_len, List.length_take, hl]; omega
  have hlen2 : (iv .i32 (zs.drop ge)).length = len - ge := by rw [iv_len, List.length_drop, hl]
  unfold splice
  rw [List.take_append, hlen, List.take_of_length_le (by omega), List.take_replicate, List.drop_append, hlen, hlen2, (List.drop_eq_nil_of_le (by rw [hlen]; omega) : List.drop (g2 + (len - ge)) (iv .i32 (zs.take gs)) = []), List.drop_replicate]
  rw [show min (g2 - gs) (size - gs) = g2 - gs by omega, show size - gs - (g2 + (len - ge) - gs) = 0 by omega]
  simp [iv, grown]

theorem Buf.grow {w : World} {p : Nat} {a : Option Addr} {len cap : Nat} {gs ge bl : Int} {a4 : Option Addr} {l4 c4 : Nat} {a5 : Option Addr} {l5 c5 : Nat} (h : Buf w p a len cap gs ge bl a4 l4 c4 a5 l5 c5) (a' : Option Addr) (len' cap' : Nat) (ge' : Int) :
    Buf ((w.setCell ⟨p, 0, none⟩ (.slice a' len' cap')).setCell ⟨p, 2, none⟩ (.int .i64 ge')) p a' len' cap' gs ge' bl a4 l4 c4 a5 l5 c5 := by
  unfold Buf at h ⊢
  rw [heap_setCell_same _ p 2 _ 42 _ (heap_setCell_same _ p 0 _ 42 _ h)]
  rfl

set_option maxHeartbeats 1000000 in
theorem resB (p : Nat) (a : Option Addr) (len cap : Nat) (gs ge : Nat) (bl : Int) (a4 : Option Addr) (l4 c4 : Nat) (a5 : Option Addr) (l5 c5 : Nat) (n : Nat) (w : World) (zs : List Int) (h : Buf w p a len cap gs ge bl a4 l4 c4 a5 l5 c5)
    (hR : Rd .i32 w a len zs) (h1 : gs ≤ ge) (h2 : ge ≤ len) (hlc : len ≤ cap) (h3 : len ≤ 1048576) (hn : (ge : Int) - gs < n) (hn2 : n ≤ 65536) (size need : Nat) (hneed : need = len - (ge - gs) + n) (hsize : size = max (2 * len) (need + need / 8 + 64)) :
    Calls Try.prog 27 #[.pointer (some ⟨p, 0, none⟩), .int .i64 n] w fun e w' => e = .returned (.tuple #[]) ∧ Below p w w' ∧ ∃ g2 a' : _, g2 + (len - ge) = size ∧ gs + 64 ≤ g2 ∧ Buf w' p a' size size gs ((g2 : Nat) : Int) bl a4 l4 c4 a5 l5 c5 ∧ Rd .i32 w' a' size (grown zs gs ge g2) := by
  obtain ⟨c0, c1, c2, -, -, -⟩ := h.cells
  have H : Hid (Buf w p a len cap gs ge bl a4 l4 c4 a5 l5 c5) := h
  have HR : Hid (Rd .i32 w a len zs) := hR
  clear h hR
  obtain ⟨i0, hi, hz0, hz1, hz2⟩ := info_parts Try.info21
  have HZ2 : Hid (i0.bytes = 4) := hz2
  have n1 : need ≤ len - (ge - gs) + n := by omega
  have n2 : len - (ge - gs) + n ≤ need := by omega
  have s1 : 2 * len ≤ size := by omega
  have s2 : need + need / 8 + 64 ≤ size := by omega
  have s3 : size ≤ 2 * len ∨ size ≤ need + need / 8 + 64 := by omega
  clear hneed hsize hz2
  go_enter Try.func27, Try.ntmps27
  go_wp2
  go_quiet (fail)
  go_upto_region 2 with (go_at_call 29; refine (lenC _ _ _ _ _ _ _ _ _ _ _ _ _ _ (H.out.keep (below_n (Below.refl _ _) _)) (by omega) (by omega) (by omega)).mono ?_; rintro e w1 ⟨rfl, nq1, rfl⟩)
  go_cut [5] (fun s wx => s = .int .i64 (size : Nat) ∧ ∃ n, wx = w.drewN n)
  case first =>
    go_wp2
    all_goals (go_meet; exact ⟨by go_num, _, rfl⟩)
  case rest =>
    obtain ⟨rfl, n3, rfl⟩ := hcut
    go_wp2_with (at_make; refine wpList_make_full _ rfl _ _ 22 rfl w.heap.size 21 i0 (.int .i32 0) 1 Try.underlying22 hi hz0 hz1 _ _ _ _ size rfl rfl rfl rfl (by rw [HZ2.out]; omega) (by unfold maxLen; omega) (Nat.le_refl _) ?_)
    intro w1 hown hgrow
    obtain ⟨cur, hcur, hcl, hct, -, -, -, hcm⟩ := own_block hown
    have hb1 : Below w.heap.size w w1 := (below_n (Below.refl _ _) n3).grown hgrow (Nat.le_refl _) (by intro k hk; cases hk)
    have HC : Hid (w1.heap[w.heap.size]? = some (.cells cur.toArray 21 (0, 0))) := hcur
    have HT : Hid (cur.length = size ∧ cur.take size = (madeCells #[Value.int .i32 0] size).toList) := ⟨hcl, hct⟩
    obtain ⟨d0, d1, d2, -, -, -⟩ := (H.out.keep hb1).cells
    clear hown hgrow hcur hcl hct hz0 c0 c1 c2
    go_upto_region 4 with fail
    obtain ⟨X1, hX1⟩ : ∃ X1, X1 = iv .i32 (zs.take gs) := ⟨_, rfl⟩
    have HX1 : Hid (X1 = iv .i32 (zs.take gs)) := hX1
    clear hX1
    have hgc : gs ≤ cap := by omega
    have hec : ge ≤ cap := by omega
    have A1 : Hid (X1.length = Nat.min gs size) := show _ = _ by
      rw [HX1.out, iv_len, List.length_take, HR.out.1]; show min gs len = min gs size; omega
    have A2 : Src w1 (some ⟨w.heap.size, 0, none⟩) a w.heap.size 0 X1 := by
      rw [HX1.out]; exact src_head (HR.out.keep hb1) _ _ _ (by omega) _ (fun _ => rfl)
    have A3 : Hid (0 + X1.length ≤ cur.length) := show _ ≤ _ by
      rw [HX1.out, iv_len, List.length_take, HR.out.1, HT.out.1]; omega
    have A4 : Hid (∀ v ∈ X1, v.oneCell' = true) := show ∀ v ∈ X1, _ by rw [HX1.out]; exact iv_one _ _
    go_cut [] (fun wx => Hid (wx.heap[w.heap.size]? = some (.cells (splice cur 0 X1).toArray 21 (0, 0))) ∧ Below w.heap.size w wx)
    case first =>
      go_region_law (refine step_copy_splice rfl (.tmp 37) (.tmp 46) 22 22 rfl 21 Try.underlying22 Try.sz21 _ _ size size gs cap rfl rfl w.heap.size 0 cur 21 HC.out X1 A1.out A2 A3.out A4.out w.heap.size w hb1.drew (Nat.le_refl _) ?_; intro w4 hg4 hb4)
      all_goals
        go_wp2
        go_meet
        exact ⟨hg4, hb4⟩
    case rest =>
      clear HC A1 A2 A3 A4 hb1 d0 d1 d2
      obtain ⟨HC, hb1⟩ := hcut
      obtain ⟨d0, d1, d2, -, -, -⟩ := (H.out.keep hb1).cells
      go_wp2
      go_quiet (fail)
      go_upto_region 6 with fail
      obtain ⟨X2, hX2⟩ : ∃ X2, X2 = iv .i32 (zs.drop ge) := ⟨_, rfl⟩
      have HX2 : Hid (X2 = iv .i32 (zs.drop ge)) := hX2
      clear hX2
      obtain ⟨g2, hg2⟩ : ∃ g2, g2 + (len - ge) = size := ⟨size - (len - ge), by omega⟩
      have hwr : IntKind.i64.wrap ((size : Int) - ((len : Int) - ge)) = (g2 : Int) := by rw [IntWalk.i64_in _ ⟨by omega, by omega⟩]; omega
      have hle : g2 ≤ size := by omega
      have hgg : gs + 64 ≤ g2 := by omega
      have HG : Hid (g2 + (len - ge) = size) := hg2
      clear hg2
      have A1 : Hid (X2.length = Nat.min (len - ge) (size - g2)) := show _ = _ by
        have := HG.out
        rw [HX2.out, iv_len, List.length_drop, HR.out.1]; show len - ge = min (len - ge) (size - g2); omega
      obtain ⟨dp, hdp⟩ : ∃ dp : Option Addr, (if size = g2 then some ⟨w.heap.size, 0, none⟩ else some ⟨w.heap.size, g2, none⟩) = dp := ⟨_, rfl⟩
      obtain ⟨sp, hsp⟩ : ∃ sp : Option Addr, (if cap = ge then a else Option.map (fun x => x.add ge) a) = sp := ⟨_, rfl⟩
      have A2 : Src wc dp sp w.heap.size g2 X2 := by
        have := HG.out
        rw [HX2.out, ← hdp, ← hsp]; exact src_tail (HR.out.keep hb1) _ _ _ hlc _ _ (fun h => if_neg (by omega)) (fun h => if_neg h)
      have A3 : Hid (g2 + X2.length ≤ (splice cur 0 X1).length) := show _ ≤ _ by
        have := HG.out
        rw [length_splice _ _ _ (by rw [HX1.out, iv_len, List.length_take, HR.out.1, HT.out.1]; omega), HX2.out, iv_len, List.length_drop, HR.out.1, HT.out.1]; omega
      have A4 : Hid (∀ v ∈ X2, v.oneCell' = true) := show ∀ v ∈ X2, _ by rw [HX2.out]; exact iv_one _ _
      go_cut [] (fun wx => Hid (wx.heap[w.heap.size]? = some (.cells (splice (splice cur 0 X1) g2 X2).toArray 21 (0, 0))) ∧ Below w.heap.size w wx)
      case first =>
        go_region_law (refine step_copy_splice rfl (.tmp 62) (.tmp 71) 22 22 rfl 21 Try.underlying22 Try.sz21 _ _ (size - g2) (size - g2) (len - ge) (cap - ge) rfl rfl w.heap.size g2 (splice cur 0 X1) 21 HC.out X2 A1.out A2 A3.out A4.out w.heap.size w (below_n hb1 _) (Nat.le_refl _) ?_; intro w4 hg4 hb4)
        all_goals
          go_wp2
          go_meet
          exact ⟨hg4, hb4⟩
      case rest =>
        clear HC A1 A2 A3 A4 hb1 d0 d1 d2
        obtain ⟨HC, hb1⟩ := hcut
        have hB := H.out.keep hb1
        obtain ⟨d0, d1, d2, -, -, -⟩ := hB.cells
        have f0 := hB.free 0
        have f2 := hB.free 2
        have HB : Hid (Buf wc p a len cap gs ge bl a4 l4 c4 a5 l5 c5) := hB
        clear hB
        go_wp2
        go_returns
        have hp : p < w.heap.size := H.out.lt
        refine ⟨rfl, ((hb1.mono (Nat.le_of_lt hp)).setCell (by exact Nat.le_refl _) _).setCell (by exact Nat.le_refl _) _, g2, some ⟨w.heap.size, 0, none⟩, HG.out, hgg, HB.out.grow _ _ _ _, ?_⟩
        have hcur : cur = List.replicate size (.int .i32 0) := by
          have := HT.out.2
          rw [toList_madeCells_one, List.take_of_length_le (by rw [HT.out.1]; omega)] at this
          exact this
        have hh := HC.out
        rw [HX1.out, HX2.out, grown_splice HR.out.1 h1 h2 (by omega) HG.out cur hcur] at hh
        have hgl := grown_len HR.out.1 h1 h2 (show gs ≤ g2 by omega) HG.out
        refine Rd_of_own (cap := size) (base := 0) (e := 21) (own_mk (cur := iv .i32 (grown zs gs ge g2)) ?_ (by rw [iv_len, hgl]) (List.take_of_length_le (by rw [iv_len, hgl]; omega)) (Nat.le_refl _) (Nat.zero_le _) hcm)
        rw [heap_setCell_other _ _ _ _ (by show w.heap.size ≠ p; omega), heap_setCell_other _ _ _ _ (by show w.heap.size ≠ p; omega)]
        exact hh

set_option maxHeartbeats 400000 in
theorem resA' (p : Nat) (a : Option Addr) (len cap : Nat) (gs ge : Nat) (bl : Int) (a4 : Option Addr) (l4 c4 : Nat) (a5 : Option Addr) (l5 c5 : Nat) (n : Int) (w : World) (h : Buf w p a len cap gs ge bl a4 l4 c4 a5 l5 c5)
    (h1 : gs ≤ ge) (h2 : ge ≤ len) (h3 : len ≤ 1048576) (hn : n ≤ (ge : Int) - gs) :
    Calls Try.prog 24 #[.pointer (some ⟨p, 0, none⟩), .int .i64 n] w fun e w' => e = .returned (.tuple #[]) ∧ ∃ n, w' = w.drewN n := by
  go_enter Try.func24, Try.ntmps24
  go_wp2_with (go_at_call 27; refine (resA _ _ _ _ _ _ _ _ _ _ _ _ _ _ _ h h1 h2 h3 hn).mono ?_; rintro e w1 ⟨rfl, nq1, rfl⟩)
  go_returns
  exact ⟨rfl, _, rfl⟩

set_option maxHeartbeats 400000 in
theorem resB' (p : Nat) (a : Option Addr) (len cap : Nat) (gs ge : Nat) (bl : Int) (a4 : Option Addr) (l4 c4 : Nat) (a5 : Option Addr) (l5 c5 : Nat) (n : Nat) (w : World) (zs : List Int) (h : Buf w p a len cap gs ge bl a4 l4 c4 a5 l5 c5)
    (hR : Rd .i32 w a len zs) (h1 : gs ≤ ge) (h2 : ge ≤ len) (hlc : len ≤ cap) (h3 : len ≤ 1048576) (hn : (ge : Int) - gs < n) (hn2 : n ≤ 65536) (size need : Nat) (hneed : need = len - (ge - gs) + n) (hsize : size = max (2 * len) (need + need / 8 + 64)) :
    Calls Try.prog 24 #[.pointer (some ⟨p, 0, none⟩), .int .i64 n] w fun e w' => e = .returned (.tuple #[]) ∧ Below p w w' ∧ ∃ g2 a' : _, g2 + (len - ge) = size ∧ gs + 64 ≤ g2 ∧ Buf w' p a' size size gs ((g2 : Nat) : Int) bl a4 l4 c4 a5 l5 c5 ∧ Rd .i32 w' a' size (grown zs gs ge g2) := by
  have H := resB p a len cap gs ge bl a4 l4 c4 a5 l5 c5 n w zs h hR h1 h2 hlc h3 hn hn2 size need hneed hsize
  clear hneed hsize
  go_enter Try.func24, Try.ntmps24
  go_wp2_with (go_at_call 27; refine H.mono ?_; rintro e w1 ⟨rfl, hb⟩)
  go_returns
  exact ⟨rfl, hb⟩
end Go.Proofs.Qxb6602056a
