import Derived.Test.Qxb6602086aH
import Derived.WalkSpells
import Derived.Deep.DeepCutAuto
import Derived.Deep.CutBlock
import Derived.Deep.RegionWith
namespace Go.Proofs.Qxb6602086a
open Go.RowKit

def nx (S : Nat → Nat) : Nat → Nat
  | 0 => 0
  | k + 1 => S k + 1
def pv (P : Nat → Int) (S : Nat → Nat) : Nat → Int
  | 0 => 0
  | k + 1 => P (S k)
theorem Sel.nx_le {O P : Nat → Int} {n m : Nat} {S : Nat → Nat} {es : List (Int × Int)} (h : Sel O P n m S es) : ∀ k, k < m → nx S k ≤ S k
  | 0, _ => Nat.zero_le _
  | k + 1, hk => h.up k hk
def at0 (zs : List Int) (i : Nat) : Int := zs.getD i 0

set_option maxRecDepth 1000000 in
set_option maxHeartbeats 1000000 in
theorem scriptMain (a0 a1 : Option Addr) (n c0 c1 : Nat) (zo zp : List Int) (w : World) (R0 : Rd .u64 w a0 n zo) (R1 : Rd .i64 w a1 n zp) (hn : n ≤ 65536) (hz : ∀ z ∈ zp, z ≤ 9223372036854775807) :
    Calls Try.prog 6 #[.slice a0 n c0, .slice a1 n c1] w fun e w' => e = .returned (.bool true) ∧ Below w.heap.size w w' := by
  have HZ := zzS a0 a1 n c0 n c1 w (by unfold maxLen; omega) (by unfold maxLen; omega)
  rw [show zzKB n n = true by unfold zzKB; simp; omega] at HZ
  have Hm : Hid (∀ i, i < n → at0 zp i ≤ 9223372036854775807) := fun i hi => hz _ (by
    have h := R1.1
    unfold at0
    rw [getD_el _ _ _ (by omega)]; exact List.getElem_mem (by omega))
  obtain ⟨l0, R0⟩ := R0
  obtain ⟨l1, R1⟩ := R1
  have C0 : n = 0 ∨ ∃ b off, a0 = some ⟨b, off, none⟩ ∧ b < w.heap.size ∧ ∀ i, i < n → w.cell? ⟨b, off + i, none⟩ = some (.int .u64 (at0 zo i)) := R0
  have C1 : n = 0 ∨ ∃ b off, a1 = some ⟨b, off, none⟩ ∧ b < w.heap.size ∧ ∀ i, i < n → w.cell? ⟨b, off + i, none⟩ = some (.int .i64 (at0 zp i)) := R1
  clear R0 R1 l0 l1 hz
  generalize at0 zo = O at C0
  generalize at0 zp = P at C1 Hm
  clear zo zp
  go_enter Try.func6, Try.ntmps6
  go_upto_region 10 with (go_at_call 16; refine HZ.mono ?_; rintro e w1 ⟨rfl, rfl⟩)
  clear HZ
  go_cut [47] (fun s wz => (∃ b : Bool, s = .bool b ∧ (b = false → 0 < n → 0 ≤ P 0)) ∧ w = wz)
  case first =>
    by_cases h0 : n = 0
    · have hb : ¬ (0 : Int) < n := by omega
      have hb' : ¬ 0 < n := by omega
      clear C0 C1 h0
      go_wp2
      go_meet
      exact ⟨⟨false, by go_num, fun _ h => absurd h hb'⟩, rfl⟩
    · obtain ⟨b1, f1, rfl, -, hc1⟩ := C1.resolve_left h0
      have e1 := hc1 0 (by omega)
      have hb : (0 : Int) < n := by omega
      have hb' : 0 < n := by omega
      clear C0 C1 hc1
      rw [Nat.add_zero] at e1
      by_cases hp : P 0 < 0
      · go_wp2
        go_meet
        exact ⟨⟨true, by go_num, fun h => by cases h⟩, rfl⟩
      · go_wp2
        go_meet
        exact ⟨⟨false, by go_num, fun _ _ => by omega⟩, rfl⟩
  case rest =>
  obtain ⟨⟨b, rfl, hpos⟩, rfl⟩ := hcut
  cases b with
  | true =>
    go_wp2
    go_ret
    exact ⟨rfl, Below.refl _ _⟩
  | false =>
  have HPos : Hid (0 < n → 0 ≤ P 0) := hpos rfl
  clear hpos
  go_wp2
  go_loopw [6] (fun i wr => ∃ (k : Nat) (wn : World), 1 ≤ k ∧ (k ≤ n ∨ k = 1) ∧ i = .int .i64 (k : Int) ∧ wn = wr ∧ Hid (∀ j, 1 ≤ j → j < k → P (j - 1) < P j) ∧ Below w.heap.size w wn) (fun i _ => n - (intOf i).toNat)
  case atStart => exact ⟨1, _, Nat.le_refl _, .inr rfl, rfl, rfl, fun j h1 h2 => by omega, Below.refl _ _⟩
  case round =>
  obtain ⟨k, wn, hk1, hk2, rfl, rfl, hup, hb⟩ := hrel
  by_cases hlt : k < n
  · have hlt' : (k : Int) < n := by omega
    obtain ⟨b1, f1, rfl, hb1, hc1⟩ := C1.resolve_left (by omega)
    obtain ⟨j, hj⟩ : ∃ j, j + 1 = k := ⟨k - 1, by omega⟩
    have e1 := (hb.cell (p := ⟨b1, f1 + k, none⟩) (by exact hb1)).trans (hc1 k hlt)
    have e2 := (hb.cell (p := ⟨b1, f1 + j, none⟩) (by exact hb1)).trans (hc1 j (by omega))
    have hkj : (k : Int) - 1 = (j : Int) := by omega
    have hjn : j < n := by omega
    have HJ : Hid (k - 1 = j) := show k - 1 = j by omega
    clear hc1 C0 C1 hj
    by_cases hle : P k ≤ P j
    · go_wp2
      go_quiet (fail)
      go_wp2
      go_ret
      exact ⟨rfl, below_n hb _⟩
    · go_wp2
      go_quiet (fail)
      go_wp2
      go_roundw
      case rel =>
        refine ⟨k + 1, _, by omega, .inl (by omega), by go_num, rfl, ?_, below_n hb _⟩
        intro i h1 h2
        by_cases hik : i = k
        · subst hik; rw [HJ.out]; omega
        · exact hup.out i h1 (by omega)
      case measure => simp [intOf]; omega
  · have HP : Hid (∀ i j, i < j → j < n → P i < P j) := rise (fun j h1 h2 => hup.out j h1 (by omega))
    clear hup hk1 hk2
    have hlt' : ¬ (k : Int) < n := by omega
    go_wp2
    clear hlt hlt'
    have C0' : n = 0 ∨ ∃ b off, a0 = some ⟨b, off, none⟩ ∧ b < w.heap.size ∧ Hid (∀ i, i < n → w.cell? ⟨b, off + i, none⟩ = some (.int .u64 (O i))) := C0
    have C1' : n = 0 ∨ ∃ b off, a1 = some ⟨b, off, none⟩ ∧ b < w.heap.size ∧ Hid (∀ i, i < n → w.cell? ⟨b, off + i, none⟩ = some (.int .i64 (P i))) := C1
    clear C0 C1
    go_loopw [7, 8] (fun v j wr => ∃ (k m c : Nat) (a : Option Addr) (S : Nat → Nat) (es : List (Int × Int)) (wn : World), k ≤ n ∧ v = .slice a m c ∧ j = .int .i64 (k : Int) ∧ wn = wr ∧ Hid (Sel O P k m S es) ∧ Hid (Oi w.heap.size a m c es wn) ∧ Below w.heap.size w wn) (fun _ j _ => n - (intOf j).toNat)
    case atStart => exact ⟨0, 0, 0, none, fun _ => 0, [], _, Nat.zero_le _, rfl, rfl, rfl, Sel.start O P, World.ownsRow_nil _ _ _ _, hb⟩
    case round =>
    clear hb
    obtain ⟨k, m, c, a, S, es, wo, hk, rfl, rfl, rfl, hsel, hown, hb⟩ := hrel
    by_cases hlt : k < n
    · have hlt' : (k : Int) < n := by omega
      obtain ⟨b0, f0, rfl, hb0, hc0⟩ := C0'.resolve_left (by omega)
      obtain ⟨b1, f1, rfl, hb1, hc1⟩ := C1'.resolve_left (by omega)
      have e0 := (hb.cell (p := ⟨b0, f0 + k, none⟩) (by exact hb0)).trans (hc0.out k hlt)
      have e1 := (hb.cell (p := ⟨b1, f1 + k, none⟩) (by exact hb1)).trans (hc1.out k hlt)
      have hm9 : m ≤ 9000000 := by have := hsel.out.le; omega
      have hsz : w.heap.size ≤ wo.heap.size := hb.size
      clear hc0 hc1 C0' C1'
      go_upto_region 21 with fail
      have HCALL := zzbatchC w.heap.size a m c es (O k) (P k) wo.drew (hown.out.below (Below.refl _ _).drew) hm9 hsz
      obtain ⟨m2, S2, hsel2⟩ := hsel.out.step hlt HP.out (HPos.out (by omega)) Hm.out
      go_region_with (go_at_call 11; refine HCALL.mono ?_; rintro e wp ⟨a', m', c', rfl, O', B'⟩)
      all_goals
        obtain rfl : m2 = m' := by rw [← hsel2.len]; exact O'.len
        go_wp2
        go_roundw
        case rel => exact ⟨k + 1, m2, c', a', S2, _, _, by omega, rfl, by go_num, rfl, hsel2, O', hb.trans ((Below.refl _ _).drew.trans B')⟩
        case measure => simp [intOf]; omega
    · obtain rfl : n = k := by omega
      have hlt' : ¬ (n : Int) < n := by omega
      clear hlt hk
      have hlen := lenC a m c wo
      by_cases h0 : n = 0
      · have hm0 : m = 0 := by have := hsel.out.le; omega
        have hb0 : ((n : Int) == 0) = true := by simp [h0]
        have hb1 : ((m : Int) == 0) = true := by simp [hm0]
        clear h0 hm0 C0' C1'
        go_wp2_with (go_at_call 13; refine hlen.mono ?_; rintro e wp ⟨rfl, rfl⟩)
        go_ret
        exact ⟨rfl, hb⟩
      · obtain ⟨b0, f0, rfl, hb0, hc0⟩ := C0'.resolve_left h0
        obtain ⟨b1, f1, rfl, hb1, hc1⟩ := C1'.resolve_left h0
        have hnpos : 0 < n := Nat.pos_of_ne_zero h0
        have hmpos : 0 < m := hsel.out.pos hnpos
        have hmn : m ≤ n := hsel.out.le
        have hbn : ((n : Int) == 0) = false := by simp; omega
        have hbm : ((m : Int) == 0) = false := by simp; omega
        have IX : Hid (Ix wo a m es) := hown.out.ix
        have hel := hsel.out.el 0 hmpos
        rw [hsel.out.zero hmpos] at hel
        clear C0' C1' h0 hown
        go_wp2_with (go_at_call 13; refine hlen.mono ?_; rintro e wp ⟨rfl, rfl⟩)
        refine (atC a m c 0 es wo IX.out hmpos (by omega) (O 0) (P 0) (by rw [hel]) (by rw [hel])).mono ?_
        rintro e wm ⟨rfl, Bm⟩
        have hbw := chain hb Bm
        have e0 := (hbw.cell (p := ⟨b0, f0 + 0, none⟩) (by exact hb0)).trans (hc0.out 0 hnpos)
        have e1 := (hbw.cell (p := ⟨b1, f1 + 0, none⟩) (by exact hb1)).trans (hc1.out 0 hnpos)
        rw [Nat.add_zero] at e0 e1
        have hbx : (O 0 != O 0) = false := by simp
        have hby : (P 0 != P 0) = false := by simp
        go_wp2
        clear hbx hby e0 e1 hel hlen
        have IXm : Hid (Ix wm a m es) := IX.out.keep Bm
        clear IX hb Bm
        go_loopw [12, 13, 14] (fun j q i wr => ∃ (k : Nat) (wn : World), k ≤ m ∧ j = .int .i64 ((nx S k : Nat) : Int) ∧ q = .int .i64 (pv P S k) ∧ i = .int .i64 (k : Int) ∧ wn = wr ∧ Below wm.heap.size wm wn) (fun _ _ i _ => m - (intOf i).toNat)
        case atStart => exact ⟨0, _, Nat.zero_le _, rfl, rfl, rfl, rfl, Below.refl _ _⟩
        case round =>
        obtain ⟨k, wn, hk, rfl, rfl, rfl, rfl, hbn⟩ := hrel
        by_cases hlt : k < m
        · have hlt' : (k : Int) < m := by omega
          have hel := hsel.out.el k hlt
          have hnx := hsel.out.nx_le k hlt
          have hsn := hsel.out.lt k hlt
          obtain ⟨s, hs⟩ : ∃ s, s = S k := ⟨_, rfl⟩
          rw [← hs] at hel hnx hsn
          have HS : Hid (s = S k) := hs
          have HX : Hid (Ix wn a m es) := IXm.out.keep hbn
          go_wp2_with fail
          refine (atC a m c k es wn HX.out hlt (by omega) (O s) (P s) (by rw [hel]) (by rw [hel])).mono ?_
          rintro e wp ⟨rfl, Bp⟩
          clear hs hel HX
          have hbw2 := chain hbw (chain hbn Bp)
          go_upto_block 6 with fail
          go_cut [12] (fun j wx => j = .int .i64 (s : Int) ∧ wp = wx)
          case first =>
            go_wp2
            go_loop [12] (fun j => ∃ r : Nat, r ≤ s ∧ j = .int .i64 (r : Int)) (fun j => s - (intOf j).toNat)
            case atStart => exact ⟨_, hnx, rfl⟩
            case round =>
              obtain ⟨r, hr, rfl⟩ := hrel
              have hrn : r < n := by omega
              have e1 := (hbw2.cell (p := ⟨b1, f1 + r, none⟩) (by exact hb1)).trans (hc1.out r hrn)
              by_cases hrs : r < s
              · have hPP := HP.out r s hrs hsn
                go_wp2
                go_round
                case rel => exact ⟨r + 1, by omega, by go_num⟩
                case measure => simp [intOf]; omega
              · obtain rfl : s = r := by omega
                have hPP : ¬ P s < P s := by omega
                go_wp2
                go_meet
                exact ⟨rfl, rfl⟩
          case rest =>
          obtain ⟨rfl, rfl⟩ := hcut
          have e0 := (hbw2.cell (p := ⟨b0, f0 + s, none⟩) (by exact hb0)).trans (hc0.out s hsn)
          have e1 := (hbw2.cell (p := ⟨b1, f1 + s, none⟩) (by exact hb1)).trans (hc1.out s hsn)
          have hbs : ((s : Int) == (n : Int)) = false := by simp; omega
          have hbx : (O s != O s) = false := by simp
          have hby : (P s != P s) = false := by simp
          go_upto_region 40 with fail
          go_cut [153] (fun v wx => v = .bool false ∧ wp = wx)
          case first =>
            have hg : 0 < k → 0 ≤ pv P S k ∧ 65536 ≤ P s - pv P S k := by
              intro hk0
              obtain ⟨t, rfl⟩ : ∃ t, k = t + 1 := ⟨k - 1, by omega⟩
              have g1 := hsel.out.gap t hlt
              rw [← HS.out] at g1
              have g2 := hsel.out.lt t (by omega)
              have g3 := le_mono HP.out (Nat.zero_le (S t)) g2
              have g4 := HPos.out hnpos
              exact ⟨show 0 ≤ P (S t) by omega, g1⟩
            have g3 := Hm.out s hsn
            by_cases hk0 : 0 < k
            · obtain ⟨g1, g2⟩ := hg hk0
              have hk0' : (0 : Int) < (k : Int) := by omega
              clear hg
              go_wp2
              go_meet
              exact ⟨by go_num, rfl⟩
            · have hk0' : ¬ (0 : Int) < (k : Int) := by omega
              clear hg
              go_wp2
              go_meet
              exact ⟨by go_num, rfl⟩
          case rest =>
          obtain ⟨rfl, rfl⟩ := hcut
          clear e0 e1 hbx hby hbs
          go_wp2
          go_roundw
          case rel => exact ⟨k + 1, _, by omega, by show _ = Value.int .i64 ((S k + 1 : Nat) : Int); rw [← HS.out]; go_num, by show _ = Value.int .i64 (P (S k)); rw [← HS.out], by go_num, rfl, chain hbn Bp⟩
          case measure => simp [intOf]; omega
        · obtain rfl : m = k := by omega
          have hlt' : ¬ (m : Int) < m := by omega
          have IXn : Hid (Ix wn a m es) := IXm.out.keep hbn
          have hbv := chain hbw hbn
          clear IXm hbw hbn hlt hk
          go_wp2
          clear hlt'
          have hz0 := hsel.out.zero hmpos
          go_loopw [17, 18] (fun u v wr => ∃ (q i : Nat) (wz : World), q < m ∧ i ≤ n ∧ Hid (S q ≤ i) ∧ u = .int .i64 (q : Int) ∧ v = .int .i64 (i : Int) ∧ wz = wr ∧ Below wn.heap.size wn wz) (fun _ v _ => n - (intOf v).toNat)
          case atStart => exact ⟨0, 0, _, hmpos, Nat.zero_le _, Nat.le_of_eq hz0, rfl, rfl, rfl, Below.refl _ _⟩
          case round =>
          clear hz0
          obtain ⟨q, i, wz, hq, hi, hqi, rfl, rfl, rfl, hbz⟩ := hrel
          by_cases hlt : i < n
          · have hlt' : (i : Int) < n := by omega
            go_upto_block 10 with fail
            go_cut [17] (fun u wx => ∃ (q : Nat) (wy : World), q < m ∧ Hid (S q ≤ i ∧ (q + 1 < m → i < S (q + 1))) ∧ u = .int .i64 (q : Int) ∧ wy = wx ∧ Below wn.heap.size wn wy)
            case first =>
              go_wp2
              go_loopw [17] (fun u wr => ∃ (q : Nat) (wy : World), q < m ∧ Hid (S q ≤ i) ∧ u = .int .i64 (q : Int) ∧ wy = wr ∧ Below wn.heap.size wn wy) (fun u _ => m - (intOf u).toNat)
              case atStart => exact ⟨q, _, hq, hqi, rfl, rfl, hbz⟩
              case round =>
                clear hbz hqi hq
                obtain ⟨q, wy, hq, hqi, rfl, rfl, hby⟩ := hrel
                by_cases hq1 : q + 1 < m
                · have hq1' : (q : Int) + 1 < m := by omega
                  have hel := hsel.out.el (q + 1) hq1
                  have HX : Hid (Ix wy a m es) := IXn.out.keep hby
                  obtain ⟨s, hs⟩ : ∃ s, s = S (q + 1) := ⟨_, rfl⟩
                  rw [← hs] at hel
                  have hsn : s < n := by rw [hs]; exact hsel.out.lt _ hq1
                  have HS : Hid (s = S (q + 1)) := hs
                  have HC : Calls Try.prog 14 #[.slice a m c, .int .i64 ((q : Int) + 1)] wy fun e w' => e = .returned (.tuple #[.int .u64 (O s), .int .i64 (P s)]) ∧ Below wy.heap.size wy w' := by
                    have := atC a m c (q + 1) es wy HX.out hq1 (by omega) (O s) (P s) (by rw [hel]) (by rw [hel])
                    rwa [show (((q + 1 : Nat)) : Int) = (q : Int) + 1 by omega] at this
                  clear hs hel HX
                  go_wp2_with fail
                  refine HC.mono ?_
                  rintro e wp ⟨rfl, Bp⟩
                  have hbp := chain hby Bp
                  have e1 := ((chain hbv hbp).cell (p := ⟨b1, f1 + i, none⟩) (by exact hb1)).trans (hc1.out i hlt)
                  clear HC hby Bp
                  by_cases hsi : s ≤ i
                  · have hPP : ¬ P i < P s := by have := le_mono HP.out hsi hlt; omega
                    go_wp2
                    go_roundw
                    case rel => exact ⟨q + 1, _, hq1, by rw [← HS.out]; exact hsi, by go_num, rfl, hbp⟩
                    case measure => simp [intOf]; omega
                  · have hPP : P i < P s := HP.out i s (by omega) hsn
                    go_wp2
                    go_meet
                    exact ⟨q, _, hq, ⟨hqi.out, fun _ => by rw [← HS.out]; omega⟩, rfl, rfl, hbp⟩
                · have hq1' : ¬ (q : Int) + 1 < m := by omega
                  go_wp2
                  go_meet
                  exact ⟨q, _, hq, ⟨hqi.out, fun h => absurd h hq1⟩, rfl, rfl, hby⟩
            case rest =>
              clear hbz hqi hq
              obtain ⟨q, wy, hq, hqi, rfl, rfl, hby⟩ := hcut
              have hel := hsel.out.el q hq
              have HX : Hid (Ix wy a m es) := IXn.out.keep hby
              have hcov := hsel.out.cov q i hq hlt hqi.out.1 hqi.out.2
              have hle := le_mono HP.out hqi.out.1 hlt
              have h0 := le_mono HP.out (Nat.zero_le (S q)) (hsel.out.lt q hq)
              have h1 := HPos.out hnpos
              have h2 := Hm.out i hlt
              obtain ⟨x, hx⟩ : ∃ x, x = P (S q) := ⟨_, rfl⟩
              rw [← hx] at hel hcov hle h0
              have hx0 : 0 ≤ x := by omega
              have hPP : ¬ P i < x := by omega
              have hQQ : ¬ 65536 ≤ P i - x := by omega
              clear hx h0 h1
              go_wp2_with fail
              refine (atC a m c q es wy HX.out hq (by omega) (O (S q)) x (by rw [hel]) (by rw [hel])).mono ?_
              rintro e wp ⟨rfl, Bp⟩
              have hbp := chain hby Bp
              have e1 := ((chain hbv hbp).cell (p := ⟨b1, f1 + i, none⟩) (by exact hb1)).trans (hc1.out i hlt)
              clear hel HX hby Bp
              go_wp2
              go_roundw
              case rel => exact ⟨q, i + 1, _, hq, by omega, Nat.le_succ_of_le hqi.out.1, rfl, by go_num, rfl, hbp⟩
              case measure => simp [intOf]; omega
          · obtain rfl : n = i := by omega
            have hlt' : ¬ (n : Int) < n := by omega
            have hcnt := hsel.out.count hmpos HP.out
            obtain ⟨j, hj⟩ : ∃ j, j + 1 = n := ⟨n - 1, by omega⟩
            rw [show n - 1 = j by omega] at hcnt
            have hbq := chain hbv hbz
            have e1 := (hbq.cell (p := ⟨b1, f1 + j, none⟩) (by exact hb1)).trans (hc1.out j (by omega))
            have e2 := (hbq.cell (p := ⟨b1, f1 + 0, none⟩) (by exact hb1)).trans (hc1.out 0 hnpos)
            rw [Nat.add_zero] at e2
            have hnj : (n : Int) - 1 = (j : Int) := by omega
            have hjn : j < n := by omega
            have h1 := HPos.out hnpos
            have h2 := Hm.out j hjn
            obtain ⟨d, hd⟩ := Int.eq_ofNat_of_zero_le (show 0 ≤ P j - P 0 by omega)
            have hdd : (d : Int) ≤ 9223372036854775807 := by omega
            have hdiv : ¬ (d : Int) / 65536 < (m : Int) - 1 := by omega
            clear hj hlt hcnt hc1 hc0
            go_wp2
            go_quiet (fail)
            go_wp2
            go_ret
            exact ⟨rfl, below_n hbq _⟩
end Go.Proofs.Qxb6602086a
