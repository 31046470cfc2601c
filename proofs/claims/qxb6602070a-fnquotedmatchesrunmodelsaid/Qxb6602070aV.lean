import Derived.Test.Qxb6602070aT
import Derived.Deep.CutBlock
import Derived.Deep.Light
namespace Go.Proofs.Qxb6602070a
open Go.RowKit

/-- From p up to r stands x alone. -/
def Run (s : ByteArray) (p r : Nat) (x : UInt8) : Prop := p ≤ r ∧ At s p = List.replicate (r - p) x ++ At s r

theorem Run.start (s : ByteArray) (p : Nat) (x : UInt8) : Run s p p x := ⟨Nat.le_refl _, by simp⟩
theorem Run.step {s : ByteArray} {p r : Nat} {x : UInt8} (h : Run s p r x) (hr : r < s.size) (e : s[r] = x) : Run s p (r + 1) x := by
  obtain ⟨h1, h2⟩ := h
  refine ⟨by omega, ?_⟩
  rw [h2, at_cons s r hr, e, show r + 1 - p = (r - p) + 1 by omega, List.replicate_succ', List.append_assoc]
  rfl

/-- Behind a run of backslashes. -/
theorem back_even {q : UInt8} {s : ByteArray} {i0 p r : Nat} {acc : List UInt8} (hj : Joined true q s i0 p acc) (hrun : Run s p r 92) (m : Nat) (hm : r - p = 2 * m) : Joined true q s i0 r (acc ++ List.replicate m 92) := by
  obtain ⟨h1, h2⟩ := hrun
  have := hj.step (List.replicate m 92) (r - p) (by rw [h2, hm, qd_back, show p + 2 * m = r by omega, Nat.add_comm])
  rwa [show p + (r - p) = r by omega] at this
theorem back_odd {q : UInt8} {s : ByteArray} {i0 p r : Nat} {acc : List UInt8} (hj : Joined true q s i0 p acc) (hrun : Run s p r 92) (m : Nat) (hm : r - p = 2 * m + 1) (hr : r < s.size) : Joined true q s i0 (r + 1) (acc ++ List.replicate m 92 ++ [s[r]]) := by
  obtain ⟨h1, h2⟩ := hrun
  have := hj.step (List.replicate m 92 ++ [s[r]]) (r - p + 1) (by
    rw [h2, hm, show List.replicate (2 * m + 1) (92 : UInt8) = List.replicate (2 * m) 92 ++ [92] from List.replicate_succ', List.append_assoc, qd_back, at_cons s r hr]
    rw [List.singleton_append, qd_esc, show p + (2 * m + 1 + 1) = r + 1 by omega]
    simp; omega)
  rwa [show p + (r - p + 1) = r + 1 by omega, ← List.append_assoc] at this
theorem back_end {q : UInt8} {s : ByteArray} {i0 p r : Nat} {acc : List UInt8} (hq : ¬ q = 92) (hj : Joined true q s i0 p acc) (hrun : Run s p r 92) (m : Nat) (hm : r - p = 2 * m + 1) (hr : s.size ≤ r) : Joined true q s i0 r (acc ++ List.replicate m 92 ++ [92]) := by
  obtain ⟨h1, h2⟩ := hrun
  have := hj.step (List.replicate m 92 ++ [92]) (r - p) (by
    rw [h2, hm, show List.replicate (2 * m + 1) (92 : UInt8) = List.replicate (2 * m) 92 ++ [92] from List.replicate_succ', List.append_assoc, qd_back, at_end s r hr]
    rw [List.append_nil, qd_one (fun e => hq e.symm), show p + (2 * m + 1) = r by omega, at_end s r hr]
    simp [qd])
  rwa [show p + (r - p) = r by omega, ← List.append_assoc] at this
theorem quote_even {esc : Bool} {q : UInt8} {s : ByteArray} {i0 p r : Nat} {acc : List UInt8} (hq : ¬ q = 92) (hj : Joined esc q s i0 p acc) (hrun : Run s p r q) (m : Nat) (hm : r - p = 2 * m) : Joined esc q s i0 r (acc ++ List.replicate m q) := by
  obtain ⟨h1, h2⟩ := hrun
  have := hj.step (List.replicate m q) (r - p) (by rw [h2, hm, qd_quote hq, show p + 2 * m = r by omega, Nat.add_comm])
  rwa [show p + (r - p) = r by omega] at this
theorem quote_odd {esc : Bool} {q : UInt8} {s : ByteArray} {i0 p r : Nat} {acc : List UInt8} (hq : ¬ q = 92) (hj : Joined esc q s i0 p acc) (hrun : Run s p r q) (m : Nat) (hm : r - p = 2 * m + 1) (hr : ∀ h : r < s.size, ¬ s[r] = q) :
    qd esc q (At s i0) = (acc ++ List.replicate m q, r - i0) := by
  obtain ⟨h1, h2⟩ := hrun
  have := hj.stop (List.replicate m q) (r - p) (by
    rw [h2, hm, show List.replicate (2 * m + 1) q = List.replicate (2 * m) q ++ [q] from List.replicate_succ', List.append_assoc, qd_quote hq, List.singleton_append]
    rw [qd_q (by simp [hq]) (by
      intro x hx e
      by_cases h : r < s.size
      · rw [at_cons s r h] at hx
        exact hr h (by rw [← e]; exact Option.some.inj hx)
      · rw [at_end s r (by omega)] at hx; cases hx)]
    simp)
  rw [this, show p - i0 + (r - p) = r - i0 by have := hj.1; omega]

set_option maxRecDepth 1000000 in
set_option maxHeartbeats 2000000 in
theorem modelC (s : ByteArray) (i : Nat) (esc : Bool) (w : World) (hi : i < s.size) (hs : s.size ≤ 9000000) (hq : ¬ s[i] = 92) :
    Calls Try.prog 9 #[.string s, .int .i64 (i : Int), .bool esc] w fun e w' => e = .returned (.tuple #[.string ⟨(qd esc s[i] (At s (i + 1))).1.toArray⟩, .int .i64 ((i : Int) + 1 + (qd esc s[i] (At s (i + 1))).2)]) ∧ Below w.heap.size w w' := by
  obtain ⟨q, hqe⟩ : ∃ q, s[i] = q := ⟨_, rfl⟩
  rw [hqe] at hq ⊢
  go_enter Try.func9, Try.ntmps9
  go_wp2
  clear hqe
  go_loopw [10, 11] (fun v j wr => ∃ (p n c : Nat) (a : Option Addr) (acc : List UInt8), p ≤ s.size ∧ j = .int .i64 (p : Int) ∧ v = .slice a n c ∧ n ≤ p ∧ Ob w.heap.size a n c acc wr ∧ Joined esc q s (i + 1) p acc ∧ Below w.heap.size w wr) (fun _ j _ => s.size - (intOf j).toNat)
  case atStart => exact ⟨i + 1, 0, 0, none, [], by omega, by go_num, rfl, by omega, World.ownsRow_nil _ _ _ _, Joined.start _ _ _ _, Below.refl _ _⟩
  case round =>
    obtain ⟨p, n, c, a, acc, hp, rfl, rfl, hn, O, hj, hb⟩ := hrel
    have hsz := hb.size
    by_cases hlt : p < s.size
    · have hcons := at_cons s p hlt
      by_cases c92 : esc = true ∧ s[p] = 92
      · obtain ⟨rfl, c92⟩ := c92
        have b92 : ((s[p].toNat : Int) == 92) = true := by rw [c92]; rfl
        have HC : Hid (s[p] = 92) := c92
        clear c92 hcons
        go_upto_block 2 with fail
        go_cut [13] (fun j wx => ∃ r : Nat, p < r ∧ r ≤ s.size ∧ j = .int .i64 (r : Int) ∧ Run s p r 92 ∧ wx = wr)
        case first =>
          go_wp2
          go_loop [13] (fun j => ∃ r : Nat, r ≤ s.size ∧ j = .int .i64 (r : Int) ∧ Run s p r 92) (fun j => s.size - (intOf j).toNat)
          case atStart => exact ⟨p, hp, rfl, Run.start _ _ _⟩
          case round =>
            obtain ⟨r, hr, rfl, hrun⟩ := hrel
            by_cases hrl : r < s.size
            · have hrl' : (r : Int) < s.size := by omega
              by_cases e92 : s[r] = 92
              · have d92 : ((s[r].toNat : Int) == 92) = true := by rw [e92]; rfl
                have hrun2 := hrun.step hrl e92
                clear e92
                go_wp2
                go_round
                case rel => exact ⟨r + 1, by omega, by go_num, hrun2⟩
                case measure => simp [intOf]; omega
              · have d92 : ((s[r].toNat : Int) == 92) = false := ne_toNat' e92
                have hpr : p < r := by
                  rcases Nat.lt_or_eq_of_le hrun.1 with h | h
                  · exact h
                  · subst h; exact absurd HC.out e92
                clear e92
                go_wp2
                go_meet
                exact ⟨r, hpr, hr, rfl, hrun, rfl⟩
            · go_wp2
              go_meet
              exact ⟨r, by omega, hr, rfl, hrun, rfl⟩
        case rest =>
          obtain ⟨r, hpr, hr, rfl, hrun, rfl⟩ := hcut
          obtain ⟨d, hd⟩ : ∃ d, r - p = d := ⟨_, rfl⟩
          obtain ⟨m, hm⟩ : ∃ m, d / 2 = m := ⟨_, rfl⟩
          have e1 : (r : Int) - p = (d : Int) := by omega
          have e2 : (d : Int) / 2 = (m : Int) := by omega
          have HD : Hid (r - p = d ∧ d / 2 = m) := ⟨hd, hm⟩
          have dm : d ≤ 2 * m + 1 := by omega
          have dm2 : 2 * m ≤ d := by omega
          have drp : d + p ≤ r := by omega
          clear hd hm
          go_upto_block 4 with fail
          go_cut [10, 15] (fun v j wx => ∃ (a2 : Option Addr) (c2 : Nat), v = .slice a2 (n + m) c2 ∧ j = .int .i64 (m : Int) ∧ Ob w.heap.size a2 (n + m) c2 (acc ++ List.replicate m 92) wx ∧ Below w.heap.size w wx)
          case first =>
            go_wp2
            go_loopw [10, 15] (fun v j wx => ∃ (k : Nat) (a2 : Option Addr) (c2 : Nat), k ≤ m ∧ v = .slice a2 (n + k) c2 ∧ j = .int .i64 (k : Int) ∧ Ob w.heap.size a2 (n + k) c2 (acc ++ List.replicate k 92) wx ∧ Below w.heap.size w wx) (fun _ j _ => m - (intOf j).toNat)
            case atStart => exact ⟨0, a, c, Nat.zero_le _, rfl, rfl, by simpa using O, hb⟩
            case round =>
              obtain ⟨k, a2, c2, hk, rfl, rfl, O2, hb2⟩ := hrel
              by_cases hkm : k < m
              · have hkm' : (k : Int) < m := by omega
                go_wp2_with (at_builtin; refine app1 rfl (.tmp 58) (.tmp 59) rfl w.heap.size a2 (n + k) c2 _ rfl O2 92 _ rfl rfl (by omega) hb2.size ?_)
                intro a3 c3 w3 O3 B3
                go_wp2
                go_roundw
                case rel => exact ⟨k + 1, a3, c3, by omega, rfl, by go_num, by rw [List.replicate_succ']; exact O3, hb2.trans B3⟩
                case measure => simp [intOf]; omega
              · obtain rfl : k = m := by omega
                go_wp2
                go_meet
                exact ⟨a2, c2, rfl, rfl, O2, hb2⟩
          case rest =>
            clear O hb
            obtain ⟨a2, c2, rfl, rfl, O2, hb2⟩ := hcut
            have hsz2 := hb2.size
            by_cases hpar : d = 2 * m + 1
            · have hb1 : (((d : Int) % 2) == 1) = true := by simp; omega
              have hdd : r - p = 2 * m + 1 := by rw [HD.out.1, hpar]
              by_cases hrl : r < s.size
              · have hrl' : (r : Int) < s.size := by omega
                have J := back_odd hj hrun m hdd hrl
                rw [List.append_assoc] at J
                clear hpar hdd e1 e2 HD
                go_wp2_with (at_builtin; refine app1 rfl (.tmp 68) (.tmp 72) rfl w.heap.size a2 (n + m) c2 _ rfl O2 s[r] _ rfl rfl (by omega) hsz2 ?_)
                intro a3 c3 w3 O3 B3
                go_wp2
                go_roundw
                case rel => exact ⟨r + 1, n + m + 1, c3, a3, _, by omega, by go_num, rfl, by omega, O3, J, hb2.trans B3⟩
                case measure => simp [intOf]; omega
              · have hrl' : ¬ (r : Int) < s.size := by omega
                have J := back_end hq hj hrun m hdd (by omega)
                rw [List.append_assoc] at J
                clear hpar hdd e1 e2 HD
                go_wp2_with (at_builtin; refine app1 rfl (.tmp 76) (.tmp 77) rfl w.heap.size a2 (n + m) c2 _ rfl O2 92 _ rfl rfl (by omega) hsz2 ?_)
                intro a3 c3 w3 O3 B3
                go_wp2
                go_roundw
                case rel => exact ⟨r, n + m + 1, c3, a3, _, by omega, rfl, rfl, by omega, O3, J, hb2.trans B3⟩
                case measure => simp [intOf]; omega
            · have hb1 : (((d : Int) % 2) == 1) = false := by simp; omega
              have hdd : r - p = 2 * m := by rw [HD.out.1]; omega
              have J := back_even hj hrun m hdd
              clear hpar hdd e1 e2 HD
              go_wp2
              go_roundw
              case rel => exact ⟨r, n + m, c2, a2, _, by omega, rfl, rfl, by omega, O2, J, hb2⟩
              case measure => simp [intOf]; omega
      · have b7 : esc = true → ((s[p].toNat : Int) == 92) = false := fun h => ne_toNat' (fun e => c92 ⟨h, e⟩)
        by_cases cq : s[p] = q
        · have bq : ((s[p].toNat : Int) == (q.toNat : Int)) = true := by rw [cq]; simp
          have HC : Hid (s[p] = q) := cq
          have b92 : ((s[p].toNat : Int) == 92) = false := ne_toNat' (by rw [cq]; exact hq)
          clear cq c92 hcons b7
          cases esc
          all_goals
            go_upto_block 6 with fail
            go_cut [16] (fun j wx => ∃ r : Nat, p < r ∧ r ≤ s.size ∧ j = .int .i64 (r : Int) ∧ Run s p r q ∧ Hid (∀ h : r < s.size, ¬ s[r] = q) ∧ wx = wr)
            case first =>
              go_wp2
              go_loop [16] (fun j => ∃ r : Nat, r ≤ s.size ∧ j = .int .i64 (r : Int) ∧ Run s p r q) (fun j => s.size - (intOf j).toNat)
              case atStart => exact ⟨p, hp, rfl, Run.start _ _ _⟩
              case round =>
                obtain ⟨r, hr, rfl, hrun⟩ := hrel
                by_cases hrl : r < s.size
                · have hrl' : (r : Int) < s.size := by omega
                  by_cases e92 : s[r] = q
                  · have d92 : ((s[r].toNat : Int) == (q.toNat : Int)) = true := by rw [e92]; simp
                    have hrun2 := hrun.step hrl e92
                    clear e92
                    go_wp2
                    go_round
                    case rel => exact ⟨r + 1, by omega, by go_num, hrun2⟩
                    case measure => simp [intOf]; omega
                  · have d92 : ((s[r].toNat : Int) == (q.toNat : Int)) = false := ne_toNat e92
                    have hpr : p < r := by
                      rcases Nat.lt_or_eq_of_le hrun.1 with h | h
                      · exact h
                      · subst h; exact absurd HC.out e92
                    have hmx : Hid (∀ h : r < s.size, ¬ s[r] = q) := fun _ => e92
                    clear e92
                    go_wp2
                    go_meet
                    exact ⟨r, hpr, hr, rfl, hrun, hmx, rfl⟩
                · go_wp2
                  go_meet
                  exact ⟨r, by omega, hr, rfl, hrun, fun h => absurd h hrl, rfl⟩
            case rest =>
              obtain ⟨r, hpr, hr, rfl, hrun, hmx, rfl⟩ := hcut
              obtain ⟨d, hd⟩ : ∃ d, r - p = d := ⟨_, rfl⟩
              obtain ⟨m, hm⟩ : ∃ m, d / 2 = m := ⟨_, rfl⟩
              have e1 : (r : Int) - p = (d : Int) := by omega
              have e2 : (d : Int) / 2 = (m : Int) := by omega
              have HD : Hid (r - p = d ∧ d / 2 = m) := ⟨hd, hm⟩
              have dm : d ≤ 2 * m + 1 := by omega
              have dm2 : 2 * m ≤ d := by omega
              have drp : d + p ≤ r := by omega
              clear hd hm
              go_upto_block 8 with fail
              go_cut [10, 18] (fun v j wx => ∃ (a2 : Option Addr) (c2 : Nat), v = .slice a2 (n + m) c2 ∧ j = .int .i64 (m : Int) ∧ Ob w.heap.size a2 (n + m) c2 (acc ++ List.replicate m q) wx ∧ Below w.heap.size w wx)
              case first =>
                go_wp2
                go_loopw [10, 18] (fun v j wx => ∃ (k : Nat) (a2 : Option Addr) (c2 : Nat), k ≤ m ∧ v = .slice a2 (n + k) c2 ∧ j = .int .i64 (k : Int) ∧ Ob w.heap.size a2 (n + k) c2 (acc ++ List.replicate k q) wx ∧ Below w.heap.size w wx) (fun _ j _ => m - (intOf j).toNat)
                case atStart => exact ⟨0, a, c, Nat.zero_le _, rfl, rfl, by simpa using O, hb⟩
                case round =>
                  obtain ⟨k, a2, c2, hk, rfl, rfl, O2, hb2⟩ := hrel
                  by_cases hkm : k < m
                  · have hkm' : (k : Int) < m := by omega
                    go_wp2_with (at_builtin; refine app1 rfl (.tmp 104) (.tmp 106) rfl w.heap.size a2 (n + k) c2 _ rfl O2 q _ rfl rfl (by omega) hb2.size ?_)
                    intro a3 c3 w3 O3 B3
                    go_wp2
                    go_roundw
                    case rel => exact ⟨k + 1, a3, c3, by omega, rfl, by go_num, by rw [List.replicate_succ']; exact O3, hb2.trans B3⟩
                    case measure => simp [intOf]; omega
                  · obtain rfl : k = m := by omega
                    go_wp2
                    go_meet
                    exact ⟨a2, c2, rfl, rfl, O2, hb2⟩
              case rest =>
                clear O hb
                obtain ⟨a2, c2, rfl, rfl, O2, hb2⟩ := hcut
                have hsz2 := hb2.size
                by_cases hpar : d = 2 * m + 1
                · have hb1 : (((d : Int) % 2) == 1) = true := by simp; omega
                  have hdd : r - p = 2 * m + 1 := by rw [HD.out.1, hpar]
                  have J0 := quote_odd hq hj hrun m hdd hmx.out
                  have J : Hid (_ = _) := J0
                  have hst := strOf O2
                  clear hpar hdd e1 e2 HD J0
                  go_wp2
                  go_ret2
                  rw [J.out]
                  exact ⟨ret2 (by simp) (by have := hj.1; simp; omega), hb2⟩
                · have hb1 : (((d : Int) % 2) == 1) = false := by simp; omega
                  have hdd : r - p = 2 * m := by rw [HD.out.1]; omega
                  have J := quote_even hq hj hrun m hdd
                  clear hpar hdd e1 e2 HD
                  go_wp2
                  go_roundw
                  case rel => exact ⟨r, n + m, c2, a2, _, by omega, rfl, rfl, by omega, O2, J, hb2⟩
                  case measure => simp [intOf]; omega
        · have bq : ((s[p].toNat : Int) == (q.toNat : Int)) = false := ne_toNat cq
          have J := hj.step [s[p]] 1 (by rw [hcons, qd_other (fun h => c92 ⟨h.2.1, h.1⟩) cq]; rfl)
          clear cq hcons c92
          cases esc
          · clear b7
            go_wp2_with (at_builtin; refine app1 rfl (.tmp 115) (.tmp 117) rfl w.heap.size a n c _ rfl O s[p] _ rfl rfl (by omega) hsz ?_)
            intro a3 c3 w3 O3 B3
            go_wp2
            go_roundw
            case rel => exact ⟨p + 1, n + 1, c3, a3, _, by omega, by go_num, rfl, by omega, O3, J, hb.trans B3⟩
            case measure => simp [intOf]; omega
          · have b92 := b7 rfl
            clear b7
            go_wp2_with (at_builtin; refine app1 rfl (.tmp 115) (.tmp 117) rfl w.heap.size a n c _ rfl O s[p] _ rfl rfl (by omega) hsz ?_)
            intro a3 c3 w3 O3 B3
            go_wp2
            go_roundw
            case rel => exact ⟨p + 1, n + 1, c3, a3, _, by omega, by go_num, rfl, by omega, O3, J, hb.trans B3⟩
            case measure => simp [intOf]; omega
    · have hend := at_end s p (by omega)
      have J0 := hj.stop [] 0 (by rw [hend]; rfl)
      have J : Hid (_ = _) := J0
      have hpe : p = s.size := by omega
      have hst := strOf O
      subst hpe
      clear J0 hend
      go_wp2
      go_ret2
      rw [J.out]
      exact ⟨ret2 (by simp) (by have := hj.1; simp; omega), hb⟩
end Go.Proofs.Qxb6602070a
