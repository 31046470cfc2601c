import Derived.Test.Qxb6602070aT
namespace Go.Proofs.Qxb6602070a
open Go.RowKit

section
variable (pre text rest : ByteArray) (q : UInt8) (esc : Bool) (w : World)

set_option maxRecDepth 1000000 in
set_option maxHeartbeats 400000 in
theorem rtEarly (m0 : pre.size ≤ maxLen) (m1 : text.size ≤ maxLen) (m2 : rest.size ≤ maxLen) (h : ¬ (zz3 pre.size text.size rest.size = true ∧ pre.size ≤ 262144 ∧ text.size ≤ 262144 ∧ rest.size ≤ 262144 ∧ isQ q = true)) :
    Calls Try.prog 4 #[.string pre, .string text, .string rest, .int .u8 (q.toNat : Int), .bool esc] w fun e w' => e = .returned (.bool true) ∧ Below w.heap.size w w' := by
  by_cases h1 : zz3 pre.size text.size rest.size = true
  · by_cases g0 : (262144 : Int) < pre.size
    · clear h
      go_enter Try.func4, Try.ntmps4
      go_wp2_with (go_at_call 10; refine (zz10 _ _ _ _ _ _ m0 m1 m2).mono ?_; rintro e w' ⟨rfl, rfl⟩)
      go_ret
      exact ⟨rfl, Below.refl _ _⟩
    by_cases g1 : (262144 : Int) < text.size
    · clear h
      go_enter Try.func4, Try.ntmps4
      go_wp2_with (go_at_call 10; refine (zz10 _ _ _ _ _ _ m0 m1 m2).mono ?_; rintro e w' ⟨rfl, rfl⟩)
      go_ret
      exact ⟨rfl, Below.refl _ _⟩
    by_cases g2 : (262144 : Int) < rest.size
    · clear h
      go_enter Try.func4, Try.ntmps4
      go_wp2_with (go_at_call 10; refine (zz10 _ _ _ _ _ _ m0 m1 m2).mono ?_; rintro e w' ⟨rfl, rfl⟩)
      go_ret
      exact ⟨rfl, Below.refl _ _⟩
    have hq : isQ q = false := by
      cases hq : isQ q
      · rfl
      · exact absurd ⟨h1, by omega, by omega, by omega, hq⟩ h
    clear h
    go_enter Try.func4, Try.ntmps4
    go_wp2_with (first | (go_at_call 10; refine (zz10 _ _ _ _ _ _ m0 m1 m2).mono ?_; rintro e w' ⟨rfl, rfl⟩) | (go_at_call 7; refine (isQuoteC q _).mono ?_; rintro e w' ⟨rfl, rfl⟩))
    go_ret
    exact ⟨rfl, Below.refl _ _⟩
  · have h1' : zz3 pre.size text.size rest.size = false := by simpa using h1
    clear h h1
    go_enter Try.func4, Try.ntmps4
    go_wp2_with (go_at_call 10; refine (zz10 _ _ _ _ _ _ m0 m1 m2).mono ?_; rintro e w' ⟨rfl, rfl⟩)
    go_ret
    exact ⟨rfl, Below.refl _ _⟩

set_option maxRecDepth 1000000 in
set_option maxHeartbeats 400000 in
theorem rtEarly2 (m0 : pre.size ≤ maxLen) (m1 : text.size ≤ maxLen) (m2 : rest.size ≤ maxLen) (h1 : zz3 pre.size text.size rest.size = true) (g0 : pre.size ≤ 262144) (g1 : text.size ≤ 262144) (g2 : rest.size ≤ 262144) (hq : isQ q = true) (hr : 0 < rest.size) (he : rest[0] = q) :
    Calls Try.prog 4 #[.string pre, .string text, .string rest, .int .u8 (q.toNat : Int), .bool esc] w fun e w' => e = .returned (.bool true) ∧ Below w.heap.size w w' := by
  have hb : ((rest[0].toNat : Int) == (q.toNat : Int)) = true := by rw [he]; simp
  clear he
  go_enter Try.func4, Try.ntmps4
  go_wp2_with (first | (go_at_call 10; refine (zz10 _ _ _ _ _ _ m0 m1 m2).mono ?_; rintro e w' ⟨rfl, rfl⟩) | (go_at_call 7; refine (isQuoteC q _).mono ?_; rintro e w' ⟨rfl, rfl⟩))
  go_ret
  exact ⟨rfl, Below.refl _ _⟩

/-- What has been written when k bytes of the text are in. -/
def wrt (k : Nat) : List UInt8 := (pre.data.toList ++ [q]) ++ enc esc q (text.data.toList.take k)

theorem wrt_succ (k : Nat) (h : k < text.size) : wrt pre text q esc (k + 1) = wrt pre text q esc k ++ (if text[k] = q then [q, text[k]] else if esc = true ∧ text[k] = 92 then [92, text[k]] else [text[k]]) := by
  unfold wrt
  rw [List.take_succ_eq_append_getElem (by simpa using h), enc_snoc, List.append_assoc, List.append_assoc, List.append_assoc]
  rfl
theorem wrt_len (k : Nat) : (wrt pre text q esc k).length ≤ pre.size + 1 + 2 * k := by
  have := enc_len (esc := esc) (q := q) (text.data.toList.take k)
  have h2 : (text.data.toList.take k).length ≤ k := List.length_take_le _ _
  unfold wrt
  simp only [List.length_append, List.length_cons, List.length_nil, Array.length_toList]
  have : pre.data.size = pre.size := rfl
  omega

theorem rt_call (n : Nat) (w4 : World) (g0 : pre.size ≤ 262144) (g1 : text.size ≤ 262144) (g2 : rest.size ≤ 262144) (hq : ¬ q = 92) (hr : ∀ h : 0 < rest.size, ¬ rest[0] = q) (hn : (wrt pre text q esc text.size).length = n) :
    Calls Try.prog 8 #[.string ⟨(wrt pre text q esc text.size ++ q :: rest.data.toList).toArray⟩, .int .i64 (pre.size : Int), .bool esc] w4 fun e w' => e = .returned (.tuple #[.string text, .int .i64 ((n : Int) + 1)]) ∧ Below w4.heap.size w4 w' := by
  have htk : text.data.toList.take text.size = text.data.toList := List.take_of_length_le (by simp)
  have hps : pre.data.toList.length = pre.size := by simp
  have hw : wrt pre text q esc text.size ++ q :: rest.data.toList = pre.data.toList ++ (q :: (enc esc q text.data.toList ++ q :: rest.data.toList)) := by
    unfold wrt; rw [htk]; simp
  have hel := enc_len (esc := esc) (q := q) text.data.toList
  have hts : text.data.toList.length = text.size := by simp
  have hrs : rest.data.toList.length = rest.size := by simp
  have hn' : n = pre.size + 1 + (enc esc q text.data.toList).length := by
    rw [← hn]; unfold wrt; rw [htk]; simp; omega
  have hsz : (⟨(wrt pre text q esc text.size ++ q :: rest.data.toList).toArray⟩ : ByteArray).size = pre.size + (1 + ((enc esc q text.data.toList).length + (1 + rest.size))) := by
    show (wrt pre text q esc text.size ++ q :: rest.data.toList).toArray.size = _
    rw [hw]; simp [hrs, hps]; omega
  have hi : pre.size < (⟨(wrt pre text q esc text.size ++ q :: rest.data.toList).toArray⟩ : ByteArray).size := by omega
  have hat : (⟨(wrt pre text q esc text.size ++ q :: rest.data.toList).toArray⟩ : ByteArray)[pre.size] = q := by
    show (wrt pre text q esc text.size ++ q :: rest.data.toList).toArray[pre.size]'(hi) = q
    simp only [hw, List.getElem_toArray]
    rw [List.getElem_append_right (by omega)]
    simp [hps]
  have hAt : At (⟨(wrt pre text q esc text.size ++ q :: rest.data.toList).toArray⟩ : ByteArray) (pre.size + 1) = enc esc q text.data.toList ++ q :: rest.data.toList := by
    unfold At
    show ((wrt pre text q esc text.size ++ q :: rest.data.toList).toArray.toList).drop (pre.size + 1) = _
    rw [hw, List.toList_toArray, List.drop_append, List.drop_eq_nil_of_le (by omega), hps, Nat.add_sub_cancel_left]; rfl
  have hC := zzquotedC _ pre.size esc text.data.toList ((enc esc q text.data.toList).length + 1) w4 hi (by omega) (by rw [hat]; exact hq) (by
    rw [hat, hAt]
    refine qd_enc hq _ _ ?_
    intro x hx e
    have h0 : 0 < rest.size := by
      rw [← hrs]; cases hh : rest.data.toList with
      | nil => rw [hh] at hx; cases hx
      | cons a b => simp
    apply hr h0
    rw [← e]
    have : rest.data.toList.head? = some rest[0] := by
      rw [List.head?_eq_getElem?, List.getElem?_eq_getElem (by omega)]; rfl
    rw [this] at hx; exact Option.some.inj hx)
  have e1 : (⟨text.data.toList.toArray⟩ : ByteArray) = text := by simp
  rw [e1, show (pre.size : Int) + 1 + ((enc esc q text.data.toList).length + 1 : Nat) = (n : Int) + 1 by omega] at hC
  exact hC

set_option maxRecDepth 1000000 in
set_option maxHeartbeats 1000000 in
theorem rtMain (m0 : pre.size ≤ maxLen) (m1 : text.size ≤ maxLen) (m2 : rest.size ≤ maxLen) (h1 : zz3 pre.size text.size rest.size = true) (g0 : pre.size ≤ 262144) (g1 : text.size ≤ 262144) (g2 : rest.size ≤ 262144) (hq : isQ q = true) (hr : ∀ h : 0 < rest.size, ¬ rest[0] = q) :
    Calls Try.prog 4 #[.string pre, .string text, .string rest, .int .u8 (q.toNat : Int), .bool esc] w fun e w' => e = .returned (.bool true) ∧ Below w.heap.size w w' := by
  have hb : ∀ h : 0 < rest.size, ((rest[0].toNat : Int) == (q.toNat : Int)) = false := fun h => ne_toNat (hr h)
  have HR : Hid (∀ h : 0 < rest.size, ¬ rest[0] = q) := hr
  clear hr
  have O0 : Ob w.heap.size none 0 0 [] w := World.ownsRow_nil _ _ _ _
  by_cases hr0 : 0 < rest.size
  all_goals
    (try (have hb0 := hb hr0))
    clear hb
    go_enter Try.func4, Try.ntmps4
    go_wp2_with (first | (go_at_call 10; refine (zz10 _ _ _ _ _ _ m0 m1 m2).mono ?_; rintro e w' ⟨rfl, rfl⟩) | (go_at_call 7; refine (isQuoteC q _).mono ?_; rintro e w' ⟨rfl, rfl⟩) | (at_builtin; refine appS rfl (.tmp 49) (.tmp 50) rfl w.heap.size none 0 0 [] rfl O0 pre rfl (by omega) (by omega) (Nat.le_refl _) ?_))
    intro a1 c1 w1 O1 B1
    clear O0
    go_wp2_with (at_builtin; refine app1 rfl (.tmp 52) (.tmp 54) rfl w.heap.size a1 pre.size c1 pre.data.toList rfl O1 q _ rfl rfl (by omega) B1.size ?_)
    intro a2 c2 w2 O2 B2
    have B12 := B1.trans B2
    clear O1 B1 B2
    go_wp2
    go_loopw [11, 12] (fun v i wr => ∃ (k n c : Nat) (a' : Option Addr), k ≤ text.size ∧ i = .int .i64 (k : Int) ∧ v = .slice a' n c ∧ n ≤ pre.size + 1 + 2 * k ∧ Ob w.heap.size a' n c (wrt pre text q esc k) wr ∧ Below w.heap.size w wr) (fun _ i _ => text.size - (intOf i).toNat)
    case atStart => exact ⟨0, pre.size + 1, c2, a2, Nat.zero_le _, rfl, rfl, by omega, by simpa [wrt, enc] using O2, B12⟩
    case round =>
      clear O2 B12
      obtain ⟨k, n, c, a', hk, rfl, rfl, hn, O, B⟩ := hrel
      have hsz := B.size
      by_cases hlt : k < text.size
      · have hw := wrt_succ pre text q esc k hlt
        by_cases cq : text[k] = q
        · have bq : ((text[k].toNat : Int) == (q.toNat : Int)) = true := by rw [cq]; simp
          rw [if_pos cq] at hw
          have HW : Hid (wrt pre text q esc (k + 1) = wrt pre text q esc k ++ [q, text[k]]) := hw
          clear hw cq
          go_wp2_with (at_builtin; refine app1 rfl (.tmp 68) (.tmp 70) rfl w.heap.size a' n c (wrt pre text q esc k) rfl O q _ rfl rfl (by omega) hsz ?_)
          intro a3 c3 w3 O3 B3
          clear O
          go_wp2_with (at_builtin; refine app1 rfl (.tmp 80) (.tmp 82) rfl w.heap.size a3 (n + 1) c3 (wrt pre text q esc k ++ [q]) rfl O3 text[k] _ rfl rfl (by omega) (Nat.le_trans hsz B3.size) ?_)
          intro a4 c4 w4 O4 B4
          clear O3
          go_wp2
          go_roundw
          case rel => exact ⟨k + 1, n + 2, c4, a4, by omega, by go_num, rfl, by omega, by rw [HW.out]; simpa using O4, B.trans (B3.trans B4)⟩
          case measure => simp [intOf]; omega
        · have bq : ((text[k].toNat : Int) == (q.toNat : Int)) = false := ne_toNat cq
          rw [if_neg cq] at hw
          by_cases c92 : text[k] = 92
          · have b92 : ((text[k].toNat : Int) == 92) = true := by rw [c92]; rfl
            cases esc
            · rw [if_neg (by simp)] at hw
              have HW : Hid (wrt pre text q false (k + 1) = wrt pre text q false k ++ [text[k]]) := hw
              clear hw cq c92
              go_wp2_with (at_builtin; refine app1 rfl (.tmp 80) (.tmp 82) rfl w.heap.size a' n c (wrt pre text q false k) rfl O text[k] _ rfl rfl (by omega) hsz ?_)
              intro a4 c4 w4 O4 B4
              clear O
              go_wp2
              go_roundw
              case rel => exact ⟨k + 1, n + 1, c4, a4, by omega, by go_num, rfl, by omega, by rw [HW.out]; exact O4, B.trans B4⟩
              case measure => simp [intOf]; omega
            · rw [if_pos ⟨rfl, c92⟩] at hw
              have HW : Hid (wrt pre text q true (k + 1) = wrt pre text q true k ++ [92, text[k]]) := hw
              clear hw cq c92
              go_wp2_with (at_builtin; refine app1 rfl (.tmp 77) (.tmp 78) rfl w.heap.size a' n c (wrt pre text q true k) rfl O 92 _ rfl rfl (by omega) hsz ?_)
              intro a3 c3 w3 O3 B3
              clear O
              go_wp2_with (at_builtin; refine app1 rfl (.tmp 80) (.tmp 82) rfl w.heap.size a3 (n + 1) c3 (wrt pre text q true k ++ [92]) rfl O3 text[k] _ rfl rfl (by omega) (Nat.le_trans hsz B3.size) ?_)
              intro a4 c4 w4 O4 B4
              clear O3
              go_wp2
              go_roundw
              case rel => exact ⟨k + 1, n + 2, c4, a4, by omega, by go_num, rfl, by omega, by rw [HW.out]; simpa using O4, B.trans (B3.trans B4)⟩
              case measure => simp [intOf]; omega
          · have b92 : ((text[k].toNat : Int) == 92) = false := ne_toNat' c92
            rw [if_neg (by simp [c92])] at hw
            have HW : Hid (wrt pre text q esc (k + 1) = wrt pre text q esc k ++ [text[k]]) := hw
            clear hw cq c92
            cases esc
            all_goals
              go_wp2_with (at_builtin; refine app1 rfl (.tmp 80) (.tmp 82) rfl w.heap.size a' n c _ rfl O text[k] _ rfl rfl (by omega) hsz ?_)
              intro a4 c4 w4 O4 B4
              go_wp2
              go_roundw
              case rel => exact ⟨k + 1, n + 1, c4, a4, by omega, by go_num, rfl, by omega, by rw [HW.out]; exact O4, B.trans B4⟩
              case measure => simp [intOf]; omega
      · have hkt : k = text.size := by omega
        subst hkt
        go_wp2_with (at_builtin; refine app1 rfl (.tmp 84) (.tmp 86) rfl w.heap.size a' n c (wrt pre text q esc text.size) rfl O q _ rfl rfl (by omega) hsz ?_)
        intro a3 c3 w3 O3 B3
        go_wp2_with (at_builtin; refine appS rfl (.tmp 90) (.tmp 91) rfl w.heap.size a3 (n + 1) c3 (wrt pre text q esc text.size ++ [q]) rfl O3 rest rfl (by omega) (by omega) (Nat.le_trans hsz B3.size) ?_)
        intro a4 c4 w4 O4 B4
        have hst := strOf O4
        have hC := rt_call pre text rest q esc n w4 (by omega) (by omega) (by omega) (isQ_ne hq) HR.out O.len
        clear O O3
        go_wp2_with fail
        refine hC.mono ?_
        rintro e w5 ⟨rfl, B5⟩
        go_wp2
        go_ret
        exact ⟨rfl, (B.trans (B3.trans B4)).trans (B5.mono (B.trans (B3.trans B4)).size)⟩
end
end Go.Proofs.Qxb6602070a
