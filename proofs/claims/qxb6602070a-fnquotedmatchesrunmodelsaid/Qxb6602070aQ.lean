import Derived.Test.Qxb6602070aP
namespace Go.Proofs.Qxb6602070a
open Go.RowKit

def At (s : ByteArray) (p : Nat) : List UInt8 := s.data.toList.drop p

theorem at_cons (s : ByteArray) (p : Nat) (h : p < s.size) : At s p = s[p] :: At s (p + 1) := by
  unfold At
  have h' : p < s.data.toList.length := by simpa using h
  rw [List.drop_eq_getElem_cons h']
  rfl
theorem at_end (s : ByteArray) (p : Nat) (h : s.size ≤ p) : At s p = [] := by
  unfold At; exact List.drop_eq_nil_of_le (by simpa using h)

/-- What stays to be read, joined to what has been read. -/
def Joined (esc : Bool) (q : UInt8) (s : ByteArray) (i0 p : Nat) (acc : List UInt8) : Prop :=
  i0 ≤ p ∧ qd esc q (At s i0) = (acc ++ (qd esc q (At s p)).1, (p - i0) + (qd esc q (At s p)).2)

theorem Joined.start (esc : Bool) (q : UInt8) (s : ByteArray) (i0 : Nat) : Joined esc q s i0 i0 [] := ⟨Nat.le_refl _, by simp⟩
theorem Joined.step {esc : Bool} {q : UInt8} {s : ByteArray} {i0 p : Nat} {acc : List UInt8} (h : Joined esc q s i0 p acc) (t : List UInt8) (n : Nat) (e : qd esc q (At s p) = (t ++ (qd esc q (At s (p + n))).1, (qd esc q (At s (p + n))).2 + n)) : Joined esc q s i0 (p + n) (acc ++ t) := by
  obtain ⟨h1, h2⟩ := h
  refine ⟨by omega, ?_⟩
  rw [h2, e]
  simp; omega
theorem Joined.stop {esc : Bool} {q : UInt8} {s : ByteArray} {i0 p : Nat} {acc : List UInt8} (h : Joined esc q s i0 p acc) (t : List UInt8) (n : Nat) (e : qd esc q (At s p) = (t, n)) : qd esc q (At s i0) = (acc ++ t, p - i0 + n) := by
  rw [h.2, e]

theorem ne_toNat {a b : UInt8} (h : ¬ a = b) : ((a.toNat : Int) == (b.toNat : Int)) = false := by
  simp only [beq_eq_false_iff_ne, ne_eq]
  intro e
  exact h (UInt8.toNat_inj.1 (by omega))
theorem ne_toNat' {a : UInt8} (h : ¬ a = 92) : ((a.toNat : Int) == 92) = false := ne_toNat (b := 92) h
theorem ret2 {a b : ByteArray} {m n : Int} (h1 : a = b) (h2 : m = n) : Ending.returned (.tuple #[.string a, .int .i64 m]) = .returned (.tuple #[.string b, .int .i64 n]) := by rw [h1, h2]

set_option maxRecDepth 1000000 in
set_option maxHeartbeats 1000000 in
theorem quotedC (s : ByteArray) (i : Nat) (esc : Bool) (w : World) (hi : i < s.size) (hs : s.size ≤ 9000000) (hq : ¬ s[i] = 92) :
    Calls Try.prog 12 #[.string s, .int .i64 (i : Int), .bool esc] w fun e w' => e = .returned (.tuple #[.string ⟨(qd esc s[i] (At s (i + 1))).1.toArray⟩, .int .i64 ((i : Int) + 1 + (qd esc s[i] (At s (i + 1))).2)]) ∧ Below w.heap.size w w' := by
  have HB : Bld w.heap.size w.heap.size [] (w.alloc (.cells #[.pointer none, .slice none 0 0] 30)) :=
    .inl ⟨Nat.le_refl _, .slice none 0 0, heap_alloc_new w _, World.ownsRow_nil _ _ _ _, by simp [Value.ownBlock]⟩
  obtain ⟨q, hqe⟩ : ∃ q, s[i] = q := ⟨_, rfl⟩
  rw [hqe] at hq ⊢
  go_enter Try.func12, Try.ntmps12
  go_wp2
  clear hqe
  go_loopw [1] (fun j wr => ∃ (p : Nat) (acc : List UInt8), p ≤ s.size ∧ j = .int .i64 (p : Int) ∧ acc.length ≤ p ∧ Bld w.heap.size w.heap.size acc wr ∧ Joined esc q s (i + 1) p acc ∧ Below w.heap.size w wr) (fun j _ => s.size - (intOf j).toNat)
  case atStart => exact ⟨i + 1, [], by omega, by go_num, by simp, HB, Joined.start _ _ _ _, (Below.refl _ _).alloc (Nat.le_refl _) _⟩
  case round =>
    clear HB
    obtain ⟨p, acc, hp, rfl, hal, hbl, hj, hb⟩ := hrel
    have hsz := hb.size
    by_cases hlt : p < s.size
    · have hcons := at_cons s p hlt
      by_cases c92 : s[p] = 92
      · have b92 : ((s[p].toNat : Int) == 92) = true := by rw [c92]; rfl
        have bq : ((s[p].toNat : Int) == (q.toNat : Int)) = false := by rw [c92]; exact ne_toNat (fun e => hq e.symm)
        cases esc
        · -- backslashes do not escape
          have J := hj.step [s[p]] 1 (by rw [hcons, qd_other (by simp) (by rw [c92]; exact fun e => hq e.symm)]; rfl)
          clear hcons c92
          go_wp2_with (go_at_call 13; refine (writeC _ _ acc s[p] _ hbl (by omega) hsz).mono ?_; rintro e w2 ⟨rfl, hbl2, hb2⟩)
          go_roundw
          case rel => exact ⟨p + 1, acc ++ [s[p]], by omega, by go_num, by simp; omega, hbl2, J, hb.trans hb2⟩
          case measure => simp [intOf]; omega
        · by_cases hb1 : p + 1 < s.size
          · have hcons2 := at_cons s (p + 1) hb1
            have hb1' : (p : Int) + 1 < s.size := by omega
            have J := hj.step [s[p + 1]] 2 (by rw [hcons, hcons2, c92, qd_esc]; rfl)
            clear hcons hcons2 c92
            go_wp2_with (go_at_call 13; refine (writeC _ _ acc s[p + 1] _ hbl (by omega) hsz).mono ?_; rintro e w2 ⟨rfl, hbl2, hb2⟩)
            go_roundw
            case rel => exact ⟨p + 2, acc ++ [s[p + 1]], by omega, by go_num, by simp; omega, hbl2, J, hb.trans hb2⟩
            case measure => simp [intOf]; omega
          · have hb1' : ¬ (p : Int) + 1 < s.size := by omega
            have hend := at_end s (p + 1) (by omega)
            have J := hj.step [s[p]] 1 (by rw [hcons, qd_other (by simp [hend]) (by rw [c92]; exact fun e => hq e.symm)]; rfl)
            clear hcons hend c92
            go_wp2_with (go_at_call 13; refine (writeC _ _ acc s[p] _ hbl (by omega) hsz).mono ?_; rintro e w2 ⟨rfl, hbl2, hb2⟩)
            go_roundw
            case rel => exact ⟨p + 1, acc ++ [s[p]], by omega, by go_num, by simp; omega, hbl2, J, hb.trans hb2⟩
            case measure => simp [intOf]; omega
      · have b92 : ((s[p].toNat : Int) == 92) = false := ne_toNat' c92
        by_cases cq : s[p] = q
        · have bq : ((s[p].toNat : Int) == (q.toNat : Int)) = true := by rw [cq]; simp
          by_cases hb1 : p + 1 < s.size
          · have hcons2 := at_cons s (p + 1) hb1
            have hb1' : (p : Int) + 1 < s.size := by omega
            by_cases dq : s[p + 1] = q
            · have bd : ((s[p + 1].toNat : Int) == (q.toNat : Int)) = true := by rw [dq]; simp
              have J := hj.step [q] 2 (by rw [hcons, hcons2, cq, dq, qd_qq (by simp [hq])]; rfl)
              clear hcons hcons2 c92 cq dq
              go_wp2_with (go_at_call 13; refine (writeC _ _ acc q _ hbl (by omega) hsz).mono ?_; rintro e w2 ⟨rfl, hbl2, hb2⟩)
              go_roundw
              case rel => exact ⟨p + 2, acc ++ [q], by omega, by go_num, by simp; omega, hbl2, J, hb.trans hb2⟩
              case measure => simp [intOf]; omega
            · have bd : ((s[p + 1].toNat : Int) == (q.toNat : Int)) = false := ne_toNat dq
              have J0 := hj.stop [] 1 (by rw [hcons, hcons2, cq, qd_close (by simp [hq]) dq])
              have J : Hid (_ = _) := J0
              clear J0 hcons hcons2 c92 cq dq
              go_wp2_with (go_at_call 14; refine (builder_String_any _ _ acc _ hbl hsz).mono ?_; rintro e w2 ⟨rfl, hb2⟩)
              go_ret2
              rw [J.out]
              exact ⟨ret2 (by simp) (by have := hj.1; simp; omega), hb.trans hb2⟩
          · have hb1' : ¬ (p : Int) + 1 < s.size := by omega
            have hend := at_end s (p + 1) (by omega)
            have J0 := hj.stop [] 1 (by rw [hcons, hend, cq, qd_one_q])
            have J : Hid (_ = _) := J0
            clear J0 hcons hend c92 cq
            go_wp2_with (go_at_call 14; refine (builder_String_any _ _ acc _ hbl hsz).mono ?_; rintro e w2 ⟨rfl, hb2⟩)
            go_ret2
            rw [J.out]
            exact ⟨ret2 (by simp) (by have := hj.1; simp; omega), hb.trans hb2⟩
        · have bq : ((s[p].toNat : Int) == (q.toNat : Int)) = false := ne_toNat cq
          have J := hj.step [s[p]] 1 (by rw [hcons, qd_other (by simp [c92]) cq]; rfl)
          clear hcons c92 cq
          go_wp2_with (go_at_call 13; refine (writeC _ _ acc s[p] _ hbl (by omega) hsz).mono ?_; rintro e w2 ⟨rfl, hbl2, hb2⟩)
          go_roundw
          case rel => exact ⟨p + 1, acc ++ [s[p]], by omega, by go_num, by simp; omega, hbl2, J, hb.trans hb2⟩
          case measure => simp [intOf]; omega
    · have hend := at_end s p (by omega)
      have J0 := hj.stop [] 0 (by rw [hend]; rfl)
      have J : Hid (_ = _) := J0
      clear J0 hend
      have hpe : p = s.size := by omega
      subst hpe
      go_wp2_with (go_at_call 14; refine (builder_String_any _ _ acc _ hbl hsz).mono ?_; rintro e w2 ⟨rfl, hb2⟩)
      go_ret2
      rw [J.out]
      exact ⟨ret2 (by simp) (by have := hj.1; simp; omega), hb.trans hb2⟩
end Go.Proofs.Qxb6602070a
