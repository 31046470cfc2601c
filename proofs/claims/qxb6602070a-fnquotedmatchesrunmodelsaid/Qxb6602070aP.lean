import Derived.Test.Qxb6602070aA
namespace Go.Proofs.Qxb6602070a

/-- What 'quoted' reads behind the opening quote: the text, and how many bytes it took. -/
def qd (esc : Bool) (q : UInt8) : List UInt8 → List UInt8 × Nat
  | [] => ([], 0)
  | [c] => if c = q then ([], 1) else ([c], 1)
  | c :: d :: r =>
    if c = 92 ∧ esc = true then (d :: (qd esc q r).1, (qd esc q r).2 + 2)
    else if c = q ∧ d = q then (q :: (qd esc q r).1, (qd esc q r).2 + 2)
    else if c = q then ([], 1)
    else (c :: (qd esc q (d :: r)).1, (qd esc q (d :: r)).2 + 1)

variable {esc : Bool} {q : UInt8}

theorem qd_nil : qd esc q [] = ([], 0) := rfl
theorem qd_one_q : qd esc q [q] = ([], 1) := by simp [qd]
theorem qd_one {c : UInt8} (h : ¬ c = q) : qd esc q [c] = ([c], 1) := by simp [qd, h]
theorem qd_esc {d : UInt8} {r : List UInt8} : qd true q (92 :: d :: r) = (d :: (qd true q r).1, (qd true q r).2 + 2) := by rw [qd]; simp
theorem qd_qq {r : List UInt8} (h : ¬ (q = 92 ∧ esc = true)) : qd esc q (q :: q :: r) = (q :: (qd esc q r).1, (qd esc q r).2 + 2) := by rw [qd, if_neg h]; simp
theorem qd_close {d : UInt8} {r : List UInt8} (h : ¬ (q = 92 ∧ esc = true)) (hd : ¬ d = q) : qd esc q (q :: d :: r) = ([], 1) := by rw [qd, if_neg h, if_neg (by simp [hd])]; simp
theorem qd_other {c : UInt8} {r : List UInt8} (h : ¬ (c = 92 ∧ esc = true ∧ r ≠ [])) (hc : ¬ c = q) : qd esc q (c :: r) = (c :: (qd esc q r).1, (qd esc q r).2 + 1) := by
  cases r with
  | nil => rw [qd_one hc]; rfl
  | cons d r => rw [qd, if_neg (by simpa using h), if_neg (by simp [hc]), if_neg hc]
/-- A quote that is not doubled. -/
theorem qd_q {r : List UInt8} (h : ¬ (q = 92 ∧ esc = true ∧ r ≠ [])) (hr : ∀ x, r.head? = some x → ¬ x = q) : qd esc q (q :: r) = ([], 1) := by
  cases r with
  | nil => exact qd_one_q
  | cons d r => exact qd_close (by simpa using h) (hr d rfl)

theorem qd_induct {motive : List UInt8 → Prop} (h0 : motive []) (h1 : ∀ c, motive [c]) (h2 : ∀ c d r, motive r → motive (d :: r) → motive (c :: d :: r)) : ∀ l, motive l
  | [] => h0
  | [c] => h1 c
  | c :: d :: r => h2 c d r (qd_induct h0 h1 h2 r) (qd_induct h0 h1 h2 (d :: r))

theorem qd_le (l : List UInt8) : (qd esc q l).2 ≤ l.length ∧ (qd esc q l).1.length ≤ (qd esc q l).2 := by
  induction l using qd_induct with
  | h0 => simp [qd]
  | h1 c => simp only [qd]; split <;> simp
  | h2 c d r ih1 ih2 =>
    simp only [qd]
    simp only [List.length_cons] at ih1 ih2 ⊢
    split
    · simp; omega
    · split
      · simp; omega
      · split
        · simp
        · simp; omega

/-- Where it ends ahead of the end of the text it has just read the quote. -/
theorem qd_last (l : List UInt8) : (qd esc q l).2 < l.length → 1 ≤ (qd esc q l).2 ∧ l[(qd esc q l).2 - 1]? = some q := by
  induction l using qd_induct with
  | h0 => simp
  | h1 c => simp only [qd]; split <;> simp
  | h2 c d r ih1 ih2 =>
    simp only [qd]
    split
    · intro h
      simp at h
      obtain ⟨e1, e2⟩ := ih1 (by omega)
      refine ⟨by simp, ?_⟩
      rw [show (qd esc q r).2 + 2 - 1 = ((qd esc q r).2 - 1) + 1 + 1 by omega, List.getElem?_cons_succ, List.getElem?_cons_succ]
      exact e2
    · split
      · intro h
        simp at h
        obtain ⟨e1, e2⟩ := ih1 (by omega)
        refine ⟨by simp, ?_⟩
        rw [show (qd esc q r).2 + 2 - 1 = ((qd esc q r).2 - 1) + 1 + 1 by omega, List.getElem?_cons_succ, List.getElem?_cons_succ]
        exact e2
      · split
        · intro h; exact ⟨Nat.le_refl _, by simpa⟩
        · intro h
          simp at h
          obtain ⟨e1, e2⟩ := ih2 (by simp; omega)
          refine ⟨by simp, ?_⟩
          rw [show (qd esc q (d :: r)).2 + 1 - 1 = ((qd esc q (d :: r)).2 - 1) + 1 by omega, List.getElem?_cons_succ]
          exact e2

/-- What it has not read does not matter. -/
theorem qd_take (l : List UInt8) : qd esc q (l.take (qd esc q l).2) = qd esc q l := by
  induction l using qd_induct with
  | h0 => rfl
  | h1 c => simp only [qd]; split <;> simp_all [qd]
  | h2 c d r ih1 ih2 =>
    by_cases h1 : c = 92 ∧ esc = true
    · have e : qd esc q (c :: d :: r) = (d :: (qd esc q r).1, (qd esc q r).2 + 2) := by rw [qd, if_pos h1]
      rw [e]
      simp only [List.take_succ_cons]
      rw [qd, if_pos h1, ih1]
    · by_cases h2 : c = q ∧ d = q
      · have e : qd esc q (c :: d :: r) = (q :: (qd esc q r).1, (qd esc q r).2 + 2) := by rw [qd, if_neg h1, if_pos h2]
        rw [e]
        simp only [List.take_succ_cons]
        rw [qd, if_neg h1, if_pos h2, ih1]
      · by_cases h3 : c = q
        · have e : qd esc q (c :: d :: r) = ([], 1) := by rw [qd, if_neg h1, if_neg h2, if_pos h3]
          rw [e]
          simp only [List.take_succ_cons, List.take_zero]
          rw [qd, if_pos h3]
        · have e : qd esc q (c :: d :: r) = (c :: (qd esc q (d :: r)).1, (qd esc q (d :: r)).2 + 1) := by rw [qd, if_neg h1, if_neg h2, if_neg h3]
          rw [e]
          simp only [List.take_succ_cons]
          rw [qd_other ?_ h3, ih2]
          intro h
          exact h1 ⟨h.1, h.2.1⟩

/-- A text written between quotes. -/
def enc (esc : Bool) (q : UInt8) : List UInt8 → List UInt8
  | [] => []
  | c :: r => (if c = q then [q, c] else if esc = true ∧ c = 92 then [92, c] else [c]) ++ enc esc q r

theorem qd_enc (hq : ¬ q = 92) (t rest : List UInt8) (hr : ∀ x, rest.head? = some x → ¬ x = q) : qd esc q (enc esc q t ++ q :: rest) = (t, (enc esc q t).length + 1) := by
  induction t with
  | nil =>
    simp only [enc, List.nil_append, List.length_nil, Nat.zero_add]
    exact qd_q (by simp [hq]) hr
  | cons c r ih =>
    simp only [enc]
    by_cases h1 : c = q
    · subst h1
      simp only [if_true, List.cons_append, List.nil_append]
      rw [qd_qq (by simp [hq]), ih]
      simp
    · rw [if_neg h1]
      by_cases h2 : esc = true ∧ c = 92
      · obtain ⟨rfl, rfl⟩ := h2
        simp only [and_self, if_true, List.cons_append, List.nil_append]
        rw [qd_esc, ih]
        simp
      · rw [if_neg h2]
        simp only [List.cons_append, List.nil_append]
        rw [qd_other (by intro h; exact h2 ⟨h.2.1, h.1⟩) h1, ih]
        simp
theorem enc_snoc (t : List UInt8) (c : UInt8) : enc esc q (t ++ [c]) = enc esc q t ++ (if c = q then [q, c] else if esc = true ∧ c = 92 then [92, c] else [c]) := by
  induction t with
  | nil => simp [enc]
  | cons x r ih => simp only [List.cons_append, enc, ih, List.append_assoc]
theorem enc_len (t : List UInt8) : (enc esc q t).length ≤ 2 * t.length := by
  induction t with
  | nil => simp [enc]
  | cons c r ih => simp only [enc, List.length_append, List.length_cons]; split <;> (try split) <;> simp <;> omega

/-- A run of backslashes that escape. -/
theorem qd_back (m : Nat) (r : List UInt8) : qd true q (List.replicate (2 * m) 92 ++ r) = (List.replicate m 92 ++ (qd true q r).1, 2 * m + (qd true q r).2) := by
  induction m with
  | zero => simp
  | succ m ih =>
    rw [show 2 * (m + 1) = 2 * m + 1 + 1 by omega, List.replicate_succ, List.replicate_succ, List.cons_append, List.cons_append, qd_esc, ih]
    simp [List.replicate_succ]; omega
theorem qd_quote (hq : ¬ q = 92) (m : Nat) (r : List UInt8) : qd esc q (List.replicate (2 * m) q ++ r) = (List.replicate m q ++ (qd esc q r).1, 2 * m + (qd esc q r).2) := by
  induction m with
  | zero => simp
  | succ m ih =>
    rw [show 2 * (m + 1) = 2 * m + 1 + 1 by omega, List.replicate_succ, List.replicate_succ, List.cons_append, List.cons_append, qd_qq (by simp [hq]), ih]
    simp [List.replicate_succ]; omega
end Go.Proofs.Qxb6602070a
