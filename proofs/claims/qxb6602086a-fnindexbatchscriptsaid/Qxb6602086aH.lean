import Derived.Test.Qxb6602086aF
namespace Go.Proofs.Qxb6602086a
open Go.RowKit

/-- The index 'es' holds, of the first k batches, the ones numbered S 0 < S 1 < .. < S (m - 1). -/
structure Sel (O P : Nat → Int) (k m : Nat) (S : Nat → Nat) (es : List (Int × Int)) : Prop where
  len : es.length = m
  pos : 0 < k → 0 < m
  le : m ≤ k
  zero : 0 < m → S 0 = 0
  lt : ∀ t, t < m → S t < k
  el : ∀ t, t < m → es.getD t (0, 0) = (O (S t), P (S t))
  up : ∀ t, t + 1 < m → S t < S (t + 1)
  gap : ∀ t, t + 1 < m → 65536 ≤ P (S (t + 1)) - P (S t)
  cov : ∀ t i, t < m → i < k → S t ≤ i → (t + 1 < m → i < S (t + 1)) → P i - P (S t) < 65536

theorem Sel.start (O P : Nat → Int) : Sel O P 0 0 (fun _ => 0) [] :=
  ⟨rfl, fun h => by omega, Nat.le_refl _, fun _ => rfl, fun t h => by omega, fun t h => by omega, fun t h => by omega, fun t h => by omega, fun t i h => by omega⟩

theorem wrap_in' (x : Int) (h1 : -9223372036854775808 ≤ x) (h2 : x ≤ 9223372036854775807) : wrap64 x = x := by
  unfold wrap64; omega
theorem getD_app' {l m : List (Int × Int)} {k : Nat} (h : k < l.length) : (l ++ m).getD k (0, 0) = l.getD k (0, 0) := by
  simp [List.getD, List.getElem?_append_left h]
theorem getD_end {l : List (Int × Int)} {e : Int × Int} {k : Nat} (h : l.length = k) : (l ++ [e]).getD k (0, 0) = e := by
  subst h; simp [List.getD]

theorem Sel.step {O P : Nat → Int} {n k m : Nat} {S : Nat → Nat} {es : List (Int × Int)} (h : Sel O P k m S es) (hk : k < n) (hP : ∀ i j, i < j → j < n → P i < P j) (h0 : 0 ≤ P 0) (hm : ∀ i, i < n → P i ≤ 9223372036854775807) :
    ∃ m' S', Sel O P (k + 1) m' S' (idxB es (O k) (P k)) := by
  have hnn : ∀ i, i < n → 0 ≤ P i := by
    intro i hi
    rcases Nat.eq_zero_or_pos i with rfl | hi0
    · exact h0
    · have := hP 0 i hi0 hi; omega
  by_cases hm0 : m = 0
  · obtain rfl : k = 0 := by
      rcases Nat.eq_zero_or_pos k with h1 | h1
      · exact h1
      · have := h.pos h1; omega
    have hes : es = [] := List.eq_nil_of_length_eq_zero (by rw [h.len, hm0])
    have e : idxB es (O 0) (P 0) = [(O 0, P 0)] := by rw [hes]; simp [idxB, near]
    rw [e]
    refine ⟨1, fun _ => 0, rfl, fun _ => by omega, by omega, fun _ => rfl, fun t _ => by omega, fun t ht => ?_, fun t ht => by omega, fun t ht => by omega, fun t i _ hi _ _ => ?_⟩
    · obtain rfl : t = 0 := by omega
      rfl
    · obtain rfl : i = 0 := by omega
      simp
  · have hl := h.len
    have hlast : (es.getD (es.length - 1) (0, 0)).2 = P (S (m - 1)) := by rw [hl, h.el (m - 1) (by omega)]
    have hsk := h.lt (m - 1) (by omega)
    have d1 := hP (S (m - 1)) k hsk hk
    have d2 := hnn (S (m - 1)) (by omega)
    have d3 := hm k hk
    have hw : wrap64 (P k - P (S (m - 1))) = P k - P (S (m - 1)) := wrap_in' _ (by omega) (by omega)
    have hne : ¬ es = [] := by rintro rfl; simp at hl; omega
    by_cases hn : P k - P (S (m - 1)) < 65536
    · have e : idxB es (O k) (P k) = es := by
        unfold idxB near; rw [hlast, hw]; simp [hne, hn]
      rw [e]
      refine ⟨m, S, hl, fun _ => by omega, Nat.le_succ_of_le h.le, h.zero, fun t ht => Nat.lt_succ_of_lt (h.lt t ht), h.el, h.up, h.gap, fun t i ht hi hs hn' => ?_⟩
      by_cases hik : i < k
      · exact h.cov t i ht hik hs hn'
      · obtain rfl : i = k := by omega
        have : ¬ t + 1 < m := fun ht' => by have := hn' ht'; have := h.lt (t + 1) ht'; omega
        obtain rfl : t = m - 1 := by omega
        exact hn
    · have e : idxB es (O k) (P k) = es ++ [(O k, P k)] := by
        unfold idxB near; rw [hlast, hw]; simp [hne, hn]
      rw [e]
      have sl : ∀ t, t < m → (if t = m then k else S t) = S t := fun t ht => if_neg (by omega)
      have sm : (if m = m then k else S m) = k := if_pos rfl
      refine ⟨m + 1, fun t => if t = m then k else S t, by simp [hl], fun _ => by omega, by have := h.le; omega, fun _ => ?_, fun t ht => ?_, fun t ht => ?_, fun t ht => ?_, fun t ht => ?_, fun t i ht hi hs hn' => ?_⟩
      · show (if 0 = m then k else S 0) = 0
        rw [sl 0 (by omega)]; exact h.zero (by omega)
      · show (if t = m then k else S t) < k + 1
        by_cases htm : t = m
        · subst htm; rw [sm]; omega
        · rw [sl t (by omega)]; have := h.lt t (by omega); omega
      · show _ = (O (if t = m then k else S t), P (if t = m then k else S t))
        by_cases htm : t = m
        · subst htm; rw [sm]; exact getD_end hl
        · rw [sl t (by omega), getD_app' (by omega)]; exact h.el t (by omega)
      · show (if t = m then k else S t) < (if t + 1 = m then k else S (t + 1))
        rw [sl t (by omega)]
        by_cases htm : t + 1 = m
        · rw [if_pos htm]; exact h.lt t (by omega)
        · rw [sl (t + 1) (by omega)]; exact h.up t (by omega)
      · show 65536 ≤ P (if t + 1 = m then k else S (t + 1)) - P (if t = m then k else S t)
        rw [sl t (by omega)]
        by_cases htm : t + 1 = m
        · rw [if_pos htm, show t = m - 1 by omega]; omega
        · rw [sl (t + 1) (by omega)]; exact h.gap t (by omega)
      · show P i - P (if t = m then k else S t) < 65536
        by_cases htm : t = m
        · subst htm
          rw [sm] at hs ⊢
          obtain rfl : i = k := by omega
          omega
        · rw [sl t (by omega)] at hs ⊢
          have hn2 := hn' (by omega)
          by_cases htm1 : t + 1 = m
          · rw [if_pos htm1] at hn2
            exact h.cov t i (by omega) hn2 hs (fun h' => by omega)
          · rw [sl (t + 1) (by omega)] at hn2
            exact h.cov t i (by omega) (by have := h.lt (t + 1) (by omega); omega) hs (fun _ => hn2)

theorem Sel.far {O P : Nat → Int} {k m : Nat} {S : Nat → Nat} {es : List (Int × Int)} (h : Sel O P k m S es) : ∀ t, t < m → 65536 * (t : Int) ≤ P (S t) - P 0
  | 0, ht => by rw [h.zero ht]; simp
  | t + 1, ht => by
    have := h.far t (by omega)
    have := h.gap t ht
    omega
theorem le_mono {P : Nat → Int} {n : Nat} (hP : ∀ i j, i < j → j < n → P i < P j) {i j : Nat} (h : i ≤ j) (hj : j < n) : P i ≤ P j := by
  rcases Nat.lt_or_eq_of_le h with h | rfl
  · have := hP i j h hj; omega
  · omega
theorem Sel.count {O P : Nat → Int} {n m : Nat} {S : Nat → Nat} {es : List (Int × Int)} (h : Sel O P n m S es) (h0 : 0 < m) (hP : ∀ i j, i < j → j < n → P i < P j) : 65536 * ((m : Int) - 1) ≤ P (n - 1) - P 0 := by
  have h1 := h.far (m - 1) (by omega)
  have h2 := h.lt (m - 1) (by omega)
  have h3 := le_mono hP (show S (m - 1) ≤ n - 1 by omega) (by omega)
  have h4 : ((m - 1 : Nat) : Int) = (m : Int) - 1 := by omega
  rw [h4] at h1
  omega
/-- Neighbours rise: all rise. -/
theorem rise {P : Nat → Int} {n : Nat} (h : ∀ j, 1 ≤ j → j < n → P (j - 1) < P j) : ∀ i j, i < j → j < n → P i < P j := by
  intro i j hij
  induction j with
  | zero => omega
  | succ j ih =>
    intro hj
    have h1 := h (j + 1) (by omega) hj
    simp at h1
    rcases Nat.lt_or_eq_of_le (show i ≤ j by omega) with h2 | rfl
    · have := ih h2 (by omega); omega
    · exact h1
end Go.Proofs.Qxb6602086a
