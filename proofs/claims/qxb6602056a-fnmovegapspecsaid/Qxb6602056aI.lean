import Derived.Test.Qxb6602056aH
namespace Go.Proofs.Qxb6602056a
open Go.RowKit

/-- Every newline of 'before' and 'after' at a move from gs down to pos, or from pos up to gs. -/
theorem nl_split (t : List Int) (L pos : Nat) (hL : t.length = L) : ∀ d, pos + d ≤ L → ∃ M : List Int, nlB t (pos + d) = nlB t pos ++ M ∧ nlA t (L - pos) = nlA t (L - (pos + d)) ++ M.reverse.map (fun x => (L : Int) - x) ∧ ∀ x ∈ M, (pos : Int) ≤ x ∧ x < (pos + d : Nat) := by
  intro d
  induction d with
  | zero => intro _; exact ⟨[], by simp, by simp, by simp⟩
  | succ d ih =>
    intro h
    obtain ⟨M, h1, h2, h3⟩ := ih (by omega)
    have e : L - (pos + d) = (L - (pos + (d + 1))) + 1 := by omega
    have ej : t.length - 1 - (L - (pos + (d + 1))) = pos + d := by omega
    by_cases hh : t.getD (pos + d) 0 = 10
    · refine ⟨M ++ [((pos + d : Nat) : Int)], ?_, ?_, ?_⟩
      · rw [show pos + (d + 1) = (pos + d) + 1 by omega, nlB_hit hh, h1, List.append_assoc]
      · rw [h2, e, nlA_hit (by rw [ej]; exact hh)]
        simp only [List.reverse_append, List.reverse_cons, List.reverse_nil, List.nil_append, List.map_cons, List.append_assoc, List.cons_append]
        congr 2
        omega
      · intro x hx
        rcases List.mem_append.1 hx with hx | hx
        · have := h3 x hx; omega
        · simp at hx; omega
    · refine ⟨M, ?_, ?_, ?_⟩
      · rw [show pos + (d + 1) = (pos + d) + 1 by omega, nlB_miss hh, h1]
      · rw [h2, e, nlA_miss (by rw [ej]; exact hh)]
      · intro x hx; have := h3 x hx; omega

theorem nlB_lt (t : List Int) : ∀ n, ∀ x ∈ nlB t n, 0 ≤ x ∧ x < (n : Int)
  | 0 => by simp [nlB]
  | n + 1 => by
    intro x hx
    have ih := nlB_lt t n
    simp only [nlB] at hx
    rcases List.mem_append.1 hx with hx | hx
    · have := ih x hx; omega
    · split at hx <;> simp at hx; omega
theorem nlA_lt (t : List Int) : ∀ n, ∀ x ∈ nlA t n, 1 ≤ x ∧ x ≤ (n : Int)
  | 0 => by simp [nlA]
  | n + 1 => by
    intro x hx
    have ih := nlA_lt t n
    simp only [nlA] at hx
    rcases List.mem_append.1 hx with hx | hx
    · have := ih x hx; omega
    · split at hx <;> simp at hx; omega

theorem parts_of {P M : List Int} {x : Int} (h1 : ∀ y ∈ P, y < x) (h2 : ∀ y ∈ M, x ≤ y) : Parts (P ++ M) P.length x := by
  refine ⟨by simp, fun i hi => ?_, fun i hi hl => ?_⟩
  · have : (P ++ M).getD i 0 = P[i] := by simp [List.getD, List.getElem?_append_left hi, hi]
    rw [this]; exact h1 _ (List.getElem_mem _)
  · have hl' : i - P.length < M.length := by simp at hl; omega
    have : (P ++ M).getD i 0 = M[i - P.length] := by simp [List.getD, List.getElem?_append_right hi, hl']
    rw [this]; have := h2 _ (List.getElem_mem hl'); omega

/-- What the loop has carried over after k rounds. -/
def carry (L : Nat) (D M : List Int) (k : Nat) : List Int := D ++ (M.reverse.take k).map (fun x => (L : Int) - x)

theorem carry_zero (L : Nat) (D M : List Int) : carry L D M 0 = D := by simp [carry]
theorem carry_all (L : Nat) (D M : List Int) : carry L D M M.length = D ++ M.reverse.map (fun x => (L : Int) - x) := by
  simp only [carry]; rw [List.take_of_length_le (by simp)]
theorem carry_succ (L : Nat) (D P M : List Int) (k : Nat) (h : k < M.length) : carry L D M (k + 1) = carry L D M k ++ [(L : Int) - (P ++ M).getD ((P ++ M).length - 1 - k) 0] := by
  have e : (P ++ M).getD ((P ++ M).length - 1 - k) 0 = M.reverse[k]'(by simpa using h) := by
    simp only [List.length_append, List.getD]
    rw [List.getElem?_append_right (by omega), List.getElem_reverse]
    simp [show P.length + M.length - 1 - k - P.length = M.length - 1 - k by omega, show M.length - 1 - k < M.length by omega]
  unfold carry
  rw [List.take_succ_eq_append_getElem (by simpa using h), List.map_append, e, List.append_assoc]
  rfl
theorem carry_len (L : Nat) (D M : List Int) (k : Nat) (h : k ≤ M.length) : (carry L D M k).length = D.length + k := by
  simp [carry]; omega

/-- The runes moved left. -/
theorem txt_left {zs : List Int} {len gs ge pos : Nat} (hl : zs.length = len) (h1 : gs ≤ ge) (h2 : ge ≤ len) (h3 : pos ≤ gs) :
    txt (splice zs (ge - (gs - pos)) ((zs.drop pos).take (gs - pos))) pos (ge - (gs - pos)) = txt zs gs ge := by
  have hX : ((zs.drop pos).take (gs - pos)).length = gs - pos := by simp; omega
  have ht : (zs.take (ge - (gs - pos))).length = ge - (gs - pos) := by simp; omega
  unfold splice txt
  rw [hX, List.take_append_of_le_length (by omega), List.take_take, Nat.min_eq_left (by omega), List.drop_append, ht, List.drop_eq_nil_of_le (by omega), Nat.sub_self, List.drop_zero, List.nil_append, ← List.append_assoc]
  rw [show ge - (gs - pos) + (gs - pos) = ge by omega]
  congr 1
  rw [← List.drop_take]
  have := List.take_append_drop pos (zs.take gs)
  rw [List.take_take, Nat.min_eq_left h3] at this
  exact this

theorem txt_right {zs : List Int} {len gs ge pos : Nat} (hl : zs.length = len) (h1 : gs ≤ ge) (h3 : gs ≤ pos) (h4 : ge + (pos - gs) ≤ len) :
    txt (splice zs gs ((zs.drop ge).take (pos - gs))) pos (ge + (pos - gs)) = txt zs gs ge := by
  have hX : ((zs.drop ge).take (pos - gs)).length = pos - gs := by simp; omega
  have ht : (zs.take gs).length = gs := by simp; omega
  have hcut := List.take_append_drop (pos - gs) (zs.drop ge)
  rw [List.drop_drop] at hcut
  unfold splice txt
  rw [← hcut]
  rw [hcut, hX, show gs + (pos - gs) = pos by omega]
  generalize (zs.drop ge).take (pos - gs) = X at hX hcut ⊢
  rw [← hcut]
  have hT : (zs.take gs ++ (X ++ zs.drop pos)).take pos = zs.take gs ++ X := by
    rw [← List.append_assoc, List.take_append_of_le_length (by simp [hX]; omega), List.take_of_length_le (by simp [hX]; omega)]
  have hD : (zs.take gs ++ (X ++ zs.drop pos)).drop (ge + (pos - gs)) = zs.drop (ge + (pos - gs)) := by
    rw [← List.append_assoc, List.drop_append, List.drop_eq_nil_of_le (by simp [hX]; omega), List.nil_append, List.drop_drop]
    congr 1
    simp [hX]; omega
  rw [hT, hD, List.append_assoc]

/-! ### append as one step of a region that draws, with the new array's place -/
/-- The address behind an append: the same array, or a new one. -/
def Near (a0 : Option Addr) (n : Nat) (a' : Option Addr) : Prop := ∀ ad', a' = some ad' → (∃ ad, a0 = some ad ∧ ad.block = ad'.block) ∨ n ≤ ad'.block

theorem run_app {P : Program} (w : World) (base : Nat) (t ty e : TypeId) (i : TypeInfo) (z : Value) (bytes : Nat) (ht : P.underlying t = some (.slice e)) (hi : P.info? e = some i) (hz : i.zero = some z)
    (hsize : i.size = 1) (hby : i.bytes = bytes) (hzs : z.cells.size = 1) (a0 : Option Addr) (n cap : Nat) (xs : List Value) (hown : w.ownsRow base e 1 (.slice a0 n cap) n xs)
    (ad : Addr) (c : Nat) (u : Value) (hnews : w.cell? ad = some u) (h1 : u.oneCell' = true) (h63 : n + 1 ≤ maxLen) (hbytes : (n + 1) * bytes ≤ 140737488355328) (hbase : base ≤ w.heap.size) :
    ∃ a' c' w', (Builtin.append_ #[t, t] ty #[.slice a0 n cap, .slice (some ad) 1 c]).run P w = .ok (.slice a' (n + 1) c') w' ∧ w'.ownsRow base e 1 (.slice a' (n + 1) c') (n + 1) (xs ++ [u]) ∧ w.grownBy w' (Value.ownBlock (.slice a0 n cap)) ∧ Near a0 w.heap.size a' := by
  have hn1 : ∀ j v, [u][j]? = some v → w.cell? (ad.add j) = some v := by
    intro j v hj
    match j, hj with
    | 0, hj => simp at hj; subst hj; simpa [Addr.add] using hnews
    | j + 1, hj => simp at hj
  obtain ⟨v', w', hr, ho, hg, -⟩ := run_append_own (P := P) w base t ty e i z 1 bytes ht hi hz hsize hby hzs (by decide) _ n xs hown ad 1 c [u] rfl hn1 (by intro v hv; simp at hv; subst hv; exact h1) h63 hbytes hbase
  obtain ⟨a', c', rfl⟩ := own_form ho
  refine ⟨a', c', w', hr, ho, hg, ?_⟩
  rintro ad' rfl
  rcases hown.2 with ⟨h0, hn0⟩ | ⟨g, cap', cur, hv, hbg, hgg, hnc, hcm, hcs, htake⟩
  · cases h0
    have hr' := run_append_nil (P := P) w t ty e i z ht hi hz ad 1 c [u] (by simp [hsize]) hn1 (by omega) (by decide) (by rw [hby]; omega)
    rw [hr'] at hr
    cases hr
    exact .inr (Nat.le_refl _)
  · cases hv
    by_cases hroom : n + 1 ≤ cap
    · have hr' := run_append_room (P := P) w t ty e i ht hi g n cap cur hgg ad 1 c [u] (by simp [hsize]) hn1 (by intro v hv; simp at hv; subst hv; exact h1) hroom (by rw [hsize, hcs]; simp; omega)
      rw [hr'] at hr
      cases hr
      exact .inl ⟨_, rfl, rfl⟩
    · have hr' := run_append_grow (P := P) w t ty e i z ht hi hz ⟨g, 0, none⟩ n cap xs (by rw [hown.1, hsize]) (hown.cells (g := g) rfl) ad 1 c [u] (by simp [hsize]) hn1 (by omega) (by unfold maxLen at h63; omega) (growslice_fits (by omega) (by rw [hby]; exact hbytes))
      rw [hr'] at hr
      cases hr
      exact .inr (Nat.le_refl _)

theorem step_app {P : Program} {ops : Array Oper} {o : Oper} {a : Act} {w : World} {K : Act → World → Prop} {Q : Exit → Act → World → Prop} {E : Prop} (hgd : o.guard = none) (s x : Operand) (t : TypeId)
    (ho : o.op = .call { callee := .builtin .append, args := #[s, x], argTypes := #[t, t] }) (base : Nat) (e : TypeId) (i : TypeInfo) (z : Value) (bytes : Nat) (ht : P.underlying t = some (.slice e)) (hi : P.info? e = some i) (hz : i.zero = some z)
    (hsize : i.size = 1) (hby : i.bytes = bytes) (hzs : z.cells.size = 1) (a0 : Option Addr) (n cap : Nat) (xs : List Value) (hs : a.eval s = .slice a0 n cap) (hown : w.ownsRow base e 1 (.slice a0 n cap) n xs)
    (ad : Addr) (c : Nat) (u : Value) (hx : a.eval x = .slice (some ad) 1 c) (hnews : w.cell? ad = some u) (h1 : u.oneCell' = true) (h63 : n + 1 ≤ maxLen) (hbytes : (n + 1) * bytes ≤ 140737488355328) (hbase : base ≤ w.heap.size)
    (h : ∀ a' c' w', w'.ownsRow base e 1 (.slice a' (n + 1) c') (n + 1) (xs ++ [u]) → w.grownBy w' (Value.ownBlock (.slice a0 n cap)) → Near a0 w.heap.size a' → K (a.put o.dst (.slice a' (n + 1) c')) w') :
    if Region.wanted o (yielded ops a.tmps) = true then Oper.wp P o a w K Q else E := by
  have hw : Region.wanted o (yielded ops a.tmps) = true := by simp [Region.wanted, hgd]
  rw [if_pos hw]
  obtain ⟨a', c', w', hrun, r1, r2, r3⟩ := run_app (P := P) w base t o.type e i z bytes ht hi hz hsize hby hzs a0 n cap xs hown ad c u hnews h1 h63 hbytes hbase
  unfold Oper.wp
  simp [execOp, ho, resolve, invoke, builtin, hs, hx, hrun, Result.andThen]
  exact h a' c' w' r1 r2 r3
end Go.Proofs.Qxb6602056a
