/-
  THE PLAIN LAW of the roll script: no Go in sight.
-/
namespace Go.Proofs.Qxb6601781a.RollMath

/-- The columns' stack from the bottom up (with the innermost last) after k columns. -/
def top (zs : List Int) : Nat → List Int
  | 0 => [-1]
  | k + 1 => if (top zs k).getLastD 0 < zs.getD k 0 then top zs k ++ [zs.getD k 0] else top zs k
/-- The steps at which something was pushed. -/
def lines (zs : List Int) : Nat → List Int
  | 0 => []
  | k + 1 => if (top zs k).getLastD 0 < zs.getD k 0 then lines zs k ++ [(k : Int)] else lines zs k
def ind (zs : List Int) (k : Nat) : Int := (top zs k).getLastD 0
def inds (zs : List Int) (k : Nat) : List Int := (top zs k).dropLast

theorem top_ne (zs : List Int) (k : Nat) : top zs k ≠ [] := by
  induction k with
  | zero => simp [top]
  | succ k ih => simp only [top]; split <;> simp [ih]

theorem top_split (zs : List Int) (k : Nat) : top zs k = inds zs k ++ [ind zs k] := by
  have h := List.dropLast_concat_getLast (top_ne zs k)
  rw [inds, ind]
  conv => lhs; rw [← h]
  congr 1
  rw [List.getLastD_eq_getLast?, List.getLast?_eq_some_getLast (top_ne zs k)]
  rfl

theorem ind_zero (zs : List Int) : ind zs 0 = -1 := rfl
theorem inds_zero (zs : List Int) : inds zs 0 = [] := rfl
theorem lines_zero (zs : List Int) : lines zs 0 = [] := rfl

theorem step_yes (zs : List Int) (k : Nat) (h : ind zs k < zs.getD k 0) : top zs (k + 1) = top zs k ++ [zs.getD k 0] ∧ ind zs (k + 1) = zs.getD k 0 ∧ inds zs (k + 1) = inds zs k ++ [ind zs k] ∧ lines zs (k + 1) = lines zs k ++ [(k : Int)] := by
  have e : top zs (k + 1) = top zs k ++ [zs.getD k 0] := by simp only [top]; exact if_pos h
  refine ⟨e, by rw [ind, e]; simp, by rw [inds, e, List.dropLast_concat]; exact top_split zs k, by simp only [lines]; exact if_pos h⟩
theorem step_no (zs : List Int) (k : Nat) (h : ¬ ind zs k < zs.getD k 0) : top zs (k + 1) = top zs k ∧ ind zs (k + 1) = ind zs k ∧ inds zs (k + 1) = inds zs k ∧ lines zs (k + 1) = lines zs k := by
  have e : top zs (k + 1) = top zs k := by simp only [top]; exact if_neg h
  exact ⟨e, by rw [ind, e, ind], by rw [inds, e, inds], by simp only [lines]; exact if_neg h⟩

theorem len_eq (zs : List Int) (k : Nat) : (inds zs k).length = (lines zs k).length ∧ (lines zs k).length ≤ k := by
  induction k with
  | zero => simp [inds, lines, top]
  | succ k ih =>
    by_cases h : ind zs k < zs.getD k 0
    · obtain ⟨_, _, h3, h4⟩ := step_yes zs k h
      rw [h3, h4]; simp; omega
    · obtain ⟨_, _, h3, h4⟩ := step_no zs k h
      rw [h3, h4]; omega

theorem top_len (zs : List Int) (k : Nat) : (top zs k).length = (lines zs k).length + 1 := by
  rw [top_split]; simp [(len_eq zs k).1]

theorem pref (zs : List Int) (k n : Nat) (h : k ≤ n) : (top zs k) <+: (top zs n) ∧ (lines zs k) <+: (lines zs n) := by
  induction n with
  | zero => obtain rfl : k = 0 := by omega
            exact ⟨List.prefix_refl _, List.prefix_refl _⟩
  | succ n ih =>
    by_cases e : k = n + 1
    · subst e; exact ⟨List.prefix_refl _, List.prefix_refl _⟩
    · obtain ⟨h1, h2⟩ := ih (by omega)
      by_cases hp : ind zs n < zs.getD n 0
      · obtain ⟨e1, _, _, e4⟩ := step_yes zs n hp
        rw [e1, e4]
        exact ⟨h1.trans (List.prefix_append _ _), h2.trans (List.prefix_append _ _)⟩
      · obtain ⟨e1, _, _, e4⟩ := step_no zs n hp
        rw [e1, e4]
        exact ⟨h1, h2⟩

theorem getD_pref {l l' : List Int} (h : l <+: l') (i : Nat) (hi : i < l.length) : l'.getD i 0 = l.getD i 0 := by
  obtain ⟨t, rfl⟩ := h
  simp [List.getD, List.getElem?_append_left hi]

theorem top_head (zs : List Int) (n : Nat) : (top zs n).getD 0 0 = -1 := by
  rw [getD_pref (pref zs 0 n (by omega)).1 0 (by simp [top])]
  rfl

theorem last_getD (zs : List Int) (k : Nat) : (top zs k).getD (lines zs k).length 0 = ind zs k := by
  rw [top_split]
  have := (len_eq zs k).1
  simp [List.getD, ← this]

theorem rising (zs : List Int) (n : Nat) (j : Nat) (h1 : 1 ≤ j) (h2 : j ≤ (lines zs n).length) : (top zs n).getD (j - 1) 0 < (top zs n).getD j 0 := by
  induction n with
  | zero => simp [lines] at h2; omega
  | succ n ih =>
    have hl := top_len zs n
    by_cases hp : ind zs n < zs.getD n 0
    · obtain ⟨e1, _, _, e4⟩ := step_yes zs n hp
      rw [e4] at h2
      simp at h2
      by_cases hj : j ≤ (lines zs n).length
      · have := ih hj
        rw [e1]
        rw [getD_pref (l := top zs n) (List.prefix_append _ _) _ (by omega), getD_pref (l := top zs n) (List.prefix_append _ _) _ (by omega)]
        exact this
      · obtain rfl : j = (lines zs n).length + 1 := by omega
        rw [e1]
        rw [getD_pref (l := top zs n) (List.prefix_append _ _) _ (by omega)]
        rw [show (lines zs n).length + 1 - 1 = (lines zs n).length from by omega, last_getD]
        rw [← hl]
        simpa [List.getD] using hp
    · obtain ⟨e1, _, _, e4⟩ := step_no zs n hp
      rw [e1]
      exact ih (by rw [e4] at h2; exact h2)

/-- At a step that pushes: the final lists bear it. -/
theorem at_push (zs : List Int) (k n : Nat) (hk : k < n) (h : ind zs k < zs.getD k 0) :
    (lines zs k).length < (lines zs n).length ∧ (lines zs n).getD (lines zs k).length 0 = (k : Int) ∧ (top zs n).getD ((lines zs k).length + 1) 0 = zs.getD k 0 := by
  obtain ⟨e1, _, _, e4⟩ := step_yes zs k h
  obtain ⟨p1, p2⟩ := pref zs (k + 1) n (by omega)
  have hl := top_len zs k
  have hlen := p2.length_le
  rw [e4] at hlen
  simp at hlen
  refine ⟨by omega, ?_, ?_⟩
  · rw [getD_pref p2 _ (by rw [e4]; simp), e4]
    simp [List.getD]
  · rw [getD_pref p1 _ (by rw [e1]; simp; omega), e1, ← hl]
    simp [List.getD]

end Go.Proofs.Qxb6601781a.RollMath
