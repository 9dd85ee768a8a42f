/-
  PLAIN MATHEMATICS of adapt: no Go in sight.
-/
namespace Go.Proofs.Qxb6602111a.Am

def steps : Nat → Int → Nat
  | 0, _ => 0
  | f + 1, d => if 455 < d then steps f (d / 35) + 1 else 0

/-- How often d is divided. -/
def M (d : Int) : Nat := steps 64 d
/-- delta behind the damping. -/
def damped (delta points : Int) (first : Bool) : Int :=
  (if first then delta / 700 else delta / 2) + (if first then delta / 700 else delta / 2) / points
def adaptF (delta points : Int) (first : Bool) : Int :=
  36 * (M (damped delta points first) : Int) + 36 * (damped delta points first / 35 ^ M (damped delta points first)) / (damped delta points first / 35 ^ M (damped delta points first) + 38)

theorem pow_pos' (i : Nat) : (0 : Int) < 35 ^ i := Int.pow_pos (by decide)

theorem div_succ (d : Int) (i : Nat) : d / 35 ^ (i + 1) = d / 35 ^ i / 35 := by
  rw [Int.pow_succ, Int.ediv_ediv_of_nonneg (Int.le_of_lt (pow_pos' i))]

theorem div_succ' (d : Int) (i : Nat) : d / 35 ^ (i + 1) = d / 35 / 35 ^ i := by
  rw [Int.pow_succ, Int.mul_comm, Int.ediv_ediv_of_nonneg (by decide)]

theorem steps_gt (f : Nat) : ∀ (d : Int) (j : Nat), j < steps f d → 455 < d / 35 ^ j := by
  induction f with
  | zero => intro d j h; simp [steps] at h
  | succ f ih =>
    intro d j h
    simp only [steps] at h
    split at h
    · cases j with
      | zero => simpa using ‹455 < d›
      | succ j => rw [div_succ']; exact ih _ j (by omega)
    · omega

theorem steps_le (f : Nat) : ∀ (d : Int), d < 456 * 35 ^ f → d / 35 ^ steps f d ≤ 455 := by
  induction f with
  | zero => intro d h; simp [steps] at h ⊢; omega
  | succ f ih =>
    intro d h
    simp only [steps]
    split
    · rw [div_succ']
      apply ih
      have h' : d < (456 * 35 ^ f) * 35 := by rw [Int.mul_assoc, ← Int.pow_succ]; exact h
      exact Int.ediv_lt_of_lt_mul (by decide) h'
    · simp; omega

theorem steps_fuel (f : Nat) : ∀ d : Int, steps f d ≤ f := by
  induction f with
  | zero => intro d; simp [steps]
  | succ f ih => intro d; simp only [steps]; split
                 · have := ih (d / 35); omega
                 · omega
theorem M_64 (d : Int) : M d ≤ 64 := steps_fuel 64 d

theorem M_gt (d : Int) (j : Nat) (h : j < M d) : 455 < d / 35 ^ j := steps_gt 64 d j h
theorem M_le (d : Int) (h : d ≤ 9223372036854775807) : d / 35 ^ M d ≤ 455 := steps_le 64 d (by omega)

theorem lt_M (d : Int) (h : d ≤ 9223372036854775807) (i : Nat) (hi : i ≤ M d) (hd : 455 < d / 35 ^ i) : i < M d := by
  have := M_le d h
  rcases Nat.lt_or_ge i (M d) with h1 | h1
  · exact h1
  · obtain rfl : i = M d := by omega
    omega
theorem eq_M (d : Int) (i : Nat) (hi : i ≤ M d) (hd : ¬ 455 < d / 35 ^ i) : i = M d := by
  rcases Nat.lt_or_ge i (M d) with h1 | h1
  · exact absurd (M_gt d i h1) hd
  · omega

/-- d reaches the i-th threshold. -/
theorem thr_iff (d : Int) (i : Nat) : 456 * 35 ^ i ≤ d ↔ 455 < d / 35 ^ i := by
  have hp := pow_pos' i
  rw [← Int.le_ediv_iff_mul_le hp]
  omega

theorem div_nonneg' (d : Int) (h : 0 ≤ d) (i : Nat) : 0 ≤ d / 35 ^ i := Int.ediv_nonneg h (Int.le_of_lt (pow_pos' i))

theorem div_le' (d : Int) (h : 0 ≤ d) (i : Nat) : d / 35 ^ i ≤ d := Int.ediv_le_self _ h

theorem damped_bd (delta points : Int) (first : Bool) (h0 : 0 ≤ delta) (h1 : delta ≤ 9223372036854775807) (hp : 1 ≤ points) : 0 ≤ damped delta points first ∧ damped delta points first ≤ 9223372036854775807 := by
  have key : ∀ q : Int, 0 ≤ q → q ≤ 4611686018427387903 → 0 ≤ q + q / points ∧ q + q / points ≤ 9223372036854775807 := by
    intro q q0 q1
    have a1 : 0 ≤ q / points := Int.ediv_nonneg q0 (by omega)
    have a2 : q / points ≤ q := Int.ediv_le_self _ q0
    omega
  unfold damped
  cases first
  · simp only [Bool.false_eq_true, if_false]; exact key _ (by omega) (by omega)
  · simp only [if_true]; exact key _ (by omega) (by omega)

/-- The floor counted by its own inequalities. -/
def cnt (e : Int) : Nat → Nat
  | 0 => 0
  | n + 1 => if 38 * ((n : Int) + 1) ≤ e * (36 - ((n : Int) + 1)) then cnt e n + 1 else cnt e n

theorem cnt_eq (e : Int) (h : 0 ≤ e) (n : Nat) : (cnt e n : Int) = min (n : Int) (36 * e / (e + 38)) := by
  have hq : 0 ≤ 36 * e / (e + 38) := Int.ediv_nonneg (by omega) (by omega)
  induction n with
  | zero => simp [cnt]; omega
  | succ n ih =>
    have key : 38 * ((n : Int) + 1) ≤ e * (36 - ((n : Int) + 1)) ↔ (n : Int) + 1 ≤ 36 * e / (e + 38) := by
      rw [Int.le_ediv_iff_mul_le (by omega)]
      have e1 : e * (36 - ((n : Int) + 1)) = 36 * e - ((n : Int) + 1) * e := by rw [Int.mul_sub, Int.mul_comm e 36, Int.mul_comm e]
      have e2 : ((n : Int) + 1) * (e + 38) = ((n : Int) + 1) * e + 38 * ((n : Int) + 1) := by rw [Int.mul_add, Int.mul_comm _ 38]
      rw [e1, e2]
      omega
    simp only [cnt]
    by_cases hc : 38 * ((n : Int) + 1) ≤ e * (36 - ((n : Int) + 1))
    · rw [if_pos hc]; have := key.1 hc; omega
    · rw [if_neg hc]; have := mt key.2 hc; omega

theorem cnt_35 (e : Int) (h : 0 ≤ e) : (cnt e 35 : Int) = 36 * e / (e + 38) := by
  rw [cnt_eq e h]
  have : 36 * e / (e + 38) < 36 := Int.ediv_lt_of_lt_mul (by omega) (by omega)
  omega

theorem cnt_le (e : Int) (n : Nat) : cnt e n ≤ n := by
  induction n with
  | zero => simp [cnt]
  | succ n ih => simp only [cnt]; split <;> omega

/-- Powers of 35 up to the tenth. -/
theorem pow_le (i : Nat) (hi : i ≤ 10) : (35 : Int) ^ i ≤ 2758547353515625 := by
  have h : i = 0 ∨ i = 1 ∨ i = 2 ∨ i = 3 ∨ i = 4 ∨ i = 5 ∨ i = 6 ∨ i = 7 ∨ i = 8 ∨ i = 9 ∨ i = 10 := by omega
  rcases h with h | h | h | h | h | h | h | h | h | h | h <;> subst h <;> decide
theorem thr_small (i : Nat) (hi : i ≤ 10) (h : (456 : Int) * 35 ^ i ≤ 263524915338707880) : i ≤ 9 := by
  rcases Nat.lt_or_ge i 10 with h1 | h1
  · omega
  · obtain rfl : i = 10 := by omega
    revert h; decide
theorem thr_big (i : Nat) (hi : i ≤ 10) (h : ¬ (456 : Int) * 35 ^ i ≤ 263524915338707880) : i = 10 := by
  have h' : i = 0 ∨ i = 1 ∨ i = 2 ∨ i = 3 ∨ i = 4 ∨ i = 5 ∨ i = 6 ∨ i = 7 ∨ i = 8 ∨ i = 9 ∨ i = 10 := by omega
  rcases h' with e | e | e | e | e | e | e | e | e | e | e
  all_goals first | exact e | (subst e; exact absurd (by decide) h)
theorem M_eleven (d : Int) (h : d ≤ 9223372036854775807) (h10 : 10 < M d) : M d = 11 := by
  refine (eq_M d 11 (by omega) ?_).symm
  have : d / 35 ^ 11 < 456 := Int.ediv_lt_of_lt_mul (pow_pos' 11) (Int.lt_of_le_of_lt h (by decide))
  omega

theorem mul_bd (e : Int) (n : Nat) (h0 : 0 ≤ e) (h1 : e ≤ 455) (hn : n < 35) : 0 ≤ e * (36 - ((n : Int) + 1)) ∧ e * (36 - ((n : Int) + 1)) ≤ 16380 := by
  have a : (0 : Int) ≤ 36 - ((n : Int) + 1) := by omega
  have b : (36 : Int) - ((n : Int) + 1) ≤ 36 := by omega
  exact ⟨Int.mul_nonneg h0 a, Int.le_trans (Int.mul_le_mul h1 b a (by omega)) (by decide)⟩

theorem final (d : Int) (h0 : 0 ≤ d) : 36 * (M d : Int) + (cnt (d / 35 ^ M d) 35 : Int) = 36 * (M d : Int) + 36 * (d / 35 ^ M d) / (d / 35 ^ M d + 38) := by
  rw [cnt_35 _ (div_nonneg' d h0 _)]

end Go.Proofs.Qxb6602111a.Am
