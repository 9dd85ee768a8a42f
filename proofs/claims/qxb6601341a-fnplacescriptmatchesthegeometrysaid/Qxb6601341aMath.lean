import Derived.Test.Qxb6601341aBoard
namespace Go.Proofs.Qxb6601341a.Qm

/-- The masks as place builds them. -/
def C (f : Nat → Nat) : Nat → Nat
  | 0 => 0
  | j + 1 => C f j ||| 2 ^ f j
def L (f : Nat → Nat) (F : Nat) : Nat → Nat
  | 0 => 0
  | j + 1 => (L f F j ||| 2 ^ f j) * 2 % 4294967296 &&& F
def R (f : Nat → Nat) : Nat → Nat
  | 0 => 0
  | j + 1 => (R f j ||| 2 ^ f j) / 2
/-- The masks as the law wants them, m queens counted, k rows in all. -/
def wL (f : Nat → Nat) (n k : Nat) : Nat → Nat
  | 0 => 0
  | m + 1 => if f m + (k - m) < n then wL f n k m ||| 2 ^ (f m + (k - m)) else wL f n k m
def wR (f : Nat → Nat) (k : Nat) : Nat → Nat
  | 0 => 0
  | m + 1 => if k - m ≤ f m then wR f k m ||| 2 ^ (f m - (k - m)) else wR f k m

theorem pow_lt {a : Nat} (h : a < 32) : 2 ^ a < 2 ^ 32 := Nat.pow_lt_pow_right (by decide) h

theorem C_lt (f : Nat → Nat) : ∀ j, (∀ i, i < j → f i < 32) → C f j < 2 ^ 32
  | 0, _ => by simp [C]
  | j + 1, h => by
    unfold C
    exact Nat.or_lt_two_pow (C_lt f j fun i hi => h i (by omega)) (pow_lt (h j (by omega)))
theorem L_lt (f : Nat → Nat) (F : Nat) : ∀ j, L f F j < 2 ^ 32
  | 0 => by simp [L]
  | j + 1 => by
    unfold L
    exact Nat.lt_of_le_of_lt Nat.and_le_left (Nat.mod_lt _ (by decide))
theorem R_lt (f : Nat → Nat) : ∀ j, (∀ i, i < j → f i < 32) → R f j < 2 ^ 32
  | 0, _ => by simp [R]
  | j + 1, h => by
    unfold R
    have := Nat.or_lt_two_pow (R_lt f j fun i hi => h i (by omega)) (pow_lt (h j (by omega)))
    omega
theorem wL_lt (f : Nat → Nat) (n k : Nat) (hn : n ≤ 32) : ∀ m, wL f n k m < 2 ^ 32
  | 0 => by simp [wL]
  | m + 1 => by
    unfold wL
    split
    · exact Nat.or_lt_two_pow (wL_lt f n k hn m) (pow_lt (by omega))
    · exact wL_lt f n k hn m
theorem wR_lt (f : Nat → Nat) (k : Nat) : ∀ m, (∀ i, i < m → f i < 32) → wR f k m < 2 ^ 32
  | 0, _ => by simp [wR]
  | m + 1, h => by
    unfold wR
    have h1 := h m (by omega)
    split
    · exact Nat.or_lt_two_pow (wR_lt f k m fun i hi => h i (by omega)) (pow_lt (by omega))
    · exact wR_lt f k m fun i hi => h i (by omega)

theorem L_bit (f : Nat → Nat) (n : Nat) (hn : n ≤ 32) (b : Nat) : ∀ j, (L f (2 ^ n - 1) j).testBit b = true ↔ b < n ∧ ∃ i, i < j ∧ f i + (j - i) = b := by
  intro j
  induction j generalizing b with
  | zero => simp [L]
  | succ j ih =>
    unfold L
    rw [show (4294967296 : Nat) = 2 ^ 32 from rfl, show (L f (2 ^ n - 1) j ||| 2 ^ f j) * 2 = (L f (2 ^ n - 1) j ||| 2 ^ f j) <<< 1 by simp [Nat.shiftLeft_eq]]
    simp only [Nat.testBit_and, Nat.testBit_mod_two_pow, Nat.testBit_shiftLeft, Nat.testBit_or, Nat.testBit_two_pow, Nat.testBit_two_pow_sub_one, Bool.and_eq_true, Bool.or_eq_true, decide_eq_true_eq, ih]
    constructor
    · rintro ⟨⟨h32, h1, h⟩, hb⟩
      refine ⟨hb, ?_⟩
      rcases h with ⟨_, i, hi, e⟩ | h
      · exact ⟨i, by omega, by omega⟩
      · exact ⟨j, by omega, by omega⟩
    · rintro ⟨hb, i, hi, e⟩
      refine ⟨⟨by omega, by omega, ?_⟩, hb⟩
      by_cases hij : i = j
      · right; subst hij; omega
      · left; exact ⟨by omega, i, by omega, by omega⟩

theorem R_bit (f : Nat → Nat) (b : Nat) : ∀ j, (R f j).testBit b = true ↔ ∃ i, i < j ∧ f i = b + (j - i) := by
  intro j
  induction j generalizing b with
  | zero => simp [R]
  | succ j ih =>
    unfold R
    rw [show (R f j ||| 2 ^ f j) / 2 = (R f j ||| 2 ^ f j) >>> 1 by simp [Nat.shiftRight_eq_div_pow]]
    simp only [Nat.testBit_shiftRight, Nat.testBit_or, Nat.testBit_two_pow, Bool.or_eq_true, decide_eq_true_eq, ih]
    constructor
    · rintro (⟨i, hi, e⟩ | h)
      · exact ⟨i, by omega, by omega⟩
      · exact ⟨j, by omega, by omega⟩
    · rintro ⟨i, hi, e⟩
      by_cases hij : i = j
      · right; subst hij; omega
      · left; exact ⟨i, by omega, by omega⟩

theorem wL_bit (f : Nat → Nat) (n k b : Nat) : ∀ m, (wL f n k m).testBit b = true ↔ b < n ∧ ∃ i, i < m ∧ f i + (k - i) = b := by
  intro m
  induction m with
  | zero => simp [wL]
  | succ m ih =>
    unfold wL
    split
    · rename_i h
      simp only [Nat.testBit_or, Nat.testBit_two_pow, Bool.or_eq_true, decide_eq_true_eq, ih]
      constructor
      · rintro (⟨hb, i, hi, e⟩ | e)
        · exact ⟨hb, i, by omega, e⟩
        · exact ⟨by omega, m, by omega, e⟩
      · rintro ⟨hb, i, hi, e⟩
        by_cases him : i = m
        · right; subst him; exact e
        · left; exact ⟨hb, i, by omega, e⟩
    · rename_i h
      rw [ih]
      constructor
      · rintro ⟨hb, i, hi, e⟩; exact ⟨hb, i, by omega, e⟩
      · rintro ⟨hb, i, hi, e⟩
        refine ⟨hb, i, ?_, e⟩
        by_cases him : i = m
        · subst him; omega
        · omega

theorem wR_bit (f : Nat → Nat) (k b : Nat) : ∀ m, m ≤ k → ((wR f k m).testBit b = true ↔ ∃ i, i < m ∧ f i = b + (k - i)) := by
  intro m
  induction m with
  | zero => simp [wR]
  | succ m ih =>
    intro hm
    unfold wR
    split
    · rename_i h
      simp only [Nat.testBit_or, Nat.testBit_two_pow, Bool.or_eq_true, decide_eq_true_eq, ih (by omega)]
      constructor
      · rintro (⟨i, hi, e⟩ | e)
        · exact ⟨i, by omega, e⟩
        · exact ⟨m, by omega, by omega⟩
      · rintro ⟨i, hi, e⟩
        by_cases him : i = m
        · right; subst him; omega
        · left; exact ⟨i, by omega, e⟩
    · rename_i h
      rw [ih (by omega)]
      constructor
      · rintro ⟨i, hi, e⟩; exact ⟨i, by omega, e⟩
      · rintro ⟨i, hi, e⟩
        refine ⟨i, ?_, e⟩
        by_cases him : i = m
        · subst him; omega
        · omega

theorem eq_of_bits {a b : Nat} (h : ∀ i, a.testBit i = true ↔ b.testBit i = true) : a = b :=
  Nat.eq_of_testBit_eq fun i => Bool.eq_iff_iff.2 (h i)
theorem left_same (f : Nat → Nat) (n k : Nat) (hn : n ≤ 32) : L f (2 ^ n - 1) k = wL f n k k :=
  eq_of_bits fun b => (L_bit f n hn b k).trans (wL_bit f n k b k).symm
theorem right_same (f : Nat → Nat) (k : Nat) : R f k = wR f k k :=
  eq_of_bits fun b => (R_bit f b k).trans (wR_bit f k b k (Nat.le_refl k)).symm
end Go.Proofs.Qxb6601341a.Qm
