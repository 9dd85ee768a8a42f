/-
  PLAIN MATHEMATICS of the Punycode encoder: counting, the stable insertion sort, the digits.
-/
import Derived.Test.Qxb6602111aAdaptMath
namespace Go.Proofs.Qxb6602111a.Em

/-! ### Counting -/
def num (p : Nat → Bool) : Nat → Nat
  | 0 => 0
  | x + 1 => num p x + (if p x then 1 else 0)

theorem num_congr {p q : Nat → Bool} {x : Nat} (h : ∀ k, k < x → p k = q k) : num p x = num q x := by
  induction x with
  | zero => rfl
  | succ x ih => simp only [num]; rw [ih (fun k hk => h k (by omega)), h x (by omega)]

theorem num_le (p : Nat → Bool) (x : Nat) : num p x ≤ x := by
  induction x with
  | zero => simp [num]
  | succ x ih => simp only [num]; split <;> omega

theorem num_mono (p : Nat → Bool) {x y : Nat} (h : x ≤ y) : num p x ≤ num p y := by
  induction y with
  | zero => obtain rfl : x = 0 := by omega
            exact Nat.le_refl _
  | succ y ih =>
    by_cases e : x = y + 1
    · subst e; exact Nat.le_refl _
    · have := ih (by omega)
      simp only [num]; omega

theorem num_imp {p q : Nat → Bool} {x : Nat} (h : ∀ k, k < x → p k = true → q k = true) : num p x ≤ num q x := by
  induction x with
  | zero => simp [num]
  | succ x ih =>
    have := ih (fun k hk => h k (by omega))
    have hx := h x (by omega)
    simp only [num]
    cases hp : p x
    · simp; omega
    · rw [hx hp]; simp; omega

theorem num_split {p q r : Nat → Bool} {x : Nat} (h : ∀ k, k < x → (if p k then 1 else 0) = (if q k then 1 else 0) + (if r k then 1 else 0)) : num p x = num q x + num r x := by
  induction x with
  | zero => rfl
  | succ x ih =>
    simp only [num]
    have := ih (fun k hk => h k (by omega))
    have := h x (by omega)
    omega

theorem num_pos {p : Nat → Bool} {x k : Nat} (hk : k < x) (h : p k = true) : 0 < num p x := by
  have h1 : num p (k + 1) = num p k + 1 := by simp [num, h]
  have h2 := num_mono p (x := k + 1) (y := x) (by omega)
  omega

theorem num_zero {p : Nat → Bool} {x : Nat} (h : ∀ k, k < x → p k = false) : num p x = 0 := by
  induction x with
  | zero => rfl
  | succ x ih => simp only [num]; rw [ih (fun k hk => h k (by omega)), h x (by omega)]; rfl

theorem num_all {p : Nat → Bool} {x : Nat} (h : num p x = x) : ∀ k, k < x → p k = true := by
  induction x with
  | zero => intro k hk; omega
  | succ x ih =>
    intro k hk
    simp only [num] at h
    have hle := num_le p x
    have hx : p x = true := by
      cases hp : p x
      · rw [hp] at h; simp at h; omega
      · rfl
    rw [hx] at h; simp at h
    by_cases e : k = x
    · subst e; exact hx
    · exact ih h k (by omega)

theorem num_ex {p : Nat → Bool} {x : Nat} (h : num p x < x) : ∃ k, k < x ∧ p k = false := by
  apply Classical.byContradiction
  intro hn
  have hall : ∀ k, k < x → p k = true := fun k hk => by
    cases hp : p k
    · exact absurd ⟨k, hk, hp⟩ hn
    · rfl
  have : num p x = num (fun _ => true) x := num_congr fun k hk => by rw [hall k hk]
  have h2 : ∀ y, num (fun _ => true) y = y := by
    intro y; induction y with
    | zero => rfl
    | succ y ih => simp [num, ih]
  rw [h2] at this; omega

theorem countP_range (p : Nat → Bool) (n : Nat) : (List.range n).countP p = num p n := by
  induction n with
  | zero => rfl
  | succ n ih => rw [List.range_succ, List.countP_append, ih]; simp [num, List.countP_cons]

def cle (f : Nat → Int) (c : Int) (x : Nat) : Nat := num (fun k => decide (f k ≤ c)) x
def ceq (f : Nat → Int) (c : Int) (x : Nat) : Nat := num (fun k => decide (f k = c)) x

theorem cle_split (f : Nat → Int) (c : Int) (x : Nat) : cle f c x = cle f (c - 1) x + ceq f c x := by
  apply num_split
  intro k _
  simp only [decide_eq_true_eq]
  split <;> split <;> split <;> omega

theorem cle_succ_yes (f : Nat → Int) (c : Int) (x : Nat) (h : f x ≤ c) : cle f c (x + 1) = cle f c x + 1 := by simp [cle, num, h]
theorem cle_succ_no (f : Nat → Int) (c : Int) (x : Nat) (h : ¬ f x ≤ c) : cle f c (x + 1) = cle f c x := by simp [cle, num, h]
theorem ceq_succ_yes (f : Nat → Int) (c : Int) (x : Nat) (h : f x = c) : ceq f c (x + 1) = ceq f c x + 1 := by simp [ceq, num, h]
theorem ceq_succ_no (f : Nat → Int) (c : Int) (x : Nat) (h : ¬ f x = c) : ceq f c (x + 1) = ceq f c x := by simp [ceq, num, h]

/-- No element in [a, b - 1]: the counts of those below are the same. -/
theorem cle_gap (f : Nat → Int) (a b : Int) (n : Nat) (hab : a ≤ b) (h : ∀ k, k < n → a ≤ f k → b ≤ f k) : cle f (b - 1) n = cle f (a - 1) n := by
  apply num_congr
  intro k hk
  have := h k hk
  rw [decide_eq_decide]
  constructor
  · intro h1
    rcases Int.lt_or_le (f k) a with h2 | h2
    · omega
    · have := this h2; omega
  · intro h1; omega

/-! ### The stable insertion sort -/
/-- x goes behind all that are not greater. -/
def ins (f : Nat → Int) (x : Nat) : List Nat → List Nat
  | [] => [x]
  | y :: r => if f y ≤ f x then y :: ins f x r else x :: y :: r
def isort (f : Nat → Int) (l : List Nat) : List Nat := l.foldl (fun acc x => ins f x acc) []

theorem ins_perm (f : Nat → Int) (x : Nat) (l : List Nat) : (ins f x l).Perm (x :: l) := by
  induction l with
  | nil => exact List.Perm.refl _
  | cons y r ih =>
    simp only [ins]; split
    · exact (List.Perm.cons y ih).trans (List.Perm.swap x y r)
    · exact List.Perm.refl _

theorem foldl_perm (f : Nat → Int) (l acc : List Nat) : (l.foldl (fun acc x => ins f x acc) acc).Perm (l ++ acc) := by
  induction l generalizing acc with
  | nil => exact List.Perm.refl _
  | cons y r ih =>
    simp only [List.foldl_cons]
    refine (ih (ins f y acc)).trans ?_
    refine (List.Perm.append_left r (ins_perm f y acc)).trans ?_
    exact List.perm_middle

theorem isort_perm (f : Nat → Int) (l : List Nat) : (isort f l).Perm l := by
  simpa [isort] using foldl_perm f l []

theorem isort_snoc (f : Nat → Int) (l : List Nat) (x : Nat) : isort f (l ++ [x]) = ins f x (isort f l) := by simp [isort]

/-- The order: by value, then by place. -/
def Lx (f : Nat → Int) (a b : Nat) : Prop := f a < f b ∨ (f a = f b ∧ a < b)

def lxb (f : Nat → Int) (a b : Nat) : Bool := decide (f a < f b) || (decide (f a = f b) && decide (a < b))
theorem lxb_iff (f : Nat → Int) (a b : Nat) : lxb f a b = true ↔ Lx f a b := by simp [lxb, Lx]

theorem Lx.trans {f : Nat → Int} {a b c : Nat} (h : Lx f a b) (k : Lx f b c) : Lx f a c := by
  unfold Lx at *; omega

theorem ins_sorted (f : Nat → Int) (x : Nat) (l : List Nat) (h : l.Pairwise (Lx f)) (hx : ∀ y ∈ l, y < x) : (ins f x l).Pairwise (Lx f) := by
  induction l with
  | nil => simp [ins]
  | cons y r ih =>
    rw [List.pairwise_cons] at h
    have hyx := hx y (by simp)
    simp only [ins]; split
    · rename_i hle
      rw [List.pairwise_cons]
      refine ⟨fun z hz => ?_, ih h.2 (fun z hz => hx z (by simp [hz]))⟩
      have := (ins_perm f x r).mem_iff.1 hz
      rcases List.mem_cons.1 this with rfl | hz'
      · unfold Lx; omega
      · exact h.1 z hz'
    · rename_i hgt
      rw [List.pairwise_cons]
      refine ⟨fun z hz => ?_, by rw [List.pairwise_cons]; exact h⟩
      rcases List.mem_cons.1 hz with rfl | hz'
      · unfold Lx; omega
      · have := h.1 z hz'
        unfold Lx at *; omega

theorem isort_sorted (f : Nat → Int) (l : List Nat) (h : l.Pairwise (· < ·)) : (isort f l).Pairwise (Lx f) := by
  suffices ∀ acc : List Nat, acc.Pairwise (Lx f) → (∀ y ∈ acc, ∀ z ∈ l, y < z) → (l.foldl (fun acc x => ins f x acc) acc).Pairwise (Lx f) from this [] List.Pairwise.nil (by simp)
  induction l with
  | nil => intro acc h1 _; exact h1
  | cons x r ih =>
    intro acc h1 h2
    rw [List.pairwise_cons] at h
    simp only [List.foldl_cons]
    refine ih h.2 _ (ins_sorted f x acc h1 (fun y hy => h2 y hy x (by simp))) ?_
    intro y hy z hz
    rcases List.mem_cons.1 ((ins_perm f x acc).mem_iff.1 hy) with rfl | hy'
    · exact h.1 z hz
    · exact h2 y hy' z (by simp [hz])

/-- What the Go text's inner loop finds: the place of x. -/
theorem ins_at (f : Nat → Int) (x : Nat) (l : List Nat) (b : Nat) (hb : b ≤ l.length) (h1 : ∀ i, i < b → f (l.getD i 0) ≤ f x) (h2 : b < l.length → f x < f (l.getD b 0)) :
    ins f x l = l.take b ++ x :: l.drop b := by
  induction l generalizing b with
  | nil => simp at hb; subst hb; rfl
  | cons y r ih =>
    cases b with
    | zero =>
      have := h2 (by simp)
      simp at this
      simp only [ins]; rw [if_neg (by omega)]; rfl
    | succ b =>
      have hy := h1 0 (by omega)
      simp at hy
      simp only [ins]; rw [if_pos hy]
      rw [ih b (by simpa using hb) (fun i hi => by simpa using h1 (i + 1) (by omega)) (fun h => by simpa using h2 (by simpa using h))]
      rfl

/-! ### The insertions in their order -/
def nb (f : Nat → Int) (n : Nat) : List Nat := (List.range n).filter (fun i => decide (128 ≤ f i))
def ord (f : Nat → Int) (n : Nat) : List Nat := isort f (nb f n)

theorem ord_perm (f : Nat → Int) (n : Nat) : (ord f n).Perm (nb f n) := isort_perm f _
theorem ord_sorted (f : Nat → Int) (n : Nat) : (ord f n).Pairwise (Lx f) := isort_sorted f _ (List.Pairwise.filter _ List.pairwise_lt_range)
theorem mem_ord (f : Nat → Int) (n x : Nat) : x ∈ ord f n ↔ x < n ∧ 128 ≤ f x := by
  rw [(ord_perm f n).mem_iff]; simp [nb]

theorem ord_len (f : Nat → Int) (n : Nat) : (ord f n).length + cle f 127 n = n := by
  rw [(ord_perm f n).length_eq, nb, ← List.countP_eq_length_filter, countP_range]
  have h : num (fun _ => true) n = num (fun i => decide (128 ≤ f i)) n + cle f 127 n := by
    apply num_split
    intro k _
    simp only [decide_eq_true_eq, if_true]
    split <;> split <;> omega
  have h2 : ∀ y, num (fun _ => true) y = y := by
    intro y; induction y with
    | zero => rfl
    | succ y ih => simp [num, ih]
  rw [h2] at h; omega

/-- x stands in the order at the place that its rank says. -/
theorem ord_at (f : Nat → Int) (n x j : Nat) (hx : x < n) (h128 : 128 ≤ f x) (hj : j + cle f 127 n = cle f (f x - 1) n + ceq f (f x) x) : j < (ord f n).length ∧ (ord f n).getD j 0 = x := by
  obtain ⟨A, B, hAB⟩ := List.append_of_mem ((mem_ord f n x).2 ⟨hx, h128⟩)
  have hs := ord_sorted f n
  rw [hAB, List.pairwise_append, List.pairwise_cons] at hs
  obtain ⟨_, ⟨hB, _⟩, hA⟩ := hs
  have hcA : A.countP (fun y => lxb f y x) = A.length := by
    rw [List.countP_eq_length]
    intro y hy
    exact (lxb_iff f y x).2 (hA y hy x (by simp))
  have hcB : B.countP (fun y => lxb f y x) = 0 := by
    rw [List.countP_eq_zero]
    intro y hy h
    have h1 := hB y hy
    have h2 : Lx f y x := (lxb_iff f y x).1 h
    unfold Lx at *; omega
  have hx0 : lxb f x x = false := by simp [lxb]
  have hc : (ord f n).countP (fun y => lxb f y x) = A.length := by
    rw [hAB, List.countP_append, List.countP_cons, hcA, hcB, hx0]; simp
  have hc2 : (ord f n).countP (fun y => lxb f y x) = num (fun y => decide (128 ≤ f y) && lxb f y x) n := by
    rw [(ord_perm f n).countP_eq, nb, List.countP_filter, countP_range]
    apply num_congr; intro k _; rw [Bool.and_comm]
  have hc3 : num (fun y => decide (128 ≤ f y) && lxb f y x) n + cle f 127 n = cle f (f x - 1) n + ceq f (f x) x := by
    have e1 : cle f (f x - 1) n = num (fun y => decide (128 ≤ f y) && decide (f y < f x)) n + cle f 127 n := by
      apply num_split
      intro k _
      simp only [decide_eq_true_eq, Bool.and_eq_true]
      split <;> split <;> split <;> omega
    have e2 : num (fun y => decide (128 ≤ f y) && lxb f y x) n = num (fun y => decide (128 ≤ f y) && decide (f y < f x)) n + num (fun y => decide (f y = f x) && decide (y < x)) n := by
      apply num_split
      intro k _
      simp only [decide_eq_true_eq, Bool.and_eq_true, lxb, Bool.or_eq_true]
      split <;> split <;> split <;> omega
    have e3 : num (fun y => decide (f y = f x) && decide (y < x)) n = ceq f (f x) x := by
      have : ∀ y, x ≤ y → num (fun y => decide (f y = f x) && decide (y < x)) y = ceq f (f x) x := by
        intro y hy
        induction y with
        | zero => obtain rfl : x = 0 := by omega
                  rfl
        | succ y ih =>
          by_cases e : x = y + 1
          · apply Eq.trans (b := num (fun y => decide (f y = f x)) x)
            · rw [e]; apply num_congr; intro k hk; simp; omega
            · rfl
          · simp only [num]; rw [ih (by omega)]; simp; omega
      exact this n (by omega)
    omega
  have hjA : j = A.length := by omega
  constructor
  · rw [hAB, hjA]; simp
  · rw [hAB, hjA]; simp [List.getD]

/-! ### The digits -/
def thr (k b : Int) : Int := if k - b < 1 then 1 else if 26 < k - b then 26 else k - b
def dg (q : Int) : Int := if q < 26 then 97 + q else 22 + q
def digs : Nat → Int → Int → Int → List Int
  | 0, _, _, _ => []
  | f + 1, k, q, b => if q < thr k b then [dg q] else dg (thr k b + (q - thr k b) % (36 - thr k b)) :: digs f (k + 36) ((q - thr k b) / (36 - thr k b)) b
def digits (q b : Int) : List Int := digs (q.toNat + 1) 36 q b

theorem thr_bd (k b : Int) : 1 ≤ thr k b ∧ thr k b ≤ 26 := by unfold thr; split <;> (try split) <;> omega
theorem dg_bd (q : Int) (h0 : 0 ≤ q) (h1 : q < 36) : 0 ≤ dg q ∧ dg q ≤ 127 := by unfold dg; split <;> omega

theorem digs_last (f : Nat) (k q b : Int) (h : q < thr k b) : digs (f + 1) k q b = [dg q] := by simp only [digs]; rw [if_pos h]
theorem digs_more (f : Nat) (k q b : Int) (h : ¬ q < thr k b) : digs (f + 1) k q b = dg (thr k b + (q - thr k b) % (36 - thr k b)) :: digs f (k + 36) ((q - thr k b) / (36 - thr k b)) b := by simp only [digs]; rw [if_neg h]

/-- What one digit leaves. -/
theorem next_bd (t q : Int) (h1 : 1 ≤ t) (h2 : t ≤ 26) (hq : t ≤ q) : 0 ≤ (q - t) / (36 - t) ∧ (q - t) / (36 - t) < q ∧ 10 * ((q - t) / (36 - t)) ≤ q ∧ 0 ≤ (q - t) % (36 - t) ∧ t + (q - t) % (36 - t) < 36 := by
  have a0 : 0 ≤ (q - t) / (36 - t) := Int.ediv_nonneg (by omega) (by omega)
  have a1 : (q - t) / (36 - t) ≤ q - t := Int.ediv_le_self _ (by omega)
  have m0 : 0 ≤ (q - t) % (36 - t) := Int.emod_nonneg _ (by omega)
  have m1 : (q - t) % (36 - t) < 36 - t := Int.emod_lt_of_pos _ (by omega)
  have e : (36 - t) * ((q - t) / (36 - t)) + (q - t) % (36 - t) = q - t := Int.mul_ediv_add_emod _ _
  have h10 : 10 * ((q - t) / (36 - t)) ≤ (36 - t) * ((q - t) / (36 - t)) := Int.mul_le_mul_of_nonneg_right (by omega) a0
  refine ⟨a0, by omega, by omega, m0, by omega⟩

theorem digs_len (i : Nat) : ∀ (f : Nat) (k q b : Int), 0 ≤ q → q < 10 ^ i → (digs f k q b).length ≤ i + 1 := by
  induction i with
  | zero =>
    intro f k q b h0 h1
    cases f with
    | zero => simp [digs]
    | succ f => rw [digs_last _ _ _ _ (by have := thr_bd k b; simp at h1; omega)]; simp
  | succ i ih =>
    intro f k q b h0 h1
    cases f with
    | zero => simp [digs]
    | succ f =>
      by_cases h : q < thr k b
      · rw [digs_last _ _ _ _ h]; simp
      · rw [digs_more _ _ _ _ h]
        have ht := thr_bd k b
        have hn := next_bd (thr k b) q ht.1 ht.2 (by omega)
        have := ih f (k + 36) ((q - thr k b) / (36 - thr k b)) b hn.1 (by rw [Int.pow_succ] at h1; omega)
        simp; omega

end Go.Proofs.Qxb6602111a.Em
