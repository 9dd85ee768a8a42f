/-
  PLAIN MATHEMATICS of the Punycode encoder: the states after j insertions, the stop, the bounds.
-/
import Derived.Test.Qxb6602111aEncMath
namespace Go.Proofs.Qxb6602111a.Em

/-- The j-th insertion's place. -/
def px (f : Nat → Int) (n j : Nat) : Nat := (ord f n).getD j 0
def size (f : Nat → Int) (n j : Nat) : Int := (cle f 127 n : Int) + (j : Int) + 1

/-- (the last code point, its place in the text, the bias, the text) after j insertions. -/
def St (f : Nat → Int) (n : Nat) (h : List Int) : Nat → Int × Int × Int × List Int
  | 0 => (128, -1, 72, h)
  | j + 1 =>
    (f (px f n j), (cle f (f (px f n j)) (px f n j) : Int),
      Am.adaptF ((f (px f n j) - (St f n h j).1) * size f n j + (cle f (f (px f n j)) (px f n j) : Int) - (St f n h j).2.1 - 1) (size f n j) (j == 0),
      (St f n h j).2.2.2 ++ digits ((f (px f n j) - (St f n h j).1) * size f n j + (cle f (f (px f n j)) (px f n j) : Int) - (St f n h j).2.1 - 1) (St f n h j).2.2.1)
def pc (f : Nat → Int) (n : Nat) (h : List Int) (j : Nat) : Int := (St f n h j).1
def pp (f : Nat → Int) (n : Nat) (h : List Int) (j : Nat) : Int := (St f n h j).2.1
def bi (f : Nat → Int) (n : Nat) (h : List Int) (j : Nat) : Int := (St f n h j).2.2.1
def out (f : Nat → Int) (n : Nat) (h : List Int) (j : Nat) : List Int := (St f n h j).2.2.2
/-- The j-th delta. -/
def dl (f : Nat → Int) (n : Nat) (h : List Int) (j : Nat) : Int := (f (px f n j) - pc f n h j) * size f n j + (cle f (f (px f n j)) (px f n j) : Int) - pp f n h j - 1

section
variable (f : Nat → Int) (n : Nat) (h : List Int)

theorem pc_zero : pc f n h 0 = 128 := rfl
theorem pp_zero : pp f n h 0 = -1 := rfl
theorem bi_zero : bi f n h 0 = 72 := rfl
theorem out_zero : out f n h 0 = h := rfl
theorem pc_succ (j : Nat) : pc f n h (j + 1) = f (px f n j) := rfl
theorem pp_succ (j : Nat) : pp f n h (j + 1) = (cle f (f (px f n j)) (px f n j) : Int) := rfl
theorem bi_succ (j : Nat) : bi f n h (j + 1) = Am.adaptF (dl f n h j) (size f n j) (j == 0) := rfl
theorem out_succ (j : Nat) : out f n h (j + 1) = out f n h j ++ digits (dl f n h j) (bi f n h j) := rfl

/-- The model's test at the j-th insertion: a new value's jump passes maxDelta. -/
def ovf (j : Nat) : Prop := (j = 0 ∨ f (px f n (j - 1)) ≠ f (px f n j)) ∧ 2147483647 < (f (px f n j) - pc f n h j) * size f n j - pp f n h j - 1

structure Stop (J : Nat) : Prop where
  le : J ≤ (ord f n).length
  before : ∀ i, i < J → ¬ ovf f n h i
  at_ : J < (ord f n).length → ovf f n h J

theorem stop_ex : ∃ J, Stop f n h J := by
  have key : ∀ t k, t + k = (ord f n).length → (∀ i, i < k → ¬ ovf f n h i) → ∃ J, Stop f n h J := by
    intro t
    induction t with
    | zero => intro k hk hb; exact ⟨k, by omega, hb, fun hlt => by omega⟩
    | succ t ih =>
      intro k hk hb
      by_cases ho : ovf f n h k
      · exact ⟨k, by omega, hb, fun _ => ho⟩
      · refine ih (k + 1) (by omega) fun i hi => ?_
        by_cases e : i = k
        · subst e; exact ho
        · exact hb i (by omega)
  exact key (ord f n).length 0 (by omega) (fun i hi => by omega)

theorem Stop.eq {f : Nat → Int} {n : Nat} {h : List Int} {J j : Nat} (hJ : Stop f n h J) (hle : j ≤ J) (ho : ovf f n h j) : J = j := by
  rcases Nat.lt_or_ge j J with hlt | hge
  · exact absurd ho (hJ.before j hlt)
  · omega
theorem Stop.lt {f : Nat → Int} {n : Nat} {h : List Int} {J j : Nat} (hJ : Stop f n h J) (hle : j ≤ J) (hm : j < (ord f n).length) (ho : ¬ ovf f n h j) : j < J := by
  rcases Nat.lt_or_ge j J with hlt | hge
  · exact hlt
  · obtain rfl : j = J := by omega
    exact absurd (hJ.at_ hm) ho

theorem out_pref {i j : Nat} (hij : i ≤ j) : out f n h i <+: out f n h j := by
  induction j with
  | zero => obtain rfl : i = 0 := by omega
            exact List.prefix_refl _
  | succ j ih =>
    by_cases e : i = j + 1
    · subst e; exact List.prefix_refl _
    · exact (ih (by omega)).trans (by rw [out_succ]; exact List.prefix_append _ _)

theorem px_mem {j : Nat} (hj : j < (ord f n).length) : px f n j < n ∧ 128 ≤ f (px f n j) := by
  apply (mem_ord f n _).1
  unfold px
  rw [List.getD_eq_getElem?_getD, List.getElem?_eq_getElem hj]
  exact List.getElem_mem hj

theorem px_lt {i j : Nat} (hij : i < j) (hj : j < (ord f n).length) : Lx f (px f n i) (px f n j) := by
  have hs := List.pairwise_iff_getElem.1 (ord_sorted f n) i j (by omega) hj hij
  unfold px
  rw [List.getD_eq_getElem?_getD, List.getD_eq_getElem?_getD, List.getElem?_eq_getElem hj, List.getElem?_eq_getElem (by omega : i < (ord f n).length)]
  exact hs

theorem rank {j : Nat} (hj : j < (ord f n).length) : j + cle f 127 n = cle f (f (px f n j) - 1) n + ceq f (f (px f n j)) (px f n j) := by
  obtain ⟨hx, h128⟩ := px_mem f n hj
  have hge : cle f 127 n ≤ cle f (f (px f n j) - 1) n := num_imp fun k _ hk => by simp at hk ⊢; omega
  obtain ⟨hj', hpx⟩ := ord_at f n (px f n j) (cle f (f (px f n j) - 1) n + ceq f (f (px f n j)) (px f n j) - cle f 127 n) hx h128 (by omega)
  generalize hr : cle f (f (px f n j) - 1) n + ceq f (f (px f n j)) (px f n j) - cle f 127 n = r at hj' hpx
  have e : px f n r = px f n j := hpx
  rcases Nat.lt_trichotomy r j with hlt | heq | hgt
  · have := px_lt f n hlt hj
    rw [e] at this
    unfold Lx at this; omega
  · omega
  · have := px_lt f n hgt hj'
    rw [e] at this
    unfold Lx at this; omega

theorem pos_le {j : Nat} (hj : j < (ord f n).length) : cle f (f (px f n j)) (px f n j) ≤ cle f 127 n + j := by
  have h1 := rank f n hj
  have h2 := cle_split f (f (px f n j)) (px f n j)
  have h3 : cle f (f (px f n j) - 1) (px f n j) ≤ cle f (f (px f n j) - 1) n := num_mono _ (Nat.le_of_lt (px_mem f n hj).1)
  omega

theorem pp_bd {j : Nat} (hj : j ≤ (ord f n).length) : -1 ≤ pp f n h j ∧ pp f n h j ≤ (cle f 127 n : Int) + j - 1 := by
  cases j with
  | zero => rw [pp_zero]; omega
  | succ j => rw [pp_succ]; have := pos_le f n (j := j) (by omega); omega

theorem pc_bd {j : Nat} (hj : j < (ord f n).length) : 128 ≤ pc f n h j ∧ pc f n h j ≤ f (px f n j) := by
  cases j with
  | zero => rw [pc_zero]; exact ⟨by omega, (px_mem f n hj).2⟩
  | succ j =>
    rw [pc_succ]
    have := px_lt f n (i := j) (j := j + 1) (by omega) hj
    refine ⟨(px_mem f n (by omega)).2, ?_⟩
    unfold Lx at this; omega

theorem size_bd {j : Nat} (hj : j < (ord f n).length) : 1 ≤ size f n j ∧ size f n j ≤ n := by
  have := ord_len f n
  unfold size; omega

theorem prod_bd {a s : Int} {n : Nat} (ha0 : 0 ≤ a) (ha1 : a ≤ 1114111) (hs0 : 1 ≤ s) (hs1 : s ≤ n) : 0 ≤ a * s ∧ a * s ≤ 1114111 * n :=
  ⟨Int.mul_nonneg ha0 (by omega), Int.mul_le_mul ha1 hs1 (by omega) (by omega)⟩

theorem dl_nonneg {j : Nat} (hj : j < (ord f n).length) : 0 ≤ dl f n h j := by
  obtain ⟨c0, c1⟩ := pc_bd f n h hj
  obtain ⟨s0, s1⟩ := size_bd f n hj
  unfold dl
  cases j with
  | zero =>
    rw [pp_zero]
    have : 0 ≤ (f (px f n 0) - pc f n h 0) * size f n 0 := Int.mul_nonneg (by omega) (by omega)
    omega
  | succ j =>
    have hlx := px_lt f n (i := j) (j := j + 1) (by omega) hj
    have hpp := pp_bd f n h (j := j + 1) (by omega)
    rw [pc_succ] at *
    rcases hlx with hlt | ⟨heq, hlt⟩
    · have h1 : 1 * size f n (j + 1) ≤ (f (px f n (j + 1)) - f (px f n j)) * size f n (j + 1) := Int.mul_le_mul_of_nonneg_right (by omega) (by omega)
      have h2 : size f n (j + 1) = (cle f 127 n : Int) + ((j + 1 : Nat) : Int) + 1 := rfl
      omega
    · rw [pp_succ, heq]
      have h1 : cle f (f (px f n (j + 1))) (px f n j + 1) = cle f (f (px f n (j + 1))) (px f n j) + 1 := cle_succ_yes f _ _ (by omega)
      have h2 : cle f (f (px f n (j + 1))) (px f n j + 1) ≤ cle f (f (px f n (j + 1))) (px f n (j + 1)) := num_mono _ hlt
      simp only [Int.sub_self, Int.zero_mul]
      omega

theorem dl_le {j : Nat} (hj : j < (ord f n).length) (hf : ∀ k, k < n → f k ≤ 1114111) : dl f n h j ≤ 1114112 * n := by
  obtain ⟨c0, c1⟩ := pc_bd f n h hj
  obtain ⟨s0, s1⟩ := size_bd f n hj
  obtain ⟨hx, hx2⟩ := px_mem f n hj
  have hp := pp_bd f n h (j := j) (by omega)
  have hb := prod_bd (n := n) (a := f (px f n j) - pc f n h j) (s := size f n j) (by omega) (by have := hf _ hx; omega) s0 s1
  have hc : cle f (f (px f n j)) (px f n j) ≤ px f n j := num_le _ _
  unfold dl; omega

theorem adapt_bd (d p : Int) (b : Bool) (h0 : 0 ≤ d) (hp : 1 ≤ p) : 0 ≤ Am.adaptF d p b ∧ Am.adaptF d p b ≤ 2340 := by
  have hd : 0 ≤ Am.damped d p b := by
    unfold Am.damped
    cases b
    · have : 0 ≤ d / 2 / p := Int.ediv_nonneg (by omega) (by omega)
      simp; omega
    · have : 0 ≤ d / 700 / p := Int.ediv_nonneg (by omega) (by omega)
      simp; omega
  have hm := Am.M_64 (Am.damped d p b)
  have he := Am.div_nonneg' (Am.damped d p b) hd (Am.M (Am.damped d p b))
  unfold Am.adaptF
  generalize Am.damped d p b / 35 ^ Am.M (Am.damped d p b) = e at *
  have h1 : 0 ≤ 36 * e / (e + 38) := Int.ediv_nonneg (by omega) (by omega)
  have h2 : 36 * e / (e + 38) < 36 := Int.ediv_lt_of_lt_mul (by omega) (by omega)
  omega

theorem bi_bd {j : Nat} (hj : j ≤ (ord f n).length) : 0 ≤ bi f n h j ∧ bi f n h j ≤ 2340 := by
  cases j with
  | zero => rw [bi_zero]; omega
  | succ j => rw [bi_succ]; exact adapt_bd _ _ _ (dl_nonneg f n h (by omega)) (size_bd f n (by omega)).1

theorem out_len (hn : n ≤ 65536) (hf : ∀ k, k < n → f k ≤ 1114111) {j : Nat} (hj : j ≤ (ord f n).length) : (out f n h j).length ≤ h.length + 12 * j := by
  induction j with
  | zero => rw [out_zero]; omega
  | succ j ih =>
    rw [out_succ, List.length_append]
    have h1 := ih (by omega)
    have h2 : (digits (dl f n h j) (bi f n h j)).length ≤ 11 + 1 := digs_len 11 _ _ _ _ (dl_nonneg f n h (by omega)) (by have := dl_le f n h (j := j) (by omega) hf; omega)
    omega

/-! ### The encoder's own view -/
/-- A place at which c stands: it is the next insertion. -/
theorem enc_at {x j : Nat} (hx : x < n) (h128 : 128 ≤ f x) (hj : j + cle f 127 n = cle f (f x - 1) n + ceq f (f x) x) : j < (ord f n).length ∧ px f n j = x := ord_at f n x j hx h128 hj

/-- The first of a new value's places. -/
theorem group_start {c : Int} {j : Nat} (h128 : 128 ≤ c) (hj : j + cle f 127 n = cle f (c - 1) n) (hex : ∃ k, k < n ∧ f k = c) :
    j < (ord f n).length ∧ f (px f n j) = c ∧ (j = 0 ∨ f (px f n (j - 1)) ≠ f (px f n j)) := by
  have hpos : 0 < ceq f c n := by obtain ⟨k, hk, e⟩ := hex; exact num_pos hk (by simp [e])
  have key : ∀ y, y ≤ n → 0 < ceq f c y → ∃ k, k < y ∧ f k = c ∧ ceq f c k = 0 := by
    intro y
    induction y with
    | zero => intro _ h; simp [ceq, num] at h
    | succ y ih =>
      intro hy h
      by_cases h0 : 0 < ceq f c y
      · obtain ⟨k, hk, e1, e2⟩ := ih (by omega) h0
        exact ⟨k, by omega, e1, e2⟩
      · refine ⟨y, by omega, ?_, by omega⟩
        apply Classical.byContradiction
        intro hne
        rw [ceq_succ_no f c y hne] at h; omega
  obtain ⟨k, hk, e1, e2⟩ := key n (Nat.le_refl _) hpos
  obtain ⟨hlt, hpx⟩ := ord_at f n k j hk (by omega) (by rw [e1, e2]; omega)
  have hp : px f n j = k := hpx
  refine ⟨hlt, by rw [hp, e1], ?_⟩
  rcases Nat.eq_zero_or_pos j with h0 | h0
  · exact .inl h0
  · right
    intro heq
    have hl := px_lt f n (i := j - 1) (j := j) (by omega) hlt
    rw [hp] at hl heq
    rcases hl with hl | ⟨_, hl⟩
    · omega
    · have : 0 < ceq f c k := num_pos hl (by simp [heq, e1])
      omega

/-- The two overflow tests are one. -/
theorem test_iff {c nn delta done : Int} {p q : Int} (hd : 0 ≤ done) (hdelta : delta = (nn - p) * (done + 1) - q - 1) :
    c - nn ≤ (2147483647 - delta) / (done + 1) ↔ ¬ 2147483647 < (c - p) * (done + 1) - q - 1 := by
  rw [Int.le_ediv_iff_mul_le (by omega)]
  have e : (c - p) * (done + 1) = (c - nn) * (done + 1) + (nn - p) * (done + 1) := by rw [← Int.add_mul]; congr 1; omega
  rw [e, hdelta]
  omega

end

/-! ### The basic code points -/
def bas (f : Nat → Int) : Nat → List Int
  | 0 => []
  | x + 1 => bas f x ++ (if f x < 128 then [f x] else [])
def head (f : Nat → Int) (n : Nat) : List Int := bas f n ++ (if 0 < cle f 127 n then [45] else [])

theorem bas_len (f : Nat → Int) (x : Nat) : (bas f x).length = cle f 127 x := by
  induction x with
  | zero => rfl
  | succ x ih =>
    simp only [bas]
    by_cases h : f x < 128
    · rw [if_pos h, List.length_append, ih, cle_succ_yes f 127 x (by omega)]; rfl
    · rw [if_neg h, List.length_append, ih, cle_succ_no f 127 x (by omega)]; rfl

theorem bas_yes (f : Nat → Int) (x : Nat) (h : f x < 128) : bas f (x + 1) = bas f x ++ [f x] := by simp only [bas]; rw [if_pos h]
theorem bas_no (f : Nat → Int) (x : Nat) (h : ¬ f x < 128) : bas f (x + 1) = bas f x := by simp only [bas]; rw [if_neg h, List.append_nil]
theorem bas_pref (f : Nat → Int) {x y : Nat} (hxy : x ≤ y) : bas f x <+: bas f y := by
  induction y with
  | zero => obtain rfl : x = 0 := by omega
            exact List.prefix_refl _
  | succ y ih =>
    by_cases e : x = y + 1
    · subst e; exact List.prefix_refl _
    · exact (ih (by omega)).trans (List.prefix_append _ _)
theorem head_pref (f : Nat → Int) (n : Nat) {x : Nat} (hx : x ≤ n) : bas f x <+: head f n := (bas_pref f hx).trans (List.prefix_append _ _)
theorem head_len (f : Nat → Int) (n : Nat) : (head f n).length ≤ n + 1 := by
  have := num_le (fun k => decide (f k ≤ 127)) n
  have h2 := bas_len f n
  unfold head
  rw [List.length_append, h2]
  have : cle f 127 n ≤ n := num_le _ _
  split <;> simp <;> omega

end Go.Proofs.Qxb6602111a.Em
