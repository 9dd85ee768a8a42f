/-
  WHAT THE MODEL's ROUNDS DO: lemmas outside the walk.
-/
import Derived.Test.Qxb6602111aDigits
import Derived.Deep.DeepCutAuto
namespace Go.Proofs.Qxb6602111a
open Go.RowKit Kit

theorem own_ne2 {w : World} {B e e' size size' n n' : Nat} {v v' : Value} {xs xs' : List Value} (h : w.ownsRow B e size v n xs) (h' : w.ownsRow B e' size' v' n' xs') (hne : e ≠ e') : v.ownBlock = none ∨ v.ownBlock ≠ v'.ownBlock := by
  rcases h.2 with ⟨rfl, _⟩ | ⟨g, cap, cur, rfl, _, hh, _⟩
  · exact .inl rfl
  · right
    intro hv
    rcases h'.2 with ⟨rfl, _⟩ | ⟨g', cap', cur', rfl, _, hh', _⟩
    · cases hv
    · simp [Value.ownBlock] at hv; subst hv; rw [hh'] at hh; simp at hh; exact hne hh.2.symm

/-- Behind an append onto an owned row: old memory. -/
theorem below_app {B e n : Nat} {xs : List Value} {w wr w1 : World} {u : Value} {o : Obj} (hB : B ≤ wr.heap.size) (hown : wr.ownsRow B e 1 u n xs) (hb : Below B w wr) (hgrow : (wr.alloc o).grownBy w1 u.ownBlock) : Below B w w1 :=
  (hb.alloc hB o).grown hgrow (by simp; omega) (fun j hj => (hown.lt j hj).1)

/-- .. another owned row of another tag. -/
theorem own_app {B e e' n n' : Nat} {xs xs' : List Value} {wr w1 : World} {u u' : Value} {o : Obj} (hown : wr.ownsRow B e 1 u n xs) (hoth : wr.ownsRow B e' 1 u' n' xs') (hne : e' ≠ e) (hgrow : (wr.alloc o).grownBy w1 u.ownBlock) : w1.ownsRow B e' 1 u' n' xs' :=
  (hoth.alloc o).kept hgrow (own_ne2 hoth hown hne)

/-- .. behind a store into an owned row. -/
theorem own_set {B e e' n n' g cap j : Nat} {xs xs' : List Value} {wr : World} {u' v : Value} (hown : wr.ownsRow B e 1 (.slice (some ⟨g, 0, none⟩) n cap) n xs) (hoth : wr.ownsRow B e' 1 u' n' xs') (hne : e' ≠ e) : (wr.setCell ⟨g, j, none⟩ v).ownsRow B e' 1 u' n' xs' :=
  hoth.kept (hown.stored j v).2 (by rcases own_ne2 hoth hown hne with h | h; exact .inl h; exact .inr h)

/-- Positions as cells. -/
abbrev pcell (l : List Nat) : List Value := l.map (fun i : Nat => Value.int .i64 (i : Int))
theorem pcell_len (l : List Nat) : (pcell l).length = l.length := by simp
theorem pcell_get (l : List Nat) (j : Nat) (hj : j < l.length) : (pcell l)[j]? = some (.int .i64 ((l.getD j 0 : Nat) : Int)) := by
  simp [List.getD, hj]

theorem nb_yes (f : Nat → Int) (x : Nat) (h : 128 ≤ f x) : Em.nb f (x + 1) = Em.nb f x ++ [x] := by simp [Em.nb, List.range_succ, h]
theorem nb_no (f : Nat → Int) (x : Nat) (h : ¬ 128 ≤ f x) : Em.nb f (x + 1) = Em.nb f x := by simp [Em.nb, List.range_succ, h]
theorem nb_len (f : Nat → Int) (n : Nat) : (Em.nb f n).length + Em.cle f 127 n = n := by rw [← (Em.ord_perm f n).length_eq]; exact Em.ord_len f n
theorem nb_mono (f : Nat → Int) {x y : Nat} (h : x ≤ y) : (Em.nb f x).length ≤ (Em.nb f y).length := by
  unfold Em.nb
  rw [← List.countP_eq_length_filter, ← List.countP_eq_length_filter, Em.countP_range, Em.countP_range]
  exact Em.num_mono _ h

/-! ### The sort's array -/
/-- b places shifted: the hole at b. -/
def holed (S : List Nat) (b s : Nat) (R : List Nat) : List Nat := S.take b ++ (s :: (S.drop b ++ R))

theorem holed_len (S R : List Nat) (b s : Nat) : (holed S b s R).length = S.length + 1 + R.length := by
  simp [holed]; omega

theorem holed_get (S R : List Nat) (b s i : Nat) (hb : b ≤ S.length) (hi : i < b) : (holed S b s R).getD i 0 = S.getD i 0 := by
  simp [holed, List.getD, List.getElem?_append_left (show i < (S.take b).length by simp; omega), hi]

/-- 'ord[b] = ord[b-1]'. -/
theorem holed_shift (S R : List Nat) (b s : Nat) (hb : b + 1 ≤ S.length) : (holed S (b + 1) s R).set (b + 1) (S.getD b 0) = holed S b (S.getD b 0) R := by
  unfold holed
  rw [List.set_append_right _ _ (by simp; omega), show b + 1 - (S.take (b + 1)).length = 0 from by simp; omega]
  rw [List.set_cons_zero]
  have e1 : S.take (b + 1) = S.take b ++ [S.getD b 0] := by
    rw [List.take_add_one, List.getD_eq_getElem?_getD, List.getElem?_eq_getElem (by omega)]; rfl
  have e2 : S.drop b = S.getD b 0 :: S.drop (b + 1) := by
    rw [List.drop_eq_getElem_cons (by omega), List.getD_eq_getElem?_getD, List.getElem?_eq_getElem (by omega)]; rfl
  rw [e1, e2]
  simp

/-- 'ord[b] = x'. -/
theorem holed_fill (S R : List Nat) (b s x : Nat) (hb : b ≤ S.length) : (holed S b s R).set b x = S.take b ++ (x :: S.drop b) ++ R := by
  unfold holed
  rw [List.set_append_right _ _ (by simp; omega), show b - (S.take b).length = 0 from by simp; omega]
  rw [List.set_cons_zero]
  simp

theorem holed_start (S R : List Nat) (x : Nat) : S ++ (x :: R) = holed S S.length x R := by simp [holed]

/-- What the sort has done after a rounds. -/
def sorted (f : Nat → Int) (l : List Nat) (a : Nat) : List Nat := Em.isort f (l.take a)
theorem sorted_len (f : Nat → Int) (l : List Nat) (a : Nat) (h : a ≤ l.length) : (sorted f l a).length = a := by
  rw [sorted, (Em.isort_perm f _).length_eq]; simp; omega
theorem sorted_mem (f : Nat → Int) (l : List Nat) (a x : Nat) (h : x ∈ sorted f l a) : x ∈ l := List.mem_of_mem_take ((Em.isort_perm f _).mem_iff.1 h)
theorem sorted_succ (f : Nat → Int) (l : List Nat) (a : Nat) (h : a < l.length) : sorted f l (a + 1) = Em.ins f (l.getD a 0) (sorted f l a) := by
  unfold sorted
  rw [List.take_add_one, List.getElem?_eq_getElem h, List.getD_eq_getElem?_getD, List.getElem?_eq_getElem h]
  exact Em.isort_snoc f _ _
theorem nb_pw (f : Nat → Int) (n : Nat) : (Em.nb f n).Pairwise (· < ·) := List.Pairwise.filter _ List.pairwise_lt_range
theorem sorted_le (f : Nat → Int) (n a i j : Nat) (hij : i ≤ j) (hj : j < (sorted f (Em.nb f n) a).length) : f ((sorted f (Em.nb f n) a).getD i 0) ≤ f ((sorted f (Em.nb f n) a).getD j 0) := by
  rcases Nat.lt_or_ge i j with h | h
  · have hs := List.pairwise_iff_getElem.1 (Em.isort_sorted f ((Em.nb f n).take a) (List.Pairwise.sublist (List.take_sublist _ _) (nb_pw f n))) i j (by unfold sorted at hj; omega) hj h
    rw [List.getD_eq_getElem?_getD, List.getD_eq_getElem?_getD, List.getElem?_eq_getElem hj, List.getElem?_eq_getElem (by omega : i < (sorted f (Em.nb f n) a).length)]
    unfold Em.Lx at hs
    simp only [Option.getD_some]
    unfold sorted
    omega
  · obtain rfl : i = j := by omega
    exact Int.le_refl _

theorem sorted_step (f : Nat → Int) (n a b : Nat) (ha : a < (Em.nb f n).length) (hb : b ≤ a) (h1 : b = 0 ∨ f ((sorted f (Em.nb f n) a).getD (b - 1) 0) ≤ f ((Em.nb f n).getD a 0))
    (h2 : ∀ i, b ≤ i → i < a → f ((Em.nb f n).getD a 0) < f ((sorted f (Em.nb f n) a).getD i 0)) :
    (sorted f (Em.nb f n) a).take b ++ ((Em.nb f n).getD a 0 :: (sorted f (Em.nb f n) a).drop b) = sorted f (Em.nb f n) (a + 1) := by
  have hl := sorted_len f (Em.nb f n) a (by omega)
  rw [sorted_succ f _ a ha]
  refine (Em.ins_at f _ _ b (by omega) (fun i hi => ?_) (fun hlt => h2 b (Nat.le_refl _) (by omega))).symm
  rcases h1 with rfl | h1
  · omega
  · exact Int.le_trans (sorted_le f n a i (b - 1) (by omega) (by omega)) h1

theorem nb_mem (f : Nat → Int) (n x : Nat) (h : x ∈ Em.nb f n) : x < n ∧ 128 ≤ f x := by simpa [Em.nb] using h
theorem nb_at (f : Nat → Int) (n a : Nat) (h : a < (Em.nb f n).length) : (Em.nb f n).getD a 0 < n := by
  apply (nb_mem f n _ _).1
  rw [List.getD_eq_getElem?_getD, List.getElem?_eq_getElem h]; exact List.getElem_mem h
theorem sorted_at (f : Nat → Int) (n a i : Nat) (h : i < (sorted f (Em.nb f n) a).length) : (sorted f (Em.nb f n) a).getD i 0 < n := by
  apply (nb_mem f n _ (sorted_mem f _ a _ _)).1
  rw [List.getD_eq_getElem?_getD, List.getElem?_eq_getElem h]; exact List.getElem_mem h

theorem pcell_append (l : List Nat) (y : Nat) : pcell l ++ [Value.int .i64 (y : Int)] = pcell (l ++ [y]) := by simp
theorem pcell_set (l : List Nat) (j y : Nat) : (pcell l).set j (Value.int .i64 (y : Int)) = pcell (l.set j y) := by simp [pcell, List.map_set]

/-- A cell of the array of positions. -/
theorem pcell_cell {w : World} {B g m cap : Nat} {l : List Nat} (h : w.ownsRow B 3 1 (.slice (some ⟨g, 0, none⟩) m cap) m (pcell l)) (j : Nat) (hj : j < l.length) : w.cell? ⟨g, j, none⟩ = some (.int .i64 ((l.getD j 0 : Nat) : Int)) := by
  have hl : l.length = m := by have := h.1; simpa using this
  rw [h.cellAt j (by omega), pcell_get l j hj]

/-- The sort before its first round. -/
theorem sort_start (f : Nat → Int) (l : List Nat) : sorted f l 1 ++ l.drop 1 = l := by
  cases l with
  | nil => rfl
  | cons y r => simp [sorted, Em.isort, Em.ins]
/-- .. and when it is through. -/
theorem sort_done (f : Nat → Int) (n A : Nat) (h : (Em.nb f n).length ≤ A) : sorted f (Em.nb f n) A ++ (Em.nb f n).drop A = Em.ord f n := by
  rw [List.drop_eq_nil_of_le h, List.append_nil, sorted, List.take_of_length_le h]; rfl

theorem sort_holed (f : Nat → Int) (l : List Nat) (A : Nat) (h : A < l.length) : sorted f l A ++ l.drop A = holed (sorted f l A) A (l.getD A 0) (l.drop (A + 1)) := by
  have hl := sorted_len f l A (by omega)
  rw [List.drop_eq_getElem_cons h, holed_start, hl, List.getD_eq_getElem?_getD, List.getElem?_eq_getElem h]
  rfl

theorem sort_at (f : Nat → Int) (l : List Nat) (A : Nat) (h : A < l.length) : (sorted f l A ++ l.drop A).getD A 0 = l.getD A 0 := by
  have hl := sorted_len f l A (by omega)
  rw [List.getD_eq_getElem?_getD, List.getElem?_append_right (by omega), hl, List.getElem?_drop, List.getD_eq_getElem?_getD]
  simp

theorem sort_next (f : Nat → Int) (n A bb s : Nat) (ha : A < (Em.nb f n).length) (hb : bb ≤ A) (h1 : bb = 0 ∨ f ((sorted f (Em.nb f n) A).getD (bb - 1) 0) ≤ f ((Em.nb f n).getD A 0))
    (h2 : ∀ i, bb ≤ i → i < A → f ((Em.nb f n).getD A 0) < f ((sorted f (Em.nb f n) A).getD i 0)) :
    (holed (sorted f (Em.nb f n) A) bb s ((Em.nb f n).drop (A + 1))).set bb ((Em.nb f n).getD A 0) = sorted f (Em.nb f n) (A + 1) ++ (Em.nb f n).drop (A + 1) := by
  have hl := sorted_len f (Em.nb f n) A (by omega)
  rw [holed_fill _ _ _ _ _ (by omega), sorted_step f n A bb ha hb h1 h2]

/-! ### One insertion's numbers -/
structure MR (f : Nat → Int) (n j px : Nat) (C PC PP BI : Int) : Prop where
  hpx : px = Em.px f n j
  hC : C = f px
  hPC : PC = Em.pc f n (Em.head f n) j
  hPP : PP = Em.pp f n (Em.head f n) j
  hBI : BI = Em.bi f n (Em.head f n) j
  p1 : px < n
  z0 : 128 ≤ C
  z1 : C ≤ 1114111
  c1 : 128 ≤ PC
  c2 : PC ≤ C
  q1 : -1 ≤ PP
  q2 : PP ≤ (Em.cle f 127 n : Int) + j - 1
  b0 : 0 ≤ BI
  b1 : BI ≤ 2340
  s2 : (Em.cle f 127 n : Int) + (j : Int) + 1 ≤ n
  r1 : 0 ≤ (C - PC) * ((Em.cle f 127 n : Int) + (j : Int) + 1)
  r2 : (C - PC) * ((Em.cle f 127 n : Int) + (j : Int) + 1) ≤ 1114111 * n
  e1 : Em.cle f C px ≤ px
  d0 : 0 ≤ (C - PC) * ((Em.cle f 127 n : Int) + (j : Int) + 1) + (Em.cle f C px : Int) - PP - 1
  d1 : (C - PC) * ((Em.cle f 127 n : Int) + (j : Int) + 1) + (Em.cle f C px : Int) - PP - 1 ≤ 1114112 * n
  hdl : Em.dl f n (Em.head f n) j = (C - PC) * ((Em.cle f 127 n : Int) + (j : Int) + 1) + (Em.cle f C px : Int) - PP - 1
  hov : Em.ovf f n (Em.head f n) j ↔ (j = 0 ∨ f (Em.px f n (j - 1)) ≠ C) ∧ 2147483647 < (C - PC) * ((Em.cle f 127 n : Int) + (j : Int) + 1) - PP - 1

theorem mr_ex (f : Nat → Int) (n j : Nat) (hj : j < (Em.ord f n).length) (hz : ∀ k, k < n → 0 ≤ f k ∧ f k ≤ 1114111) : ∃ px C PC PP BI, MR f n j px C PC PP BI := by
  obtain ⟨p1, p2⟩ := Em.px_mem f n hj
  obtain ⟨c1, c2⟩ := Em.pc_bd f n (Em.head f n) hj
  obtain ⟨q1, q2⟩ := Em.pp_bd f n (Em.head f n) (j := j) (by omega)
  obtain ⟨bi0, bi1⟩ := Em.bi_bd f n (Em.head f n) (j := j) (by omega)
  obtain ⟨s1, s2⟩ := Em.size_bd f n hj
  obtain ⟨zp0, zp1⟩ := hz _ p1
  obtain ⟨r1, r2⟩ := Em.prod_bd (n := n) (a := f (Em.px f n j) - Em.pc f n (Em.head f n) j) (s := Em.size f n j) (by omega) (by omega) s1 s2
  have d0 := Em.dl_nonneg f n (Em.head f n) hj
  have d1 := Em.dl_le f n (Em.head f n) hj (fun k hk => (hz k hk).2)
  exact ⟨_, _, _, _, _, rfl, rfl, rfl, rfl, rfl, p1, p2, zp1, c1, c2, q1, q2, bi0, bi1, s2, r1, r2, Em.num_le _ _, d0, d1, rfl, Iff.rfl⟩

/-- The array of positions stays while the text grows. -/
theorem owns_keep {B n m cap g : Nat} {xs : List Value} {l : List Value} {wr w5 : World} {u v5 : Value} (hown : wr.ownsRow B 3 1 (.slice (some ⟨g, 0, none⟩) m cap) m l) (_hW : wr.ownsRow B 5 1 u n xs)
    (hb : Rest wr w5 u v5) : w5.ownsRow B 3 1 (.slice (some ⟨g, 0, none⟩) m cap) m l := by
  refine ⟨hown.1, ?_⟩
  rcases hown.2 with h2 | ⟨g', cap', cur, hv, hg, hh, r⟩
  · exact .inl h2
  · refine .inr ⟨g', cap', cur, hv, hg, ?_, r⟩
    rw [hb.1 g' (lt_of_block hh) ?_]; exact hh
    intro e
    rcases _hW.2 with ⟨rfl, _⟩ | ⟨g2, _, _, rfl, _, hh2, _⟩
    · cases e
    · simp [Value.ownBlock] at e; subst e; rw [hh2] at hh; simp at hh

end Go.Proofs.Qxb6602111a
