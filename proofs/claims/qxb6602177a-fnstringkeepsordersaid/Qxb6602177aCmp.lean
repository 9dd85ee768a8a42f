import Derived.Test.Qxb6602177aPlain
import Derived.Laws.Rows
namespace Go.Proofs.Qxb6602177a
open Go.Proofs Go.RowKit Go.Proofs.Qxb6602177a.Kit

namespace Sd
/-- r tells which of f, g is ahead at their first difference below n. -/
def Cmp (f g : Nat → Nat) (n : Nat) (r : Int) : Prop :=
  (∃ i, i < n ∧ (∀ k, k < i → f k = g k) ∧ f i < g i ∧ r = -1) ∨ (∃ i, i < n ∧ (∀ k, k < i → f k = g k) ∧ g i < f i ∧ r = 1) ∨ ((∀ k, k < n → f k = g k) ∧ r = 0)

theorem Cmp.lt {f g : Nat → Nat} {n : Nat} {r : Int} (h : Cmp f g n r) {i : Nat} (hi : i < n) (he : ∀ k, k < i → f k = g k) (hl : f i < g i) : r = -1 := by
  rcases h with ⟨j, hj, e, l, rfl⟩ | ⟨j, hj, e, l, rfl⟩ | ⟨e, rfl⟩
  · rfl
  · rcases Nat.lt_trichotomy i j with h | h | h
    · have := e i h; omega
    · subst h; omega
    · have := he j h; omega
  · have := e i hi; omega
theorem Cmp.gt {f g : Nat → Nat} {n : Nat} {r : Int} (h : Cmp f g n r) {i : Nat} (hi : i < n) (he : ∀ k, k < i → f k = g k) (hl : g i < f i) : r = 1 := by
  rcases h with ⟨j, hj, e, l, rfl⟩ | ⟨j, hj, e, l, rfl⟩ | ⟨e, rfl⟩
  · rcases Nat.lt_trichotomy i j with h | h | h
    · have := e i h; omega
    · subst h; omega
    · have := he j h; omega
  · rfl
  · have := e i hi; omega
theorem Cmp.eq {f g : Nat → Nat} {n : Nat} {r : Int} (h : Cmp f g n r) (he : ∀ k, k < n → f k = g k) : r = 0 := by
  rcases h with ⟨j, hj, e, l, rfl⟩ | ⟨j, hj, e, l, rfl⟩ | ⟨e, rfl⟩
  · have := he j hj; omega
  · have := he j hj; omega
  · rfl

theorem con_mono {a b : Nat} (hb : b < 16) (h : a < b) : (con a).toNat < (con b).toNat := by
  have key : ∀ b : Fin 16, ∀ a : Fin 16, a.val < b.val → (con a.val).toNat < (con b.val).toNat := by decide
  exact key ⟨b, hb⟩ ⟨a, by omega⟩ h
theorem vow_mono {a b : Nat} (hb : b < 4) (h : a < b) : (vow a).toNat < (vow b).toNat := by
  have key : ∀ b : Fin 4, ∀ a : Fin 4, a.val < b.val → (vow a.val).toNat < (vow b.val).toNat := by decide
  exact key ⟨b, hb⟩ ⟨a, by omega⟩ h

/-- Letter t of the word V. -/
def lett (V t : Nat) : Nat := ((letters V).getD t 0).toNat
theorem lett_lt {V U : Nat} (h : V < U) (hU : U < 65536) : ∃ t, t < 5 ∧ (∀ s, s < t → lett V s = lett U s) ∧ lett V t < lett U t := by
  by_cases h0 : V / 4096 < U / 4096
  · exact ⟨0, by omega, fun s hs => by omega, by simpa [lett, letters] using con_mono (by omega) h0⟩
  · have e0 : V / 4096 = U / 4096 := by omega
    by_cases h1 : V / 1024 % 4 < U / 1024 % 4
    · refine ⟨1, by omega, fun s hs => ?_, by simpa [lett, letters] using vow_mono (by omega) h1⟩
      obtain rfl : s = 0 := by omega
      simp [lett, letters, e0]
    · have e1 : V / 1024 % 4 = U / 1024 % 4 := by omega
      by_cases h2 : V / 64 % 16 < U / 64 % 16
      · refine ⟨2, by omega, fun s hs => ?_, by simpa [lett, letters] using con_mono (by omega) h2⟩
        have hs' : s = 0 ∨ s = 1 := by omega
        rcases hs' with rfl | rfl <;> simp [lett, letters, e0, e1]
      · have e2 : V / 64 % 16 = U / 64 % 16 := by omega
        by_cases h3 : V / 16 % 4 < U / 16 % 4
        · refine ⟨3, by omega, fun s hs => ?_, by simpa [lett, letters] using vow_mono (by omega) h3⟩
          have hs' : s = 0 ∨ s = 1 ∨ s = 2 := by omega
          rcases hs' with rfl | rfl | rfl <;> simp [lett, letters, e0, e1, e2]
        · have e3 : V / 16 % 4 = U / 16 % 4 := by omega
          have h4 : V % 16 < U % 16 := by omega
          refine ⟨4, by omega, fun s hs => ?_, by simpa [lett, letters] using con_mono (by omega) h4⟩
          have hs' : s = 0 ∨ s = 1 ∨ s = 2 ∨ s = 3 := by omega
          rcases hs' with rfl | rfl | rfl | rfl <;> simp [lett, letters, e0, e1, e2, e3]

/-- Character k of the text. -/
def chr (xs : List Nat) (k : Nat) : Nat := ((text xs 8).getD k 0).toNat
theorem chr_let (xs : List Nat) {j t : Nat} (hj : j < 8) (ht : t < 5) : chr xs (6 * j + t) = lett (word xs j) t := by
  unfold chr lett
  rw [List.getD_eq_getElem?_getD, text_at xs j t ht 8 hj, List.getD_eq_getElem?_getD]
theorem chr_dash (xs : List Nat) {j : Nat} (h0 : 0 < j) (hj : j < 8) : chr xs (6 * j - 1) = 45 := by
  unfold chr
  rw [List.getD_eq_getElem?_getD, text_dash xs j h0 8 hj]
  rfl
theorem chr_same {xs ys : List Nat} {k : Nat} (hk : k < 47) (h : k % 6 < 5 → lett (word xs (k / 6)) (k % 6) = lett (word ys (k / 6)) (k % 6)) : chr xs k = chr ys k := by
  by_cases h6 : k % 6 < 5
  · have e : k = 6 * (k / 6) + k % 6 := by omega
    rw [e, chr_let xs (by omega) h6, chr_let ys (by omega) h6]
    exact h h6
  · have e : k = 6 * (k / 6 + 1) - 1 := by omega
    rw [e, chr_dash xs (by omega) (by omega), chr_dash ys (by omega) (by omega)]

def byt (xs : List Nat) (k : Nat) : Nat := xs.getD k 0
theorem lt_case {xs ys : List Nat} (hx : ∀ i, byt xs i < 256) (hy : ∀ i, byt ys i < 256) {i : Nat} (hi : i < 16) (he : ∀ k, k < i → byt xs k = byt ys k) (hl : byt xs i < byt ys i) :
    ∃ p, p < 47 ∧ (∀ k, k < p → chr xs k = chr ys k) ∧ chr xs p < chr ys p := by
  obtain ⟨j, hj⟩ : ∃ j, j = i / 2 := ⟨_, rfl⟩
  have hw : ∀ a, a < j → word xs a = word ys a := by
    intro a ha
    have h1 := he (2 * a) (by omega); have h2 := he (2 * a + 1) (by omega)
    unfold byt at h1 h2; unfold word; rw [h1, h2]
  have hwl : word xs j < word ys j := by
    have b1 := hx (2 * j + 1); have b2 := hy (2 * j + 1)
    show 256 * byt xs (2 * j) + byt xs (2 * j + 1) < 256 * byt ys (2 * j) + byt ys (2 * j + 1)
    by_cases hp : i = 2 * j
    · rw [hp] at hl; omega
    · have hp' : i = 2 * j + 1 := by omega
      have h1 := he (2 * j) (by omega)
      rw [hp'] at hl; omega
  have hu : word ys j < 65536 := word_lt ys j hy
  obtain ⟨t, ht, hs, hlt⟩ := lett_lt hwl hu
  refine ⟨6 * j + t, by omega, fun k hk => ?_, ?_⟩
  · apply chr_same (by omega)
    intro h6
    by_cases hkj : k / 6 < j
    · rw [hw _ hkj]
    · have e : k / 6 = j := by omega
      rw [e]; exact hs _ (by omega)
  · rw [chr_let xs (by omega) ht, chr_let ys (by omega) ht]; exact hlt

theorem order {xs ys : List Nat} (hx : ∀ i, byt xs i < 256) (hy : ∀ i, byt ys i < 256) {r s : Int} (h : Cmp (byt xs) (byt ys) 16 r) (h' : Cmp (chr xs) (chr ys) 47 s) : r = s := by
  rcases h with ⟨i, hi, e, l, rfl⟩ | ⟨i, hi, e, l, rfl⟩ | ⟨e, rfl⟩
  · obtain ⟨p, hp, e', l'⟩ := lt_case hx hy hi e l
    exact (h'.lt hp e' l').symm
  · obtain ⟨p, hp, e', l'⟩ := lt_case hy hx hi (fun k hk => (e k hk).symm) l
    exact (h'.gt hp (fun k hk => (e' k hk).symm) l').symm
  · refine (h'.eq fun k hk => chr_same hk fun h6 => ?_).symm
    have h1 := e (2 * (k / 6)) (by omega); have h2 := e (2 * (k / 6) + 1) (by omega)
    unfold byt at h1 h2
    have : word xs (k / 6) = word ys (k / 6) := by unfold word; rw [h1, h2]
    rw [this]
end Sd
end Go.Proofs.Qxb6602177a
