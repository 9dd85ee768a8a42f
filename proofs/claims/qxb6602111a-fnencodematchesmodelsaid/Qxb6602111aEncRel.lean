/-
  PLAIN MATHEMATICS: the encoder's loops, round by round.
-/
import Derived.Test.Qxb6602111aEncState
namespace Go.Proofs.Qxb6602111a.Em

/-- At the head of a round of the outer loop. -/
structure Out (f : Nat → Int) (n J : Nat) (nn : Int) (j : Nat) (delta : Int) : Prop where
  lo : 128 ≤ nn
  hi : nn ≤ 1114112
  hj : j ≤ J
  cnt : cle f 127 n + j = cle f (nn - 1) n
  eq : delta = (nn - pc f n (head f n) j) * size f n j - pp f n (head f n) j - 1
  d0 : 0 ≤ delta
  d1 : delta ≤ (n : Int) + 1

/-- At place x of the inner loop, at the value c. -/
structure Inn (f : Nat → Int) (n J : Nat) (c : Int) (x j : Nat) (dd : Int) : Prop where
  hj : j ≤ J
  cnt : cle f 127 n + j = cle f (c - 1) n + ceq f c x
  eq : dd = (c - pc f n (head f n) j) * size f n j - pp f n (head f n) j - 1 + (cle f c x : Int)
  next : j < (ord f n).length → f (px f n j) = c → j < J
  d0 : 0 ≤ dd
  d1 : dd ≤ 2147483647 + (x : Int)
  d2 : 0 < ceq f c x → dd ≤ (x : Int)

section
variable {f : Nat → Int} {n J : Nat}

theorem Out.start : Out f n J 128 0 0 := ⟨by omega, by omega, by omega, rfl, by rw [pc_zero, pp_zero]; simp, by omega, by omega⟩

theorem size_eq (f : Nat → Int) (n j : Nat) : size f n j = ((cle f 127 n + j : Nat) : Int) + 1 := by unfold size; omega

/-- All is done. -/
theorem Out.fin {nn : Int} {j : Nat} {delta : Int} (h : Out f n J nn j delta) (hJ : Stop f n (head f n) J) (hd : n ≤ cle f 127 n + j) : j = J ∧ J = (ord f n).length := by
  have h1 := ord_len f n
  have h2 := hJ.le
  have h3 := h.hj
  omega

/-- Something is left: the next value. -/
theorem Out.left {nn : Int} {j : Nat} {delta : Int} (h : Out f n J nn j delta) (hd : cle f 127 n + j < n) (hz : ∀ k, k < n → 0 ≤ f k ∧ f k ≤ 1114111) {c : Int} (h2 : ∀ k, k < n → nn ≤ f k → c ≤ f k) (h3 : c = 1114111 ∨ ∃ k, k < n ∧ f k = c ∧ nn ≤ c) :
    nn ≤ c ∧ ∃ k, k < n ∧ f k = c := by
  obtain ⟨k, hk, hf⟩ := num_ex (p := fun k => decide (f k ≤ nn - 1)) (x := n) (by have := h.cnt; unfold cle at *; omega)
  have hk2 : nn ≤ f k := by simp at hf; omega
  have := h2 k hk hk2
  have := hz k hk
  rcases h3 with e | ⟨k', hk', e1, e2⟩
  · exact ⟨by omega, k, hk, by omega⟩
  · exact ⟨e2, k', hk', e1⟩

theorem Out.group {nn : Int} {j : Nat} {delta : Int} (h : Out f n J nn j delta) {c : Int} (hc : nn ≤ c) (h2 : ∀ k, k < n → nn ≤ f k → c ≤ f k) (hex : ∃ k, k < n ∧ f k = c) :
    cle f 127 n + j = cle f (c - 1) n ∧ j < (ord f n).length ∧ f (px f n j) = c ∧ (j = 0 ∨ f (px f n (j - 1)) ≠ f (px f n j)) := by
  have e : cle f 127 n + j = cle f (c - 1) n := by rw [cle_gap f nn c n hc h2]; exact h.cnt
  have := h.lo
  exact ⟨e, group_start f n (by omega) (by omega) hex⟩

/-- The jump passes maxDelta. -/
theorem Out.ovf {nn : Int} {j : Nat} {delta : Int} (h : Out f n J nn j delta) (hJ : Stop f n (head f n) J) {c : Int} (hc : nn ≤ c) (h2 : ∀ k, k < n → nn ≤ f k → c ≤ f k) (hex : ∃ k, k < n ∧ f k = c)
    (ht : ¬ c - nn ≤ (2147483647 - delta) / (((cle f 127 n + j : Nat) : Int) + 1)) : J = j ∧ j < (ord f n).length := by
  obtain ⟨_, hm, hpx, hg⟩ := h.group hc h2 hex
  refine ⟨hJ.eq h.hj ⟨hg, ?_⟩, hm⟩
  have e := h.eq
  rw [size_eq] at e
  have := (test_iff (c := c) (by omega : (0 : Int) ≤ ((cle f 127 n + j : Nat) : Int)) e)
  rw [hpx, size_eq]
  exact Classical.byContradiction fun hn => ht (this.2 hn)

/-- It does not. -/
theorem Out.next {nn : Int} {j : Nat} {delta : Int} (h : Out f n J nn j delta) (hJ : Stop f n (head f n) J) {c : Int} (hc : nn ≤ c) (h2 : ∀ k, k < n → nn ≤ f k → c ≤ f k) (hex : ∃ k, k < n ∧ f k = c)
    (ht : c - nn ≤ (2147483647 - delta) / (((cle f 127 n + j : Nat) : Int) + 1)) :
    Inn f n J c 0 j (delta + (c - nn) * (((cle f 127 n + j : Nat) : Int) + 1)) ∧ 0 ≤ (c - nn) * (((cle f 127 n + j : Nat) : Int) + 1) ∧ delta + (c - nn) * (((cle f 127 n + j : Nat) : Int) + 1) ≤ 2147483647 := by
  obtain ⟨hcnt, hm, hpx, hg⟩ := h.group hc h2 hex
  have e := h.eq
  rw [size_eq] at e
  have hti := (test_iff (c := c) (by omega : (0 : Int) ≤ ((cle f 127 n + j : Nat) : Int)) e).1 ht
  have hp : 0 ≤ (c - nn) * (((cle f 127 n + j : Nat) : Int) + 1) := Int.mul_nonneg (by omega) (by omega)
  have hle := (Int.le_ediv_iff_mul_le (by omega : (0 : Int) < ((cle f 127 n + j : Nat) : Int) + 1)).1 ht
  have hd0 := h.d0
  refine ⟨⟨h.hj, by simpa [ceq, num] using hcnt, ?_, fun _ _ => hJ.lt h.hj hm (fun ho => hti (by have := ho.2; rw [hpx, size_eq] at this; exact this)), by omega, by omega, fun h0 => by simp [ceq, num] at h0⟩, hp, by omega⟩
  rw [size_eq]
  have e2 : (c - pc f n (head f n) j) * (((cle f 127 n + j : Nat) : Int) + 1) = (c - nn) * (((cle f 127 n + j : Nat) : Int) + 1) + (nn - pc f n (head f n) j) * (((cle f 127 n + j : Nat) : Int) + 1) := by rw [← Int.add_mul]; congr 1; omega
  rw [e2, e]
  simp [cle, num]
  omega

theorem Inn.below {c : Int} {x j : Nat} {dd : Int} (h : Inn f n J c x j dd) (hlt : f x < c) : Inn f n J c (x + 1) j (dd + 1) := by
  have e1 := ceq_succ_no f c x (by omega)
  have e2 := cle_succ_yes f c x (by omega)
  refine ⟨h.hj, by rw [e1]; exact h.cnt, by rw [e2, h.eq]; omega, h.next, by have := h.d0; omega, by have := h.d1; omega, fun h0 => ?_⟩
  rw [e1] at h0
  have := h.d2 h0
  omega

theorem Inn.above {c : Int} {x j : Nat} {dd : Int} (h : Inn f n J c x j dd) (hgt : c < f x) : Inn f n J c (x + 1) j dd := by
  have e1 := ceq_succ_no f c x (by omega)
  have e2 := cle_succ_no f c x (by omega)
  refine ⟨h.hj, by rw [e1]; exact h.cnt, by rw [e2, h.eq], h.next, h.d0, by have := h.d1; omega, fun h0 => ?_⟩
  rw [e1] at h0
  have := h.d2 h0
  omega

theorem Inn.ins {c : Int} {x j : Nat} {dd : Int} (h : Inn f n J c x j dd) (hJ : Stop f n (head f n) J) (hx : x < n) (h128 : 128 ≤ c) (heq : f x = c) :
    j < (ord f n).length ∧ j < J ∧ px f n j = x ∧ dl f n (head f n) j = dd ∧ Inn f n J c (x + 1) (j + 1) 0 := by
  obtain ⟨hm, hpx⟩ := enc_at f n (x := x) (j := j) hx (by omega) (by rw [heq]; have := h.cnt; omega)
  have hjJ := h.next hm (by rw [hpx, heq])
  have e1 := ceq_succ_yes f c x heq
  have e2 := cle_succ_yes f c x (by omega)
  refine ⟨hm, hjJ, hpx, ?_, ⟨by omega, by rw [e1]; have := h.cnt; omega, ?_, fun hm' hc' => ?_, by omega, by omega, fun _ => by omega⟩⟩
  · unfold dl; rw [hpx, heq, h.eq]; omega
  · rw [pc_succ, pp_succ, hpx, heq, e2]; simp; omega
  · refine hJ.lt (by omega) hm' (fun ho => ?_)
    rcases ho.1 with h0 | h0
    · omega
    · rw [Nat.add_sub_cancel, hpx, heq, hc'] at h0; exact h0 rfl

/-- The inner loop is through. -/
theorem Inn.fin {c : Int} {j : Nat} {dd : Int} (h : Inn f n J c n j dd) (h128 : 128 ≤ c) (hc : c ≤ 1114111) (hex : ∃ k, k < n ∧ f k = c) : Out f n J (c + 1) j (dd + 1) := by
  have hs := cle_split f c n
  have hpos : 0 < ceq f c n := by obtain ⟨k, hk, e⟩ := hex; exact num_pos hk (by simp [e])
  have hcnt := h.cnt
  have he := h.eq
  have hd2 := h.d2 hpos
  have hd0 := h.d0
  refine ⟨by omega, by omega, h.hj, by rw [show c + 1 - 1 = c from by omega]; omega, ?_, by omega, by omega⟩
  have e : (c + 1 - pc f n (head f n) j) * size f n j = (c - pc f n (head f n) j) * size f n j + size f n j := by
    rw [show c + 1 - pc f n (head f n) j = (c - pc f n (head f n) j) + 1 from by omega, Int.add_mul, Int.one_mul]
  rw [e, he]
  have hsz := size_eq f n j
  omega

end
end Go.Proofs.Qxb6602111a.Em
