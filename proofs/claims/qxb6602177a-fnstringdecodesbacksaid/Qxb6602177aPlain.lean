import Derived.Test.Qxb6602177aStr
namespace Go.Proofs.Qxb6602177a
open Go.Proofs Go.RowKit Go.Proofs.Qxb6602177a.Kit

namespace Sd
theorem text_len8 (xs : List Nat) : (text xs 8).length = 47 := text_len xs 7

theorem text_at (xs : List Nat) (j i : Nat) (hi : i < 5) : ∀ n, j < n → (text xs n)[6 * j + i]? = (letters (word xs j))[i]?
  | 0, h => by omega
  | n + 1, h => by
    rw [text]
    cases n with
    | zero =>
      obtain rfl : j = 0 := by omega
      simp [text]
    | succ m =>
      by_cases hj : j < m + 1
      · rw [List.getElem?_append_left (by rw [text_len]; omega)]
        exact text_at xs j i hi (m + 1) hj
      · obtain rfl : j = m + 1 := by omega
        rw [List.getElem?_append_right (by rw [text_len]; omega), text_len]
        rw [show 6 * (m + 1) + i - (6 * m + 5) = i + 1 by omega]
        simp

theorem text_dash (xs : List Nat) (j : Nat) (h0 : 0 < j) : ∀ n, j < n → (text xs n)[6 * j - 1]? = some 45
  | 0, h => by omega
  | n + 1, h => by
    rw [text]
    cases n with
    | zero => omega
    | succ m =>
      by_cases hj : j < m + 1
      · rw [List.getElem?_append_left (by rw [text_len]; omega)]
        exact text_dash xs j h0 (m + 1) hj
      · obtain rfl : j = m + 1 := by omega
        rw [List.getElem?_append_right (by rw [text_len]; omega), text_len]
        rw [show 6 * (m + 1) - 1 - (6 * m + 5) = 0 by omega]
        simp

theorem word_lt (xs : List Nat) (j : Nat) (hx : ∀ i, xs.getD i 0 < 256) : word xs j < 65536 := by
  have := hx (2 * j); have := hx (2 * j + 1); unfold word; omega

/-- Bit i of word j. -/
def bit (xs : List Nat) (k : Nat) : Nat := xs.getD (k / 8) 0 / 2 ^ (7 - k % 8) % 2
theorem bit_word (xs : List Nat) (hx : ∀ i, xs.getD i 0 < 256) (j i : Nat) (hi : i < 16) : bit xs (16 * j + i) = word xs j / 2 ^ (15 - i) % 2 := by
  have h1 := hx (2 * j); have h2 := hx (2 * j + 1)
  unfold bit word
  by_cases h8 : i < 8
  · rw [show (16 * j + i) / 8 = 2 * j by omega, show (16 * j + i) % 8 = i by omega]
    generalize xs.getD (2 * j) 0 = A at *
    generalize xs.getD (2 * j + 1) 0 = C at *
    have h : i = 0 ∨ i = 1 ∨ i = 2 ∨ i = 3 ∨ i = 4 ∨ i = 5 ∨ i = 6 ∨ i = 7 := by omega
    rcases h with rfl | rfl | rfl | rfl | rfl | rfl | rfl | rfl <;> simp <;> omega
  · rw [show (16 * j + i) / 8 = 2 * j + 1 by omega, show (16 * j + i) % 8 = i - 8 by omega]
    generalize xs.getD (2 * j) 0 = A at *
    generalize xs.getD (2 * j + 1) 0 = C at *
    have h : i = 8 ∨ i = 9 ∨ i = 10 ∨ i = 11 ∨ i = 12 ∨ i = 13 ∨ i = 14 ∨ i = 15 := by omega
    rcases h with rfl | rfl | rfl | rfl | rfl | rfl | rfl | rfl <;> simp <;> omega

/-- The number that the t bits from bit q on spell. -/
def grp (V q t : Nat) : Nat := V / 2 ^ (16 - (q + t)) % 2 ^ t
theorem grp_zero (V q : Nat) : grp V q 0 = 0 := by simp [grp, Nat.mod_one]
theorem grp_succ (V q t : Nat) (h : q + t < 16) : grp V q (t + 1) = grp V q t * 2 + V / 2 ^ (15 - (q + t)) % 2 := by
  unfold grp
  rw [show 16 - (q + (t + 1)) = 15 - (q + t) by omega, show 16 - (q + t) = 15 - (q + t) + 1 by omega]
  rw [Nat.pow_succ 2 t, Nat.mul_comm (2 ^ t) 2, Nat.mod_mul, Nat.pow_succ, Nat.div_div_eq_div_mul]
  omega
theorem grp_lt (V q t : Nat) : grp V q t < 2 ^ t := Nat.mod_lt _ (Nat.two_pow_pos t)
end Sd

theorem str_at (S : ByteArray) (p : Nat) (c : UInt8) (h : S.data[p]? = some c) (W : World) : (Instr.index 9 (.string S) (.int .i64 (p : Int))).run Try.prog W = .ok (.int .u8 (c.toNat : Int)) W := by
  have hp : p < S.size := by
    have := Array.getElem?_eq_some_iff.1 h
    exact this.1
  have hc : S[p] = c := by
    have := (Array.getElem?_eq_some_iff.1 h).2
    exact this
  rw [run_index_string _ _ _ _ _ Try.underlying9]
  simp [hp, hc]
theorem con_at' (w : World) (q : Nat) (h : q < 16) : (Instr.index 9 (.string ⟨#[98, 100, 102, 103, 104, 106, 107, 108, 109, 110, 112, 114, 115, 116, 118, 122]⟩) (.int .i64 (q : Int))).run Try.prog w = .ok (.int .u8 (Sd.con q).toNat) w := by
  have h : q = 0 ∨ q = 1 ∨ q = 2 ∨ q = 3 ∨ q = 4 ∨ q = 5 ∨ q = 6 ∨ q = 7 ∨ q = 8 ∨ q = 9 ∨ q = 10 ∨ q = 11 ∨ q = 12 ∨ q = 13 ∨ q = 14 ∨ q = 15 := by omega
  rcases h with h | h | h | h | h | h | h | h | h | h | h | h | h | h | h | h <;> subst h <;> rfl
theorem vow_at' (w : World) (q : Nat) (h : q < 4) : (Instr.index 9 (.string ⟨#[97, 105, 111, 117]⟩) (.int .i64 (q : Int))).run Try.prog w = .ok (.int .u8 (Sd.vow q).toNat) w := by
  have h : q = 0 ∨ q = 1 ∨ q = 2 ∨ q = 3 := by omega
  rcases h with h | h | h | h <;> subst h <;> rfl

theorem i64_and1 (x : Int) (h₀ : 0 ≤ x) (h₁ : x < 256) : bits .and .i64 x 1 = x % 2 := by
  have wr : ∀ n : Int, 0 ≤ n → n < 2 ^ 8 → IntKind.i64.wrap n = n := fun n h0 h1 => by rw [IntKind.wrap_i64]; omega
  exact bits_mask .i64 8 (by decide) wr 1 (by decide) x h₀ h₁

set_option maxHeartbeats 1000000 in
set_option maxRecDepth 100000 in
theorem bitAt_calls (xs : List Nat) (k : Nat) (w : World) (hl : xs.length = 16) (hx : ∀ i, xs.getD i 0 < 256) (hk : k < 128) :
    Calls Try.prog 7 #[seedV xs, .int .i64 k] w fun e w' => e = .returned (.int .i64 ((Sd.bit xs k : Nat) : Int)) ∧ Below w.heap.size w w' := by
  unfold seedV
  have hk8 : k / 8 < xs.length := by omega
  obtain ⟨x, hx'⟩ : ∃ x, x = xs.getD (k / 8) 0 := ⟨_, rfl⟩
  have hg : xs[k / 8]? = some x := by rw [hx', List.getD_eq_getElem?_getD, List.getElem?_eq_getElem hk8]; rfl
  have hb := hx (k / 8)
  rw [← hx'] at hb
  have hd : x / 2 ^ (7 - k % 8) ≤ x := Nat.div_le_self _ _
  have HB : Hid (Sd.bit xs k = x / 2 ^ (7 - k % 8) % 2) := by unfold Sd.bit; rw [← hx']; rfl
  clear hx hx'
  have hwr : wrap64 ((x : Int) / 2 ^ (7 - k % 8)) = ((x / 2 ^ (7 - k % 8) : Nat) : Int) := by
    have e : (x : Int) / 2 ^ (7 - k % 8) = ((x / 2 ^ (7 - k % 8) : Nat) : Int) := by simp
    rw [e]; unfold wrap64; generalize x / 2 ^ (7 - k % 8) = Y at *; omega
  have hand : bits .and .i64 ((x / 2 ^ (7 - k % 8) : Nat) : Int) 1 = ((x / 2 ^ (7 - k % 8) : Nat) : Int) % 2 := by
    clear hwr HB; generalize x / 2 ^ (7 - k % 8) = Y at *; exact i64_and1 _ (by omega) (by omega)
  have HA := hide hwr
  have HN := hide hand
  clear hwr hand hd
  go_enter Try.func7, Try.ntmps7
  go_wp2_with fail
  go_ret
  rw [HA.out, HN.out, HB.out]
  exact ⟨rfl, (Below.refl _ _).alloc (Nat.le_refl _) _⟩
end Go.Proofs.Qxb6602177a
