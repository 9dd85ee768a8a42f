/-
  WALKS: adapt, ZZadapt.
-/
import Derived.Test.Qxb6602111aRows
import Derived.Test.Qxb6602111aKit
import Derived.Test.Qxb6602111aAdaptMath
namespace Go.Proofs.Qxb6602111a
open Go.RowKit Kit

set_option maxHeartbeats 800000 in
theorem adapt_any (delta points : Int) (first : Bool) (w : World) (h0 : 0 ≤ delta) (h1 : delta ≤ 9223372036854775807) (hp : 1 ≤ points) (hp1 : points ≤ 9223372036854775807) :
    Calls Try.prog 32 #[.int .i64 delta, .int .i64 points, .bool first] w fun e w' => e = .returned (.int .i64 (Am.adaptF delta points first)) ∧ w = w' := by
  obtain ⟨bd0, bd1⟩ := Am.damped_bd delta points first h0 h1 hp
  obtain ⟨D, hD⟩ : ∃ D, D = Am.damped delta points first := ⟨_, rfl⟩
  have hF : Am.adaptF delta points first = 36 * (Am.M D : Int) + 36 * (D / 35 ^ Am.M D) / (D / 35 ^ Am.M D + 38) := by rw [hD]; rfl
  rw [← hD] at bd0 bd1
  rw [hF]
  clear hF
  have m64 := Am.M_64 D
  have HD : Hid (D = Am.damped delta points first) := hD
  clear hD
  cases first
  · have e1 : D = delta / 2 + delta / 2 / points := HD.out
    have q0 : 0 ≤ delta / 2 / points := Int.ediv_nonneg (by omega) (by omega)
    have q1 : delta / 2 / points ≤ delta / 2 := Int.ediv_le_self _ (by omega)
    have HE := hide e1
    clear e1 HD
    go_enter Try.func32, Try.ntmps32
    go_wp2
    go_loop [0, 7] (fun t k => ∃ (i : Nat) (X : Int), i ≤ Am.M D ∧ t = .int .i64 X ∧ k = .int .i64 (36 * (i : Int)) ∧ X = D / 35 ^ i) (fun t _ => (intOf t).toNat)
    case atStart => exact ⟨0, D, Nat.zero_le _, by rw [HE.out], rfl, by simp⟩
    case round =>
      obtain ⟨i, X, hi, rfl, rfl, hX⟩ := hrel
      have x0 : 0 ≤ X := by rw [hX]; exact Am.div_nonneg' D bd0 i
      have x1 : X ≤ D := by rw [hX]; exact Am.div_le' D bd0 i
      have HX := hide hX
      clear hX
      by_cases hgt : 455 < X
      · have hlt : i < Am.M D := Am.lt_M D bd1 i hi (by rw [← HX.out]; exact hgt)
        go_wp2
        go_round
        case rel => exact ⟨i + 1, X / 35, by omega, rfl, by go_num, by rw [Am.div_succ, ← HX.out]⟩
        case measure => simp [intOf]; omega
      · have he : i = Am.M D := Am.eq_M D i hi (by rw [← HX.out]; exact hgt)
        have HF : Hid (36 * (i : Int) + 36 * X / (X + 38) = 36 * (Am.M D : Int) + 36 * (D / 35 ^ Am.M D) / (D / 35 ^ Am.M D + 38)) := by rw [← he, ← HX.out]; rfl
        have y0 : 0 ≤ 36 * X / (X + 38) := Int.ediv_nonneg (by omega) (by omega)
        have y1 : 36 * X / (X + 38) ≤ 36 * X := Int.ediv_le_self _ (by omega)
        clear he
        go_wp2
        go_ret
        exact ⟨ret_int HF.out, rfl⟩
  · have e1 : D = delta / 700 + delta / 700 / points := HD.out
    have q0 : 0 ≤ delta / 700 / points := Int.ediv_nonneg (by omega) (by omega)
    have q1 : delta / 700 / points ≤ delta / 700 := Int.ediv_le_self _ (by omega)
    have HE := hide e1
    clear e1 HD
    go_enter Try.func32, Try.ntmps32
    go_wp2
    go_loop [0, 7] (fun t k => ∃ (i : Nat) (X : Int), i ≤ Am.M D ∧ t = .int .i64 X ∧ k = .int .i64 (36 * (i : Int)) ∧ X = D / 35 ^ i) (fun t _ => (intOf t).toNat)
    case atStart => exact ⟨0, D, Nat.zero_le _, by rw [HE.out], rfl, by simp⟩
    case round =>
      obtain ⟨i, X, hi, rfl, rfl, hX⟩ := hrel
      have x0 : 0 ≤ X := by rw [hX]; exact Am.div_nonneg' D bd0 i
      have x1 : X ≤ D := by rw [hX]; exact Am.div_le' D bd0 i
      have HX := hide hX
      clear hX
      by_cases hgt : 455 < X
      · have hlt : i < Am.M D := Am.lt_M D bd1 i hi (by rw [← HX.out]; exact hgt)
        go_wp2
        go_round
        case rel => exact ⟨i + 1, X / 35, by omega, rfl, by go_num, by rw [Am.div_succ, ← HX.out]⟩
        case measure => simp [intOf]; omega
      · have he : i = Am.M D := Am.eq_M D i hi (by rw [← HX.out]; exact hgt)
        have HF : Hid (36 * (i : Int) + 36 * X / (X + 38) = 36 * (Am.M D : Int) + 36 * (D / 35 ^ Am.M D) / (D / 35 ^ Am.M D + 38)) := by rw [← he, ← HX.out]; rfl
        have y0 : 0 ≤ 36 * X / (X + 38) := Int.ediv_nonneg (by omega) (by omega)
        have y1 : 36 * X / (X + 38) ≤ 36 * X := Int.ediv_le_self _ (by omega)
        clear he
        go_wp2
        go_ret
        exact ⟨ret_int HF.out, rfl⟩

theorem zzadapt_any (delta points : Int) (first : Bool) (w : World) (h0 : 0 ≤ delta) (h1 : delta ≤ 9223372036854775807) (hp : 1 ≤ points) (hp1 : points ≤ 9223372036854775807) :
    Calls Try.prog 19 #[.int .i64 delta, .int .i64 points, .bool first] w fun e w' => e = .returned (.int .i64 (Am.adaptF delta points first)) ∧ w = w' := by
  go_enter Try.func19, Try.ntmps19
  go_wp2_with (go_at_call 32; refine (adapt_any delta points first _ h0 h1 hp hp1).mono ?_; rintro e w' ⟨rfl, rfl⟩)
  go_ret
  exact ⟨rfl, rfl⟩

end Go.Proofs.Qxb6602111a
