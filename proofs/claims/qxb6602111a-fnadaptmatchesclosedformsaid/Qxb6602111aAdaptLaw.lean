/-
  WALK: FnAdaptMatchesClosedForm.
-/
import Derived.Test.Qxb6602111aAdapt
namespace Go.Proofs.Qxb6602111a
open Go.RowKit Kit

set_option maxRecDepth 100000 in
set_option maxHeartbeats 1600000 in
theorem adapt_law (delta points : Int) (first : Bool) (w : World) (h0 : 0 ≤ delta) (h1 : delta ≤ 9223372036854775807) (hp : 1 ≤ points) (hp1 : points ≤ 9223372036854775807) :
    Calls Try.prog 5 #[.int .i64 delta, .int .i64 points, .bool first] w fun e w' => e = .returned (.bool true) ∧ w = w' := by
  obtain ⟨bd0, bd1⟩ := Am.damped_bd delta points first h0 h1 hp
  obtain ⟨D, hD⟩ : ∃ D, D = Am.damped delta points first := ⟨_, rfl⟩
  have hF : Am.adaptF delta points first = 36 * (Am.M D : Int) + 36 * (D / 35 ^ Am.M D) / (D / 35 ^ Am.M D + 38) := by rw [hD]; rfl
  rw [← hD] at bd0 bd1
  have HF := hide hF
  have m64 := Am.M_64 D
  have HD : Hid (D = Am.damped delta points first) := hD
  clear hD hF
  cases first
  · have e1 : D = delta / 2 + delta / 2 / points := HD.out
    have q0 : 0 ≤ delta / 2 / points := Int.ediv_nonneg (by omega) (by omega)
    have q1 : delta / 2 / points ≤ delta / 2 := Int.ediv_le_self _ (by omega)
    have HE := hide e1
    clear e1 HD
    go_enter Try.func5, Try.ntmps5
    go_wp2_with (go_at_call 19; refine (zzadapt_any delta points false _ h0 h1 hp hp1).mono ?_; rintro e w' ⟨rfl, rfl⟩)
    go_loop [9, 10, 11, 12] (fun m pw th st => ∃ (i : Nat) (P T : Int), i ≤ Am.M D ∧ i ≤ 10 ∧ m = .int .i64 i ∧ pw = .int .i64 P ∧ th = .int .i64 T ∧ st = .int .i64 i ∧ P = 35 ^ i ∧ T = 456 * 35 ^ i) (fun _ _ _ st => 16 - (intOf st).toNat)
    case atStart => exact ⟨0, 1, 456, Nat.zero_le _, by omega, rfl, rfl, rfl, rfl, rfl, rfl⟩
    case round =>
      obtain ⟨i, P, T, hi, hi10, rfl, rfl, rfl, rfl, hP, hT⟩ := hrel
      have p0 : 0 < P := by rw [hP]; exact Am.pow_pos' i
      have p1 : P ≤ 2758547353515625 := by rw [hP]; exact Am.pow_le i hi10
      have t0 : T = 456 * P := by rw [hT, hP]
      have HT0 := hide t0
      have t1 : 456 ≤ T := by omega
      have t2 : T ≤ 456 * 2758547353515625 := by omega
      have HP := hide hP
      have HT := hide hT
      have thr := Am.thr_iff D i
      rw [← hT] at thr
      have THR := hide thr
      have HEW : Hid (delta / 2 + delta / 2 / points = D) := HE.out.symm
      clear hP hT t0 thr
      by_cases hge : T ≤ delta / 2 + delta / 2 / points
      · have hlt : i < Am.M D := Am.lt_M D bd1 i hi (THR.out.1 (by rw [HE.out]; exact hge))
        by_cases hbig : T ≤ 263524915338707880
        · have h9 := Am.thr_small i hi10 (by rw [← HT.out]; exact hbig)
          go_wp2
          go_round
          case rel => exact ⟨i + 1, P * 35, T * 35, by omega, by omega, by go_num, rfl, rfl, by go_num, by rw [HP.out, Int.pow_succ], by rw [HT.out, Int.pow_succ, Int.mul_assoc]⟩
          case measure => simp [intOf]; omega
        · have h10 := Am.thr_big i hi10 (by rw [← HT.out]; exact hbig)
          have hM := Am.M_eleven D bd1 (by omega)
          have HPP : Hid (P * 35 = 35 ^ Am.M D) := by rw [hM, HP.out, h10]; exact (by decide : (35 : Int) ^ 10 * 35 = 35 ^ 11)
          have HI : Hid ((i : Int) + 1 = (Am.M D : Int)) := by rw [hM, h10]; exact (by decide : ((10 : Nat) : Int) + 1 = ((11 : Nat) : Int))
          clear hM h10
          have E0 := Am.div_nonneg' D bd0 (Am.M D)
          have E1 := Am.M_le D bd1
          obtain ⟨E, hE⟩ : ∃ E, E = D / 35 ^ Am.M D := ⟨_, rfl⟩
          rw [← hE] at E0 E1
          have HFE : Hid (Am.adaptF delta points false = 36 * (Am.M D : Int) + (Am.cnt E 35 : Int)) := by rw [hE, Am.final D bd0, ← HF.out]; rfl
          have hDE : (delta / 2 + delta / 2 / points) / (P * 35) = E := by rw [hE, ← HE.out, HPP.out]
          clear hE
          go_wp2
          clear hDE
          go_loop [14, 15] (fun c j => ∃ n : Nat, n ≤ 35 ∧ j = .int .i64 ((n : Int) + 1) ∧ c = .int .i64 (Am.cnt E n : Int)) (fun _ j => (36 - intOf j).toNat)
          case atStart => exact ⟨0, by omega, rfl, rfl⟩
          case round =>
            obtain ⟨n, hn, rfl, rfl⟩ := hrel
            have cn := Am.cnt_le E n
            by_cases hlt2 : n < 35
            · obtain ⟨u0, u1⟩ := Am.mul_bd E n E0 E1 hlt2
              by_cases hc : 38 * ((n : Int) + 1) ≤ E * (36 - ((n : Int) + 1))
              · have HC : Hid (Am.cnt E (n + 1) = Am.cnt E n + 1) := if_pos hc
                go_wp2
                go_round
                case rel => exact ⟨n + 1, by omega, by go_num, by rw [HC.out]; go_num⟩
                case measure => simp [intOf]; omega
              · have HC : Hid (Am.cnt E (n + 1) = Am.cnt E n) := if_neg hc
                go_wp2
                go_round
                case rel => exact ⟨n + 1, by omega, by go_num, by rw [HC.out]⟩
                case measure => simp [intOf]; omega
            · obtain rfl : n = 35 := by omega
              have hfin : (Am.adaptF delta points false == 36 * ((i : Int) + 1) + (Am.cnt E 35 : Int)) = true := by rw [HFE.out, HI.out]; simp
              go_wp2
              go_ret
              exact ⟨rfl, rfl⟩
      · have hM : i = Am.M D := Am.eq_M D i hi (fun h => hge (by rw [← HE.out]; exact THR.out.2 h))
        have HPP : Hid (P = 35 ^ Am.M D) := by rw [← hM]; exact HP.out
        have HI : Hid ((i : Int) = (Am.M D : Int)) := by rw [← hM]; rfl
        clear hM
        have E0 := Am.div_nonneg' D bd0 (Am.M D)
        have E1 := Am.M_le D bd1
        obtain ⟨E, hE⟩ : ∃ E, E = D / 35 ^ Am.M D := ⟨_, rfl⟩
        rw [← hE] at E0 E1
        have HFE : Hid (Am.adaptF delta points false = 36 * (Am.M D : Int) + (Am.cnt E 35 : Int)) := by rw [hE, Am.final D bd0, ← HF.out]; rfl
        have hDE : (delta / 2 + delta / 2 / points) / (P) = E := by rw [hE, ← HE.out, HPP.out]
        clear hE
        go_wp2
        clear hDE
        go_loop [14, 15] (fun c j => ∃ n : Nat, n ≤ 35 ∧ j = .int .i64 ((n : Int) + 1) ∧ c = .int .i64 (Am.cnt E n : Int)) (fun _ j => (36 - intOf j).toNat)
        case atStart => exact ⟨0, by omega, rfl, rfl⟩
        case round =>
          obtain ⟨n, hn, rfl, rfl⟩ := hrel
          have cn := Am.cnt_le E n
          by_cases hlt2 : n < 35
          · obtain ⟨u0, u1⟩ := Am.mul_bd E n E0 E1 hlt2
            by_cases hc : 38 * ((n : Int) + 1) ≤ E * (36 - ((n : Int) + 1))
            · have HC : Hid (Am.cnt E (n + 1) = Am.cnt E n + 1) := if_pos hc
              go_wp2
              go_round
              case rel => exact ⟨n + 1, by omega, by go_num, by rw [HC.out]; go_num⟩
              case measure => simp [intOf]; omega
            · have HC : Hid (Am.cnt E (n + 1) = Am.cnt E n) := if_neg hc
              go_wp2
              go_round
              case rel => exact ⟨n + 1, by omega, by go_num, by rw [HC.out]⟩
              case measure => simp [intOf]; omega
          · obtain rfl : n = 35 := by omega
            have hfin : (Am.adaptF delta points false == 36 * ((i : Int)) + (Am.cnt E 35 : Int)) = true := by rw [HFE.out, HI.out]; simp
            go_wp2
            go_ret
            exact ⟨rfl, rfl⟩
  · have e1 : D = delta / 700 + delta / 700 / points := HD.out
    have q0 : 0 ≤ delta / 700 / points := Int.ediv_nonneg (by omega) (by omega)
    have q1 : delta / 700 / points ≤ delta / 700 := Int.ediv_le_self _ (by omega)
    have HE := hide e1
    clear e1 HD
    go_enter Try.func5, Try.ntmps5
    go_wp2_with (go_at_call 19; refine (zzadapt_any delta points true _ h0 h1 hp hp1).mono ?_; rintro e w' ⟨rfl, rfl⟩)
    go_loop [9, 10, 11, 12] (fun m pw th st => ∃ (i : Nat) (P T : Int), i ≤ Am.M D ∧ i ≤ 10 ∧ m = .int .i64 i ∧ pw = .int .i64 P ∧ th = .int .i64 T ∧ st = .int .i64 i ∧ P = 35 ^ i ∧ T = 456 * 35 ^ i) (fun _ _ _ st => 16 - (intOf st).toNat)
    case atStart => exact ⟨0, 1, 456, Nat.zero_le _, by omega, rfl, rfl, rfl, rfl, rfl, rfl⟩
    case round =>
      obtain ⟨i, P, T, hi, hi10, rfl, rfl, rfl, rfl, hP, hT⟩ := hrel
      have p0 : 0 < P := by rw [hP]; exact Am.pow_pos' i
      have p1 : P ≤ 2758547353515625 := by rw [hP]; exact Am.pow_le i hi10
      have t0 : T = 456 * P := by rw [hT, hP]
      have HT0 := hide t0
      have t1 : 456 ≤ T := by omega
      have t2 : T ≤ 456 * 2758547353515625 := by omega
      have HP := hide hP
      have HT := hide hT
      have thr := Am.thr_iff D i
      rw [← hT] at thr
      have THR := hide thr
      have HEW : Hid (delta / 700 + delta / 700 / points = D) := HE.out.symm
      clear hP hT t0 thr
      by_cases hge : T ≤ delta / 700 + delta / 700 / points
      · have hlt : i < Am.M D := Am.lt_M D bd1 i hi (THR.out.1 (by rw [HE.out]; exact hge))
        by_cases hbig : T ≤ 263524915338707880
        · have h9 := Am.thr_small i hi10 (by rw [← HT.out]; exact hbig)
          go_wp2
          go_round
          case rel => exact ⟨i + 1, P * 35, T * 35, by omega, by omega, by go_num, rfl, rfl, by go_num, by rw [HP.out, Int.pow_succ], by rw [HT.out, Int.pow_succ, Int.mul_assoc]⟩
          case measure => simp [intOf]; omega
        · omega
      · have hM : i = Am.M D := Am.eq_M D i hi (fun h => hge (by rw [← HE.out]; exact THR.out.2 h))
        have HPP : Hid (P = 35 ^ Am.M D) := by rw [← hM]; exact HP.out
        have HI : Hid ((i : Int) = (Am.M D : Int)) := by rw [← hM]; rfl
        clear hM
        have E0 := Am.div_nonneg' D bd0 (Am.M D)
        have E1 := Am.M_le D bd1
        obtain ⟨E, hE⟩ : ∃ E, E = D / 35 ^ Am.M D := ⟨_, rfl⟩
        rw [← hE] at E0 E1
        have HFE : Hid (Am.adaptF delta points true = 36 * (Am.M D : Int) + (Am.cnt E 35 : Int)) := by rw [hE, Am.final D bd0, ← HF.out]; rfl
        have hDE : (delta / 700 + delta / 700 / points) / (P) = E := by rw [hE, ← HE.out, HPP.out]
        clear hE
        go_wp2
        clear hDE
        go_loop [14, 15] (fun c j => ∃ n : Nat, n ≤ 35 ∧ j = .int .i64 ((n : Int) + 1) ∧ c = .int .i64 (Am.cnt E n : Int)) (fun _ j => (36 - intOf j).toNat)
        case atStart => exact ⟨0, by omega, rfl, rfl⟩
        case round =>
          obtain ⟨n, hn, rfl, rfl⟩ := hrel
          have cn := Am.cnt_le E n
          by_cases hlt2 : n < 35
          · obtain ⟨u0, u1⟩ := Am.mul_bd E n E0 E1 hlt2
            by_cases hc : 38 * ((n : Int) + 1) ≤ E * (36 - ((n : Int) + 1))
            · have HC : Hid (Am.cnt E (n + 1) = Am.cnt E n + 1) := if_pos hc
              go_wp2
              go_round
              case rel => exact ⟨n + 1, by omega, by go_num, by rw [HC.out]; go_num⟩
              case measure => simp [intOf]; omega
            · have HC : Hid (Am.cnt E (n + 1) = Am.cnt E n) := if_neg hc
              go_wp2
              go_round
              case rel => exact ⟨n + 1, by omega, by go_num, by rw [HC.out]⟩
              case measure => simp [intOf]; omega
          · obtain rfl : n = 35 := by omega
            have hfin : (Am.adaptF delta points true == 36 * ((i : Int)) + (Am.cnt E 35 : Int)) = true := by rw [HFE.out, HI.out]; simp
            go_wp2
            go_ret
            exact ⟨rfl, rfl⟩

end Go.Proofs.Qxb6602111a
