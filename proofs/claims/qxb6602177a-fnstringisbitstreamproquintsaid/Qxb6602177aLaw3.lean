import Derived.Test.Qxb6602177aPlain
import Derived.Laws.Rows
namespace Go.Proofs.Qxb6602177a
open Go.Proofs Go.RowKit Go.Proofs.Qxb6602177a.Kit

/-- Where letter j's bits begin. -/
def pre (j : Nat) : Nat := [0, 4, 6, 10, 12, 16].getD j 0
theorem pre_lets (V j : Nat) (hV : V < 65536) (hj : j < 5) :
    (Sd.letters V)[j]? = some (if j = 1 ∨ j = 3 then Sd.vow (Sd.grp V (pre j) 2) else Sd.con (Sd.grp V (pre j) 4)) := by
  have h : j = 0 ∨ j = 1 ∨ j = 2 ∨ j = 3 ∨ j = 4 := by omega
  rcases h with rfl | rfl | rfl | rfl | rfl <;> simp [Sd.letters, Sd.grp, pre]
  congr 1; omega

theorem heap_keeps {w wr : World} {o : Obj} (h : Below (w.heap.size + 1) (w.alloc o) wr) : wr.heap[w.heap.size]? = some o :=
  (h.block w.heap.size (Nat.lt_succ_self _)).trans (heap_new w o)

theorem hold_more {w wr w' : World} {o : Obj} (h : Below (w.heap.size + 1) (w.alloc o) wr) (h' : Below wr.heap.size wr w') : Below (w.heap.size + 1) (w.alloc o) w' := by
  refine h.trans (h'.mono ?_)
  have := h.size
  simpa using this

set_option maxHeartbeats 2000000 in
set_option maxRecDepth 100000 in
theorem law3 (xs : List Nat) (w : World) (hl : xs.length = 16) (hx : ∀ x ∈ xs, x < 256) :
    Calls Try.prog 3 #[seedV xs] w fun e w' => e = .returned (.bool true) ∧ Below w.heap.size w w' := by
  have hxd : ∀ i, xs.getD i 0 < 256 := by
    intro i
    by_cases hi : i < xs.length
    · rw [List.getD_eq_getElem?_getD, List.getElem?_eq_getElem hi]; exact hx _ (List.getElem_mem hi)
    · rw [List.getD_eq_getElem?_getD, List.getElem?_eq_none (by omega)]; decide
  have HSTR := hide (fun W => str_calls xs W hl hx)
  have HBIT := hide (fun k W (hk : k < 128) => bitAt_calls xs k W hl hxd hk)
  have HWD := hide (fun j i (hi : i < 16) => Sd.bit_word xs hxd j i hi)
  have HWL := hide (fun j => Sd.word_lt xs j hxd)
  clear hx hxd
  obtain ⟨S, hS⟩ : ∃ S : ByteArray, S = ⟨(Sd.text xs 8).toArray⟩ := ⟨_, rfl⟩
  have hS47 : S.size = 47 := by rw [hS]; show (Sd.text xs 8).toArray.size = 47; rw [List.size_toArray, Sd.text_len8]
  have HAT := hide (show ∀ (p : Nat) (c : UInt8), (Sd.text xs 8)[p]? = some c → S.data[p]? = some c from fun p c h => by rw [hS]; show (Sd.text xs 8).toArray[p]? = some c; rw [List.getElem?_toArray]; exact h)
  rw [← hS] at HSTR
  clear hS
  unfold seedV at *
  obtain ⟨arr, harr⟩ : ∃ arr, arr = (xs.map fun (x : Nat) => Value.int .u8 (x : Int)).toArray := ⟨_, rfl⟩
  have hasz : arr.size = 16 := by rw [harr]; simp [hl]
  rw [← harr] at HSTR HBIT ⊢
  have HSZ : Hid ((Try.prog.info? 22).map (·.size) = some arr.size) := by rw [hasz]; show _ = _; kernel_rfl
  clear harr hasz hl
  go_enter Try.func3, Try.ntmps3
  go_wp2_with (refine wpList_load_row rfl 22 _ rfl _ rfl 22 arr (0, 0) _ (heap_new _ _) Try.underlying22 rfl HSZ.out ?_)
  refine (HSTR.out _).mono ?_
  rintro e w1 ⟨rfl, hb1⟩
  have hbel : Below (w.heap.size + 1) (w.alloc (Obj.cells arr 22)) w1 := by simpa using hb1
  clear hb1 HSTR
  go_wp2_with fail
  go_loopw [4, 5, 6] (fun kv pv vv wr => ∃ v p : Nat, v ≤ 8 ∧ (p + 1 = 6 * v ∨ (v = 0 ∧ p = 0)) ∧ vv = .int .i64 (v : Int) ∧ kv = .int .i64 ((16 * v : Nat) : Int) ∧ pv = .int .i64 (p : Int) ∧ Below (w.heap.size + 1) (w.alloc (Obj.cells arr 22)) wr) (fun _ _ vv _ => 8 - (intOf vv).toNat)
  case atStart => exact ⟨0, 0, by omega, .inr ⟨rfl, rfl⟩, rfl, rfl, rfl, hbel⟩
  case round =>
    clear hbel
    obtain ⟨v, p, hv, hp, rfl, rfl, rfl, hbel⟩ := hrel
    by_cases hlt : v < 8
    · obtain ⟨V, hV⟩ : ∃ V, V = Sd.word xs v := ⟨_, rfl⟩
      have hVl := HWL.out v
      rw [← hV] at hVl
      have HV := hide hV
      clear hV
      have HD : Hid (v = 0 ∨ (Sd.text xs 8)[p]? = some 45) := by
        by_cases h0 : v = 0
        · exact .inl h0
        · right
          have e : p = 6 * v - 1 := by omega
          rw [e]; exact Sd.text_dash xs v (by omega) 8 hlt
      have hv8 : (v : Int) < 8 := by omega
      by_cases h0 : v = 0
      focus (
        have hp0 : p = 6 * v := by omega
        have HP0 := hide hp0
        have hv0 : decide (0 < v) = false := by simp; omega
        clear h0 hp hp0
        go_wp2_with fail
        clear hv0)
      rotate_left
      focus (
        have hp0 : p + 1 = 6 * v := by omega
        have HP0 := hide hp0
        have hv0 : 0 < v := by omega
        have hp47 : p < 48 := by omega
        have hs := fun W => str_at S p _ (HAT.out _ _ (HD.out.resolve_left h0)) W
        clear h0 hp hp0
        go_wp2_with fail
        clear hs hv0)
      all_goals (
        go_loopw [4, 5, 7] (fun kv pv jv wr => ∃ j kk P : Nat, j ≤ 5 ∧ jv = .int .i64 (j : Int) ∧ kk = 16 * v + pre j ∧ P = 6 * v + j ∧ kv = .int .i64 (kk : Int) ∧ pv = .int .i64 (P : Int) ∧ Below (w.heap.size + 1) (w.alloc (Obj.cells arr 22)) wr) (fun _ _ jv _ => 5 - (intOf jv).toNat)
        case atStart => exact ⟨0, 16 * v, 6 * v, by omega, rfl, by simp [pre], by omega, rfl, by congr 1; have := HP0.out; omega, hbel⟩
        case round =>
          clear hbel
          obtain ⟨j, kk, P, hj, rfl, hk, hP, rfl, rfl, hbel⟩ := hrel
          by_cases hjl : j < 5
          · have hj5 : (j : Int) < 5 := by omega
            have hlet := Sd.text_at xs v j hjl 8 hlt
            rw [← HV.out, pre_lets V j hVl hjl, ← hP] at hlet
            obtain ⟨q, hq⟩ : ∃ q, q = pre j := ⟨_, rfl⟩
            rw [← hq] at hlet hk
            have HKJ := hide hk
            have HP := hide hP
            have hPl : P < 47 := by omega
            clear hk hP
            by_cases h13 : j = 1 ∨ j = 3
            · rw [if_pos h13] at hlet
              have HL := hide hlet
              have hqs : pre (j + 1) = q + 2 ∧ q + 2 ≤ 16 := by rcases h13 with rfl | rfl <;> simp [hq, pre]
              have hq16 := hqs.2
              have HQ := hide hqs.1
              clear hq hqs hlet
              by_cases h1 : j = 1
              · have g1 : ((j : Int) == 1) = true := by simp; omega
                have HJ1 := hide h1
                clear h13 h1
                go_wp2_with fail
                go_loopw [4, 9, 10] (fun kv dv tv wt => ∃ t kk D : Nat, t ≤ 2 ∧ tv = .int .i64 (t : Int) ∧ D = Sd.grp V q t ∧ kk = 16 * v + q + t ∧ dv = .int .i64 (D : Int) ∧ kv = .int .i64 (kk : Int) ∧ Below (w.heap.size + 1) (w.alloc (Obj.cells arr 22)) wt) (fun _ _ tv _ => 2 - (intOf tv).toNat)
                case atStart => exact ⟨0, _, 0, by omega, rfl, (Sd.grp_zero V q).symm, HKJ.out, rfl, rfl, hbel⟩
                case round =>
                  clear hbel
                  obtain ⟨t, kk, D, ht, rfl, hD, hk, rfl, rfl, hbel⟩ := hrel
                  by_cases htl : t < 2
                  · have hDl : D < 4 := by rw [hD]; exact Nat.lt_of_lt_of_le (Sd.grp_lt V q t) (Nat.le_trans (Nat.pow_le_pow_right (by decide) (Nat.le_of_lt htl)) (by decide))
                    have hkl : kk < 128 := by omega
                    obtain ⟨b, hb⟩ : ∃ b, b = Sd.bit xs kk := ⟨_, rfl⟩
                    have hb2 : b = V / 2 ^ (15 - (q + t)) % 2 := by rw [hb, hk, HV.out, Nat.add_assoc]; exact HWD.out v (q + t) (by omega)
                    have hbl : b < 2 := by omega
                    have HST : Hid (D * 2 + b = Sd.grp V q (t + 1)) := by rw [hD, hb2]; exact (Sd.grp_succ V q t (by omega)).symm
                    have hc := fun W => HBIT.out kk W hkl
                    rw [← hb] at hc
                    have HK := hide hk
                    have HBL := hide hbel
                    have HC := hide hc
                    clear hD hk hb hb2 hbel hc
                    go_wp2_with (first | (refine wpList_load_row rfl 22 _ rfl _ rfl 22 arr (0, 0) _ (heap_keeps HBL.out) Try.underlying22 rfl HSZ.out ?_) | (go_at_call 7; refine (HC.out _).mono ?_; rintro e w2 ⟨rfl, hb3⟩))
                    go_roundw
                    case rel => exact ⟨t + 1, kk + 1, D * 2 + b, by omega, by go_num, HST.out, by have := HK.out; omega, by go_num, by go_num, hold_more HBL.out hb3⟩
                    case measure => simp [intOf]; omega
                  · obtain rfl : t = 2 := by omega
                    clear ht htl
                    have hDl : D < 4 := by rw [hD]; exact Sd.grp_lt V q 2
                    rw [← hD] at HL
                    have hc1 := fun W => con_at' W D (by omega)
                    have hc2 := fun W => vow_at' W D (by omega)
                    have hs := fun W => str_at S P _ (HAT.out _ _ HL.out) W
                    have HK := hide hk
                    clear hD hk
                    go_wp2_with fail
                    go_roundw
                    case rel => exact ⟨j + 1, kk, P + 1, by omega, by go_num, by rw [HQ.out, ← Nat.add_assoc]; exact HK.out, by have := HP.out; omega, rfl, by go_num, hbel⟩
                    case measure => simp [intOf]; omega

              · have g1 : ((j : Int) == 1) = false := by simp; omega
                have n1 : ¬ (j : Int) = 1 := by omega
                have g3 : ((j : Int) == 3) = true := by simp; omega
                clear h13 h1
                go_wp2_with fail
                go_loopw [4, 9, 10] (fun kv dv tv wt => ∃ t kk D : Nat, t ≤ 2 ∧ tv = .int .i64 (t : Int) ∧ D = Sd.grp V q t ∧ kk = 16 * v + q + t ∧ dv = .int .i64 (D : Int) ∧ kv = .int .i64 (kk : Int) ∧ Below (w.heap.size + 1) (w.alloc (Obj.cells arr 22)) wt) (fun _ _ tv _ => 2 - (intOf tv).toNat)
                case atStart => exact ⟨0, _, 0, by omega, rfl, (Sd.grp_zero V q).symm, HKJ.out, rfl, rfl, hbel⟩
                case round =>
                  clear hbel
                  obtain ⟨t, kk, D, ht, rfl, hD, hk, rfl, rfl, hbel⟩ := hrel
                  by_cases htl : t < 2
                  · have hDl : D < 4 := by rw [hD]; exact Nat.lt_of_lt_of_le (Sd.grp_lt V q t) (Nat.le_trans (Nat.pow_le_pow_right (by decide) (Nat.le_of_lt htl)) (by decide))
                    have hkl : kk < 128 := by omega
                    obtain ⟨b, hb⟩ : ∃ b, b = Sd.bit xs kk := ⟨_, rfl⟩
                    have hb2 : b = V / 2 ^ (15 - (q + t)) % 2 := by rw [hb, hk, HV.out, Nat.add_assoc]; exact HWD.out v (q + t) (by omega)
                    have hbl : b < 2 := by omega
                    have HST : Hid (D * 2 + b = Sd.grp V q (t + 1)) := by rw [hD, hb2]; exact (Sd.grp_succ V q t (by omega)).symm
                    have hc := fun W => HBIT.out kk W hkl
                    rw [← hb] at hc
                    have HK := hide hk
                    have HBL := hide hbel
                    have HC := hide hc
                    clear hD hk hb hb2 hbel hc
                    go_wp2_with (first | (refine wpList_load_row rfl 22 _ rfl _ rfl 22 arr (0, 0) _ (heap_keeps HBL.out) Try.underlying22 rfl HSZ.out ?_) | (go_at_call 7; refine (HC.out _).mono ?_; rintro e w2 ⟨rfl, hb3⟩))
                    go_roundw
                    case rel => exact ⟨t + 1, kk + 1, D * 2 + b, by omega, by go_num, HST.out, by have := HK.out; omega, by go_num, by go_num, hold_more HBL.out hb3⟩
                    case measure => simp [intOf]; omega
                  · obtain rfl : t = 2 := by omega
                    clear ht htl
                    have hDl : D < 4 := by rw [hD]; exact Sd.grp_lt V q 2
                    rw [← hD] at HL
                    have hc1 := fun W => con_at' W D (by omega)
                    have hc2 := fun W => vow_at' W D (by omega)
                    have hs := fun W => str_at S P _ (HAT.out _ _ HL.out) W
                    have HK := hide hk
                    clear hD hk
                    go_wp2_with fail
                    go_roundw
                    case rel => exact ⟨j + 1, kk, P + 1, by omega, by go_num, by rw [HQ.out, ← Nat.add_assoc]; exact HK.out, by have := HP.out; omega, rfl, by go_num, hbel⟩
                    case measure => simp [intOf]; omega

            · rw [if_neg h13] at hlet
              have HL := hide hlet
              have hqs : pre (j + 1) = q + 4 ∧ q + 4 ≤ 16 := by
                have h : j = 0 ∨ j = 2 ∨ j = 4 := by omega
                rcases h with rfl | rfl | rfl <;> simp [hq, pre]
              have hq16 := hqs.2
              have HQ := hide hqs.1
              have g1 : ((j : Int) == 1) = false := by simp; omega
              have n1 : ¬ (j : Int) = 1 := by omega
              have g3 : ((j : Int) == 3) = false := by simp; omega
              have n3 : ¬ (j : Int) = 3 := by omega
              clear hq hqs hlet h13
              go_wp2_with fail
              go_loopw [4, 9, 10] (fun kv dv tv wt => ∃ t kk D : Nat, t ≤ 4 ∧ tv = .int .i64 (t : Int) ∧ D = Sd.grp V q t ∧ kk = 16 * v + q + t ∧ dv = .int .i64 (D : Int) ∧ kv = .int .i64 (kk : Int) ∧ Below (w.heap.size + 1) (w.alloc (Obj.cells arr 22)) wt) (fun _ _ tv _ => 4 - (intOf tv).toNat)
              case atStart => exact ⟨0, _, 0, by omega, rfl, (Sd.grp_zero V q).symm, HKJ.out, rfl, rfl, hbel⟩
              case round =>
                clear hbel
                obtain ⟨t, kk, D, ht, rfl, hD, hk, rfl, rfl, hbel⟩ := hrel
                by_cases htl : t < 4
                · have hDl : D < 16 := by rw [hD]; exact Nat.lt_of_lt_of_le (Sd.grp_lt V q t) (Nat.le_trans (Nat.pow_le_pow_right (by decide) (Nat.le_of_lt htl)) (by decide))
                  have hkl : kk < 128 := by omega
                  obtain ⟨b, hb⟩ : ∃ b, b = Sd.bit xs kk := ⟨_, rfl⟩
                  have hb2 : b = V / 2 ^ (15 - (q + t)) % 2 := by rw [hb, hk, HV.out, Nat.add_assoc]; exact HWD.out v (q + t) (by omega)
                  have hbl : b < 2 := by omega
                  have HST : Hid (D * 2 + b = Sd.grp V q (t + 1)) := by rw [hD, hb2]; exact (Sd.grp_succ V q t (by omega)).symm
                  have hc := fun W => HBIT.out kk W hkl
                  rw [← hb] at hc
                  have HK := hide hk
                  have HBL := hide hbel
                  have HC := hide hc
                  clear hD hk hb hb2 hbel hc
                  go_wp2_with (first | (refine wpList_load_row rfl 22 _ rfl _ rfl 22 arr (0, 0) _ (heap_keeps HBL.out) Try.underlying22 rfl HSZ.out ?_) | (go_at_call 7; refine (HC.out _).mono ?_; rintro e w2 ⟨rfl, hb3⟩))
                  go_roundw
                  case rel => exact ⟨t + 1, kk + 1, D * 2 + b, by omega, by go_num, HST.out, by have := HK.out; omega, by go_num, by go_num, hold_more HBL.out hb3⟩
                  case measure => simp [intOf]; omega
                · obtain rfl : t = 4 := by omega
                  clear ht htl
                  have hDl : D < 16 := by rw [hD]; exact Sd.grp_lt V q 4
                  rw [← hD] at HL
                  have hc1 := fun W => con_at' W D (by omega)
                  have hs := fun W => str_at S P _ (HAT.out _ _ HL.out) W
                  have HK := hide hk
                  clear hD hk
                  go_wp2_with fail
                  go_roundw
                  case rel => exact ⟨j + 1, kk, P + 1, by omega, by go_num, by rw [HQ.out, ← Nat.add_assoc]; exact HK.out, by have := HP.out; omega, rfl, by go_num, hbel⟩
                  case measure => simp [intOf]; omega

          · obtain rfl : j = 5 := by omega
            go_wp2_with fail
            go_roundw
            case rel => exact ⟨v + 1, P, by omega, .inl (by omega), by go_num, by rw [hk]; congr 1, rfl, hbel⟩
            case measure => simp [intOf]; omega
      )
    · obtain rfl : v = 8 := by omega
      obtain rfl : p = 47 := by omega
      go_wp2_with fail
      go_ret
      exact ⟨rfl, ((Below.refl w.heap.size w).alloc (Nat.le_refl _) (Obj.cells arr 22)).trans (hbel.mono (Nat.le_succ _))⟩
end Go.Proofs.Qxb6602177a
