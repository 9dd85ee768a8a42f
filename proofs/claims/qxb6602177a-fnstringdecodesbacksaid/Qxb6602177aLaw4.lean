import Derived.Test.Qxb6602177aDec
import Derived.ChangeKeysEq
import Derived.Laws.StructEq
namespace Go.Proofs.Qxb6602177a
open Go.Proofs Go.RowKit Go.Proofs.Qxb6602177a.Kit

namespace Sd
def dig (V j : Nat) : Nat := [V / 4096, V / 1024 % 4, V / 64 % 16, V / 16 % 4, V % 16].getD j 0
def got (V j : Nat) : Nat := [0, V / 4096, V / 1024, V / 64, V / 16, V].getD j 0
theorem got_step (V j : Nat) (hj : j < 5) : got V (j + 1) = (if j % 2 = 0 then got V j * 16 else got V j * 4) + dig V j := by
  have h : j = 0 ∨ j = 1 ∨ j = 2 ∨ j = 3 ∨ j = 4 := by omega
  rcases h with rfl | rfl | rfl | rfl | rfl <;> simp [got, dig] <;> omega
theorem dig_let (V j : Nat) (hj : j < 5) : (letters V)[j]? = some (if j % 2 = 0 then con (dig V j) else vow (dig V j)) := by
  have h : j = 0 ∨ j = 1 ∨ j = 2 ∨ j = 3 ∨ j = 4 := by omega
  rcases h with rfl | rfl | rfl | rfl | rfl <;> simp [letters, dig]
theorem dig_lt (V j : Nat) (hV : V < 65536) : dig V j < 16 ∧ (j % 2 = 1 → dig V j < 4) := by
  by_cases h5 : j < 5
  · have h : j = 0 ∨ j = 1 ∨ j = 2 ∨ j = 3 ∨ j = 4 := by omega
    rcases h with rfl | rfl | rfl | rfl | rfl <;> simp [dig] <;> omega
  · have : dig V j = 0 := by
      unfold dig; rw [List.getD_eq_getElem?_getD, List.getElem?_eq_none (by simp; omega)]; rfl
    omega
theorem got_le (V j : Nat) (hV : V < 65536) : got V j < 65536 := by
  by_cases h6 : j < 6
  · have h : j = 0 ∨ j = 1 ∨ j = 2 ∨ j = 3 ∨ j = 4 ∨ j = 5 := by omega
    rcases h with rfl | rfl | rfl | rfl | rfl | rfl <;> simp [got] <;> omega
  · have : got V j = 0 := by
      unfold got; rw [List.getD_eq_getElem?_getD, List.getElem?_eq_none (by simp; omega)]; rfl
    omega
end Sd

/-- The array when v words have been read. -/
def cur (xs : List Nat) (v : Nat) : Array Value := ((List.range 16).map fun i => Value.int .u8 ((if i < 2 * v then xs.getD i 0 else 0 : Nat) : Int)).toArray
theorem cur_size (xs : List Nat) (v : Nat) : (cur xs v).size = 16 := by simp [cur]
theorem cur_get (xs : List Nat) (v i : Nat) : (cur xs v)[i]? = if i < 16 then some (Value.int .u8 ((if i < 2 * v then xs.getD i 0 else 0 : Nat) : Int)) else none := by
  unfold cur
  rw [List.getElem?_toArray, List.getElem?_map]
  by_cases h : i < 16
  · rw [if_pos h, List.getElem?_range h]; rfl
  · rw [if_neg h, List.getElem?_eq_none (by simp; omega)]; rfl
theorem cur_zero (xs : List Nat) : cur xs 0 = #[.int .u8 0, .int .u8 0, .int .u8 0, .int .u8 0, .int .u8 0, .int .u8 0, .int .u8 0, .int .u8 0, .int .u8 0, .int .u8 0, .int .u8 0, .int .u8 0, .int .u8 0, .int .u8 0, .int .u8 0, .int .u8 0] := by
  simp [cur, List.range, List.range.loop]
theorem cur_all (xs : List Nat) (hl : xs.length = 16) : cur xs 8 = (xs.map fun (x : Nat) => Value.int .u8 (x : Int)).toArray := by
  apply Array.ext_getElem?
  intro i
  rw [cur_get, List.getElem?_toArray, List.getElem?_map]
  by_cases h : i < 16
  · rw [if_pos h, if_pos (by omega), List.getD_eq_getElem?_getD, List.getElem?_eq_getElem (by omega : i < xs.length)]; rfl
  · rw [if_neg h, List.getElem?_eq_none (by omega)]; rfl
theorem cur_next (xs : List Nat) (v : Nat) (hv : v < 8) :
    ((cur xs v).setIfInBounds (2 * v) (.int .u8 ((xs.getD (2 * v) 0 : Nat) : Int))).setIfInBounds (2 * v + 1) (.int .u8 ((xs.getD (2 * v + 1) 0 : Nat) : Int)) = cur xs (v + 1) := by
  apply Array.ext_getElem?
  intro i
  rw [Array.getElem?_setIfInBounds, Array.getElem?_setIfInBounds, Array.size_setIfInBounds, cur_size, cur_get, cur_get]
  by_cases h1 : 2 * v + 1 = i
  · subst h1
    rw [if_pos rfl, if_pos (by omega), if_pos (by omega), if_pos (by omega)]
  · rw [if_neg h1]
    by_cases h0 : 2 * v = i
    · subst h0
      rw [if_pos rfl, if_pos (by omega), if_pos (by omega), if_pos (by omega)]
    · rw [if_neg h0]
      by_cases h : i < 16
      · rw [if_pos h, if_pos h]
        by_cases h2 : i < 2 * v
        · rw [if_pos h2, if_pos (by omega)]
        · rw [if_neg h2, if_neg (by omega)]
      · rw [if_neg h, if_neg h]

/-- Two bytes written into the array at g. -/
theorem two_set {w : World} {g : Nat} {xs : List Nat} {v : Nat} (hv : v < 8) (hg : w.heap[g]? = some (.cells (cur xs v) 22 (0, 0))) :
    ((w.setCell ⟨g, 2 * v, none⟩ (.int .u8 ((xs.getD (2 * v) 0 : Nat) : Int))).setCell ⟨g, 2 * v + 1, none⟩ (.int .u8 ((xs.getD (2 * v + 1) 0 : Nat) : Int))).heap[g]? = some (.cells (cur xs (v + 1)) 22 (0, 0)) := by
  rw [setCell_eq_setRow w g (2 * v) _ _ _ _ hg]
  have h2 := setRow_heap w g (cur xs v) ((cur xs v).setIfInBounds (2 * v) (.int .u8 ((xs.getD (2 * v) 0 : Nat) : Int))) 22 (0, 0) hg
  rw [setCell_eq_setRow _ g (2 * v + 1) _ _ _ _ h2, setRow_setRow, cur_next xs v hv]
  exact setRow_heap w g _ _ _ _ hg

theorem below_setRow {B : Nat} {a w : World} (h : Below B a w) {g : Nat} (hg : B ≤ g) (cs : Array Value) : Below B a (w.setRow g cs) := by
  refine h.trans ⟨rfl, rfl, rfl, by simp [World.setRow], fun k hk => ?_⟩
  simp only [World.setRow, Array.getElem?_modify]
  rw [if_neg (by omega)]

theorem cell_in {w : World} {g i : Nat} {cs : Array Value} {t : TypeId} {v : Value} (hg : w.heap[g]? = some (.cells cs t (0, 0))) (hi : cs[i]? = some v) : w.cell? ⟨g, i, none⟩ = some v := by
  simp [World.cell?, hg, hi]
theorem frozen_in {w : World} {g i : Nat} {cs : Array Value} {t : TypeId} (hg : w.heap[g]? = some (.cells cs t (0, 0))) : w.frozen? ⟨g, i, none⟩ = false := by
  simp [World.frozen?, hg]

set_option maxHeartbeats 2000000 in
set_option maxRecDepth 100000 in
theorem decode_calls (xs : List Nat) (w : World) (hl : xs.length = 16) (hx : ∀ i, xs.getD i 0 < 256) :
    Calls Try.prog 8 #[.string ⟨(Sd.text xs 8).toArray⟩] w fun e w' => e = .returned (.tuple #[seedV xs, .bool true]) ∧ Below w.heap.size w w' := by
  unfold seedV
  rw [← cur_all xs hl]
  have HWL := hide (fun j => Sd.word_lt xs j hx)
  have HX := hide hx
  clear hl hx
  obtain ⟨S, hS⟩ : ∃ S : ByteArray, S = ⟨(Sd.text xs 8).toArray⟩ := ⟨_, rfl⟩
  have hS47 : S.size = 47 := by rw [hS]; show (Sd.text xs 8).toArray.size = 47; rw [List.size_toArray, Sd.text_len8]
  have HAT := hide (show ∀ (p : Nat) (c : UInt8), (Sd.text xs 8)[p]? = some c → S.data[p]? = some c from fun p c h => by rw [hS]; show (Sd.text xs 8).toArray[p]? = some c; rw [List.getElem?_toArray]; exact h)
  rw [← hS]
  clear hS
  go_enter Try.func8, Try.ntmps8
  go_wp2_with fail
  go_loopw [5] (fun vv wr => ∃ v : Nat, v ≤ 8 ∧ vv = .int .i64 (v : Int) ∧ wr.heap[w.heap.size + 1]? = some (.cells (cur xs v) 22 (0, 0)) ∧ wr.heap[w.heap.size]? = some (.cells (cur xs 0) 22 (0, 0)) ∧ Below w.heap.size w wr) (fun vv _ => 8 - (intOf vv).toNat)
  case atStart =>
    refine ⟨0, by omega, rfl, ?_, ?_, ((Below.refl _ _).alloc (Nat.le_refl _) _).alloc (by simp) _⟩
    · rw [cur_zero]
      have := heap_new (w.alloc (.cells #[.int .u8 0, .int .u8 0, .int .u8 0, .int .u8 0, .int .u8 0, .int .u8 0, .int .u8 0, .int .u8 0, .int .u8 0, .int .u8 0, .int .u8 0, .int .u8 0, .int .u8 0, .int .u8 0, .int .u8 0, .int .u8 0] 22)) (.cells #[.int .u8 0, .int .u8 0, .int .u8 0, .int .u8 0, .int .u8 0, .int .u8 0, .int .u8 0, .int .u8 0, .int .u8 0, .int .u8 0, .int .u8 0, .int .u8 0, .int .u8 0, .int .u8 0, .int .u8 0, .int .u8 0] 22)
      simpa using this
    · rw [cur_zero, Below.heap_alloc _ _ _ (by simp)]
      exact heap_new _ _
  case round =>
    obtain ⟨v, hv, rfl, hg, hg0, hbel⟩ := hrel
    have HG := hide hg
    have HG0 := hide hg0
    have HBL := hide hbel
    by_cases hlt : v < 8
    · obtain ⟨V, hV⟩ : ∃ V, V = Sd.word xs v := ⟨_, rfl⟩
      have hVl := HWL.out v
      rw [← hV] at hVl
      have HV := hide hV
      clear hV
      have hv8 : (v : Int) < 8 := by omega
      have c1 := cell_in (i := 2 * v) hg (v := .int .u8 0) (by rw [cur_get, if_pos (by omega), if_neg (by omega)]; rfl)
      have c2 := cell_in (i := 2 * v + 1) hg (v := .int .u8 0) (by rw [cur_get, if_pos (by omega), if_neg (by omega)]; rfl)
      have f1 := frozen_in (i := 2 * v) hg
      have f2 := frozen_in (i := 2 * v + 1) hg
      clear hg hg0 hbel
      by_cases h0 : v = 0
      focus (
        have hv0 : decide (0 < v) = false := by simp; omega
        have hv0' : ¬ (0 : Int) < (v : Int) := by omega
        clear h0
        go_wp2_with fail
        clear hv0 hv0')
      rotate_left
      focus (
        have s1 : ∀ W, (Instr.index 9 (.string S) (.int .i64 ((v : Int) * 6 - 1))).run Try.prog W = .ok (.int .u8 45) W := by
          intro W
          have := str_at S (6 * v - 1) _ (HAT.out _ _ (Sd.text_dash xs v (by omega) 8 hlt)) W
          rw [show ((6 * v - 1 : Nat) : Int) = (v : Int) * 6 - 1 by omega] at this
          exact this
        have hv0 : 0 < v := by omega
        have hv0' : (0 : Int) < (v : Int) := by omega
        clear h0
        go_wp2_with fail
        clear hv0 hv0' s1)
      all_goals (
        go_loop [7, 8] (fun gv jv => ∃ j G : Nat, j ≤ 5 ∧ jv = .int .i64 (j : Int) ∧ G = Sd.got V j ∧ gv = .int .i64 (G : Int)) (fun _ jv => 5 - (intOf jv).toNat)
        case atStart => exact ⟨0, 0, by omega, rfl, rfl, rfl⟩
        case round =>
          obtain ⟨j, G, hj, rfl, hG, rfl⟩ := hrel
          have hGl : G < 65536 := by rw [hG]; exact Sd.got_le V j hVl
          by_cases hjl : j < 5
          · have hj5 : (j : Int) < 5 := by omega
            have hlet := Sd.text_at xs v j hjl 8 hlt
            rw [← HV.out, Sd.dig_let V j hjl] at hlet
            have hst := Sd.got_step V j hjl
            rw [← hG] at hst
            obtain ⟨d16, d4⟩ := Sd.dig_lt V j hVl
            obtain ⟨D, hD⟩ : ∃ D, D = Sd.dig V j := ⟨_, rfl⟩
            rw [← hD] at hlet hst d16 d4
            clear hD hG
            by_cases h2 : j % 2 = 0
            · rw [if_pos h2] at hlet hst
              have s1 : ∀ W, (Instr.index 9 (.string S) (.int .i64 ((v : Int) * 6 + (j : Int)))).run Try.prog W = .ok (.int .u8 ((Sd.con D).toNat : Int)) W := by
                intro W; rw [show (v : Int) * 6 + (j : Int) = ((6 * v + j : Nat) : Int) by omega]; exact str_at S _ _ (HAT.out _ _ hlet) W
              have h2' : (j : Int) % 2 = 0 := by omega
              have HST := hide hst
              clear hlet hst h2 d4
              go_wp2_with (go_at_call 14; refine (index_con D d16 _).mono ?_; rintro e w2 ⟨rfl, rfl⟩)
              go_round
              case rel => exact ⟨j + 1, G * 16 + D, by omega, by go_num, HST.out.symm, by go_num⟩
              case measure => simp [intOf]; omega
            · rw [if_neg h2] at hlet hst
              have d4' := d4 (by omega)
              have s1 : ∀ W, (Instr.index 9 (.string S) (.int .i64 ((v : Int) * 6 + (j : Int)))).run Try.prog W = .ok (.int .u8 ((Sd.vow D).toNat : Int)) W := by
                intro W; rw [show (v : Int) * 6 + (j : Int) = ((6 * v + j : Nat) : Int) by omega]; exact str_at S _ _ (HAT.out _ _ hlet) W
              have h2' : ¬ (j : Int) % 2 = 0 := by omega
              have h2b : ((j : Int) % 2 == 0) = false := by simp; omega
              have HST := hide hst
              clear hlet hst h2 d4
              go_wp2_with (go_at_call 14; refine (index_vow D d4' _).mono ?_; rintro e w2 ⟨rfl, rfl⟩)
              go_round
              case rel => exact ⟨j + 1, G * 4 + D, by omega, by go_num, HST.out.symm, by go_num⟩
              case measure => simp [intOf]; omega
          · obtain rfl : j = 5 := by omega
            have e : G = V := hG
            clear hG
            subst e
            clear hj hjl
            go_wp2_with fail
            have hw : G = 256 * xs.getD (2 * v) 0 + xs.getD (2 * v + 1) 0 := HV.out
            have hx1 := HX.out (2 * v + 1)
            have hx0 := HX.out (2 * v)
            have e1 : (G : Int) / 256 = ((xs.getD (2 * v) 0 : Nat) : Int) := by omega
            have e2 : (G : Int) % 256 = ((xs.getD (2 * v + 1) 0 : Nat) : Int) := by omega
            rw [e1, e2]
            refine ⟨⟨v + 1, by omega, by go_num, two_set hlt HG.out, ?_, (HBL.out.setCell (Nat.le_succ _) _).setCell (Nat.le_succ _) _⟩, by simp [intOf]; omega⟩
            rw [Below.heap_setCell _ _ _ _ (by simp), Below.heap_setCell _ _ _ _ (by simp)]
            exact HG0.out
      )
    · obtain rfl : v = 8 := by omega
      have HSZ : Hid ((Try.prog.info? 22).map (·.size) = some (cur xs 8).size) := by rw [cur_size]; show _ = _; kernel_rfl
      have HCE : Hid ((cur xs 0).size = (cur xs 8).size) := by rw [cur_size, cur_size]; rfl
      have H1 : Hid ((cur xs 8).all (·.oneCell') = true) := by
        show (cur xs 8).all (·.oneCell') = true
        rw [Array.all_eq_true]
        intro i hi
        have h := cur_get xs 8 i
        rw [Array.getElem?_eq_getElem hi, if_pos (by rw [cur_size] at hi; exact hi)] at h
        rw [Option.some.inj h]; rfl
      obtain ⟨A, hA⟩ : ∃ A, A = cur xs 8 := ⟨_, rfl⟩
      obtain ⟨Z, hZ⟩ : ∃ Z, Z = cur xs 0 := ⟨_, rfl⟩
      rw [← hA] at HSZ HCE H1 HG
      rw [← hZ] at HCE HG0
      have HA := hide hA
      clear hg hg0 hbel hZ hv hlt hA
      go_wp2_with (first | (refine wpList_load_row rfl 22 _ rfl _ rfl 22 A (0, 0) _ HG.out Try.underlying22 rfl HSZ.out ?_) | (refine wpList_store_row rfl 22 _ _ rfl _ A rfl rfl 22 Z HG0.out HSZ.out HCE.out H1.out ?_))
      have hr := run_loadVar_row (P := Try.prog) (wr.setRow w.heap.size A) w.heap.size 22 22 A (0, 0) _ (setRow_heap _ _ _ _ _ _ HG0.out) Try.underlying22 rfl HSZ.out
      have hb2 : Below w.heap.size w (wr.setRow w.heap.size A) := below_setRow HBL.out (Nat.le_refl _) _
      refine bodyPost_ret (v := .tuple #[.agg A, .bool true]) (by simp [results, Try.results8, asAddr, hr]) rfl ⟨by rw [HA.out], hb2⟩

/-- An array of bytes is itself. -/
theorem same_items (d : Nat) (A : Array Value) (w : World) : ∀ is : List Nat, (∀ i ∈ is, ∃ n : Int, A[i]? = some (.int .u8 n)) → (Op.eqItems (d + 1) 5 1 A A is).run Try.prog w = .ok true w
  | [], _ => by simp [Op.eqItems]
  | i :: is, h => by
    obtain ⟨n, hn⟩ := h i (by simp)
    have hp : (part 5 A (i * 1)).run Try.prog w = .ok (.int .u8 n) w := by
      simp [part, Try.isAgg5, hn]
    simp only [Op.eqItems, Sem.run_bind, hp, Result.andThen_ok, run_equalIn_int w d 5 .u8 .u8 n n Try.underlying5]
    simpa using same_items d A w is (fun j hj => h j (by simp [hj]))
theorem same_array (A : Array Value) (w : World) (h : ∀ i, i < 16 → ∃ n : Int, A[i]? = some (.int .u8 n)) : (binOp .eql 22 (.agg A) (.agg A)).run Try.prog w = .ok (.bool true) w := by
  have hi : ∃ i5, Try.prog.info? 5 = some i5 := by
    cases e : Try.prog.info? 5 with
    | none => have : (Try.prog.info? 5).isSome = true := by kernel_rfl
              rw [e] at this; cases this
    | some x => exact ⟨x, rfl⟩
  obtain ⟨i5, hi⟩ := hi
  have hc : Try.prog.cellsOf 5 = 1 := by kernel_rfl
  rw [run_eql_struct, run_equalIn_array w 9999 A A Try.underlying22 hi, hc, same_items 9998 A w _ (fun i hi => h i (List.mem_range.1 hi))]
  rfl

/-- A load of a whole row behind a guard that lets it run. -/
theorem wpList_load_row_wanted {P : Program} {ops : Array Oper} {rest : List Oper} {o : Oper} {a : Act} {w : World} {Q : Exit → Act → World → Prop} (hgd : Region.wanted o (yielded ops a.tmps) = true) (ty : TypeId) (x : Operand) (ho : o.op = .load ty x)
    (g : Nat) (hx : a.eval x = .pointer (some ⟨g, 0, none⟩)) (t : TypeId) (cs : Array Value) (fr : Nat × Nat) (d : TypeDesc) (hg : w.heap[g]? = some (.cells cs t fr))
    (hu : P.underlying ty = some d) (hd : (match d with | .struct _ | .array _ _ => true | _ => false) = true) (hi : (P.info? ty).map (·.size) = some cs.size)
    (h : wpList P ops Q rest (a.put o.dst (.agg cs)) w) : wpList P ops Q (o :: rest) a w := by
  unfold wpList
  rw [if_pos hgd]
  exact .inl (wp_load_row ty x ho g hx t cs fr d hg hu hd hi h)

theorem hold_one {w w1 w2 : World} {o : Obj} (h : Below (w.alloc o).heap.size (w.alloc o) w1) (h' : Below w1.heap.size w1 w2) : Below (w.heap.size + 1) (w.alloc o) w2 := by
  have e : (w.alloc o).heap.size = w.heap.size + 1 := by simp
  rw [e] at h
  have := h.size
  rw [e] at this
  exact h.trans (h'.mono this)

theorem old_size {w w2 : World} {o : Obj} (h : Below (w.heap.size + 1) (w.alloc o) w2) : w.heap.size + 1 ≤ w2.heap.size := by
  have := h.size
  simpa using this
theorem old_row {w w2 : World} {o q : Obj} (h : Below (w.heap.size + 1) (w.alloc o) w2) : (w2.alloc q).heap[w.heap.size]? = some o := by
  rw [Below.heap_alloc _ _ _ (old_size h), h.block w.heap.size (Nat.lt_succ_self _)]
  exact heap_new w o

set_option maxHeartbeats 2000000 in
set_option maxRecDepth 100000 in
theorem law4 (xs : List Nat) (w : World) (hl : xs.length = 16) (hx : ∀ x ∈ xs, x < 256) :
    Calls Try.prog 4 #[seedV xs] w fun e w' => e = .returned (.bool true) ∧ Below w.heap.size w w' := by
  have hxd : ∀ i, xs.getD i 0 < 256 := by
    intro i
    by_cases hi : i < xs.length
    · rw [List.getD_eq_getElem?_getD, List.getElem?_eq_getElem hi]; exact hx _ (List.getElem_mem hi)
    · rw [List.getD_eq_getElem?_getD, List.getElem?_eq_none (by omega)]; decide
  have HSTR := hide (fun W => str_calls xs W hl hx)
  have HDEC := hide (fun W => decode_calls xs W hl hxd)
  obtain ⟨S, hS⟩ : ∃ S : ByteArray, S = ⟨(Sd.text xs 8).toArray⟩ := ⟨_, rfl⟩
  rw [← hS] at HSTR HDEC
  clear hS hx hxd
  unfold seedV at *
  obtain ⟨arr, harr⟩ : ∃ arr, arr = (xs.map fun (x : Nat) => Value.int .u8 (x : Int)).toArray := ⟨_, rfl⟩
  have hasz : arr.size = 16 := by rw [harr]; simp [hl]
  have HSAME := hide (fun W => same_array arr W (fun i hi => ⟨_, by rw [harr, List.getElem?_toArray, List.getElem?_map, List.getElem?_eq_getElem (by omega : i < xs.length)]; rfl⟩))
  rw [← harr] at HSTR HDEC ⊢
  have HSZ : Hid ((Try.prog.info? 22).map (·.size) = some arr.size) := by rw [hasz]; show _ = _; kernel_rfl
  have H16 := hide hasz.symm
  have H1 : Hid (arr.all (·.oneCell') = true) := by
    show arr.all (·.oneCell') = true
    rw [harr, List.all_toArray, List.all_eq_true]
    intro v hv
    obtain ⟨n, _, rfl⟩ := List.mem_map.1 hv
    rfl
  clear harr hasz hl
  go_enter Try.func4, Try.ntmps4
  go_wp2_with (refine wpList_load_row rfl 22 _ rfl _ rfl 22 arr (0, 0) _ (heap_new _ _) Try.underlying22 rfl HSZ.out ?_)
  refine (HSTR.out _).mono ?_
  rintro e w1 ⟨rfl, hb1⟩
  go_wp2_with fail
  refine (HDEC.out _).mono ?_
  rintro e w2 ⟨rfl, hb2⟩
  have HB := hide (hold_one hb1 hb2)
  have hsame := HSAME.out
  go_wp2_with (first | (refine wpList_store_row rfl 22 _ _ rfl _ arr rfl rfl 22 _ (heap_new _ _) HSZ.out H16.out H1.out ?_; rw [setRow_alloc]) | (refine wpList_load_row_wanted rfl 22 _ rfl w2.heap.size rfl 22 arr (0, 0) _ (heap_new _ _) Try.underlying22 rfl HSZ.out ?_) | (refine wpList_load_row_wanted rfl 22 _ rfl w.heap.size rfl 22 arr (0, 0) _ (old_row HB.out) Try.underlying22 rfl HSZ.out ?_))
  go_ret
  exact ⟨rfl, ((((Below.refl w.heap.size w).alloc (Nat.le_refl _) (Obj.cells arr 22)).trans (HB.out.mono (Nat.le_succ _))).alloc (Nat.le_of_succ_le (old_size HB.out)) _)⟩
end Go.Proofs.Qxb6602177a
