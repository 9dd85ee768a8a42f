/-
  WALK: FnRollScriptKeepsColumnsRising.
-/
import Derived.Test.Qxb6601781aState
import Derived.Test.Qxb6601781aMath
namespace Go.Proofs.Qxb6601781a
open Go.RowKit Kit RollMath

theorem Kit.Sl.form {w : World} {v : Value} {k : IntKind} {zs : List Int} (h : Sl w v (zs.map (Value.int k))) :
    ∃ a cap b off, v = .slice a zs.length cap ∧ (0 < zs.length → a = some ⟨b, off, none⟩) ∧ zs.length ≤ cap ∧ cap ≤ maxLen ∧ ∀ j, j < zs.length → w.cell? ⟨b, off + j, none⟩ = some (.int k (zs.getD j 0)) := by
  have h0 := h
  obtain ⟨a, cap, hv, h1, h2, _⟩ := h
  simp only [List.length_map] at hv h1
  rcases h0.ints with ⟨rfl, _⟩ | ⟨b, off, cap', hv', h1', h2', hc⟩
  · exact ⟨a, cap, 0, 0, hv, by simp, h1, h2, by simp⟩
  · exact ⟨_, cap', b, off, hv', fun _ => rfl, h1', h2', hc⟩

theorem wrap_in (n : Int) (h0 : -9223372036854775808 ≤ n) (h1 : n ≤ 9223372036854775807) : IntKind.i64.wrap n = n := by
  rw [IntKind.wrap_i64]; omega

/-- 'y := make([]T, m); copy(y, x)', x no longer than m. -/
theorem wpList_copy_into {P : Program} {W : World} {ops : Array Oper} {rest : List Oper} {o : Oper} {a : Act} {Q : Exit → Act → World → Prop} (hgd : o.guard = none) (d s : Operand) (dT sT : TypeId)
    (ho : o.op = .call { callee := .builtin .copy, args := #[d, s], argTypes := #[dT, sT] }) (elem : TypeId) (hu : P.underlying dT = some (.slice elem)) (hsz : (P.info? elem).map (·.size) = some 1)
    (w : World) (n m : Nat) (z : Value) (hW : W = w.alloc (.cells (madeCells #[z] m) elem)) (sp : Option Addr) (cap : Nat) (xs : List Value) (hd : a.eval d = .slice (some ⟨w.heap.size, 0, none⟩) m m) (hs : a.eval s = .slice sp n cap)
    (hn : n = xs.length) (hm : n ≤ m) (hc : 0 < n → ∃ x, sp = some x ∧ ∀ i u, xs[i]? = some u → w.cell? (x.add i) = some u) (h1 : ∀ u ∈ xs, u.oneCell' = true)
    (h : ∀ w', w'.rowIs w.heap.size elem m (fun j => (xs[j]?).getD z) → Below w.heap.size w w' → wpList P ops Q rest (a.put o.dst (.int .i64 n)) w') : wpList P ops Q (o :: rest) a W := by
  subst hW
  by_cases h0 : n = 0
  · subst h0
    obtain rfl : xs = [] := List.eq_nil_of_length_eq_zero hn.symm
    refine wpList_copy_nothing hgd d s dT sT ho elem hu hsz _ sp m m 0 cap hd hs (by simp) ?_
    exact h _ ((World.rowIs_made w z m elem).congr fun i _ => by simp) ((Below.refl _ _).alloc (Nat.le_refl _) _)
  · obtain ⟨x, rfl, hcx⟩ := hc (by omega)
    refine wpList_copy_own hgd d s dT sT ho elem hu hsz w.heap.size 0 m m x n cap hd hs (madeCells #[z] m) elem (heap_alloc_new w _) xs (by rw [← hn]; exact (Nat.min_eq_left hm).symm) ?_ (by rw [size_madeCells]; omega) h1 ?_
    · intro i u hi
      have := hcx i u hi
      exact (((Below.refl w.heap.size w).alloc (Nat.le_refl _) _).cell (World.block_lt_of_cell? w _ this)).trans this
    · rw [setRow_alloc, ← hn]
      refine h _ ⟨_, heap_alloc_new w _, ?_, ?_⟩ ((Below.refl _ _).alloc (Nat.le_refl _) _)
      · simp [toList_madeCells_one]; omega
      · intro i hi
        simp only [List.take_zero, List.nil_append, List.getElem?_toArray, toList_madeCells_one]
        by_cases hi2 : i < xs.length
        · rw [List.getElem?_append_left hi2, List.getElem?_eq_getElem hi2]; rfl
        · have e1 : xs[i]? = none := List.getElem?_eq_none (by omega)
          rw [List.getElem?_append_right (by omega), e1, List.getElem?_drop, List.getElem?_replicate, if_pos (by omega)]; rfl

/-- The row 'top' behind the store of the innermost column. -/
theorem top_row {w : World} {G t k : Nat} {zs : List Int} (ht : t = (lines zs k).length) (h : w.rowIs G 3 (t + 1) (fun j => (((inds zs k).map (Value.int .i64))[j]?).getD (.int .i64 0))) :
    (w.setCell ⟨G, t, none⟩ (.int .i64 (ind zs k))).rowIs G 3 (t + 1) (fun j => .int .i64 ((top zs k).getD j 0)) := by
  refine (h.set t _).congr fun i hi => ?_
  have hl := (len_eq zs k).1
  by_cases hit : i = t
  · subst hit
    rw [if_pos rfl, ht, last_getD]
  · rw [if_neg hit, top_split]
    have : i < (inds zs k).length := by omega
    simp [List.getD, List.getElem?_append_left this, this]

/-- The rows' cells behind what came after. -/
theorem rows_cells {w wc : World} {H t J : Nat} {kind : Int} {ls : List Int} (hR : Rows6 w H t kind ls t) (hb : Below w.heap.size w wc) (hJ : J < t) :
    wc.cell? ⟨H, J, none⟩ = some (.int .u8 kind) ∧ wc.cell? ⟨H + 1, J, none⟩ = some (.int .u8 0) ∧ wc.cell? ⟨H + 2, J, none⟩ = some (.int .i64 (ls.getD J 0)) ∧
    wc.cell? ⟨H + 3, J, none⟩ = some (.string ⟨#[]⟩) ∧ wc.cell? ⟨H + 4, J, none⟩ = some (.string ⟨#[]⟩) ∧ wc.cell? ⟨H + 5, J, none⟩ = some (.int .i64 0) := by
  refine ⟨?_, ?_, ?_, ?_, ?_, ?_⟩
  · rw [hb.cell (by exact hR.r0.lt), hR.r0.cell hJ, if_pos hJ]
  · rw [hb.cell (by exact hR.r1.lt), hR.r1.cell hJ]
  · rw [hb.cell (by exact hR.r2.lt), hR.r2.cell hJ, if_pos hJ]
  · rw [hb.cell (by exact hR.r3.lt), hR.r3.cell hJ]
  · rw [hb.cell (by exact hR.r4.lt), hR.r4.cell hJ]
  · rw [hb.cell (by exact hR.r5.lt), hR.r5.cell hJ]

theorem scan_step {w1 : World} {B S k : Nat} {kind : Int} {zs : List Int}
    (h : if ind zs k < zs.getD k 0 then Scan w1 B S (zs.getD k 0) (inds zs k ++ [ind zs k]) kind (lines zs k ++ [(k : Int)]) else Scan w1 B S (ind zs k) (inds zs k) kind (lines zs k)) :
    Scan w1 B S (ind zs (k + 1)) (inds zs (k + 1)) kind (lines zs (k + 1)) := by
  by_cases hlt : ind zs k < zs.getD k 0
  · rw [if_pos hlt] at h
    obtain ⟨_, e2, e3, e4⟩ := step_yes zs k hlt
    rw [e2, e3, e4]; exact h
  · rw [if_neg hlt] at h
    obtain ⟨_, e2, e3, e4⟩ := step_no zs k hlt
    rw [e2, e3, e4]; exact h

set_option maxRecDepth 100000 in
set_option maxHeartbeats 4000000 in
theorem roll_law (a0 : Option Addr) (n cap0 : Nat) (zs : List Int) (kind : Int) (w : World)
    (s0 : Sl w (.slice a0 n cap0) (zs.map (Value.int .i64))) (l0 : zs.length = n) (hs : n ≤ 65536) :
    Calls Try.prog 6 #[.slice a0 n cap0, .int .u8 kind] w fun e w' => e = .returned (.bool true) ∧ Below w.heap.size w w' := by
  have hd : decide (n ≤ 1048576) = true := by simp; omega
  have L0 := hide l0
  have m0 : (zs.map (Value.int .i64)).length ≤ 1048576 := by simp; omega
  have M0 := hide m0
  clear l0 m0
  go_enter Try.func6, Try.ntmps6
  go_wp2_with (go_at_call 20; refine (zzR_any _ _ _ _ _ (by omega)).mono ?_; rintro e w' ⟨rfl, rfl⟩)
  refine (cloneI_any _ _ _ s0 M0.out (ints_oneCell _ _)).mono ?_
  rintro e w1 ⟨v1, rfl, o1, b1⟩
  obtain ⟨a, cap, cb, off, hv1, HA, hcap1, hcap2, hcc⟩ := (Sl.of_owns o1).form
  rw [L0.out] at hv1 HA hcc hcap1
  subst hv1
  have HA := hide HA
  have HCC := hide hcc
  clear hcc
  go_wp2_with fail
  refine (newScanner kind w1).mono ?_
  rintro e w2 ⟨S, rfl, hscan, hSB, b2⟩
  go_wp2
  go_loopw [6] (fun i wr => ∃ k : Nat, k ≤ n ∧ i = .int .i64 k ∧ Scan wr w1.heap.size S (ind zs k) (inds zs k) kind (lines zs k) ∧ Below w1.heap.size w1 wr) (fun i _ => n - (intOf i).toNat)
  case atStart => exact ⟨0, Nat.zero_le _, rfl, hscan, b2⟩
  case round =>
    obtain ⟨k, hk, rfl, hsc, hb⟩ := hrel
    by_cases hlt : k < n
    · obtain rfl := HA.out (by omega)
      have q := HCC.out k hlt
      have p := (hb.cell (p := ⟨cb, off + k, none⟩) (World.block_lt_of_cell? w1 _ q)).trans q
      clear q
      have hle := len_eq zs k
      obtain ⟨hle1, hle2⟩ := hle
      have HL := hide hle1
      clear hle1
      have i1 : (k : Int) < (n : Int) := by omega
      go_wp2_with fail
      refine (zzroll_any w1.heap.size S (ind zs k) _ kind k (inds zs k) (lines zs k) wr hsc (by rw [HL.out]; omega) (by omega) hSB).mono ?_
      rintro e w3 ⟨rfl, hsc', hb'⟩
      have R := scan_step hsc'
      have hb3 := hb.trans hb'
      clear hsc' hb' hsc hb p
      go_wp2
      go_roundw
      case rel => exact ⟨k + 1, by omega, by go_num, R, hb3⟩
      case measure => simp [intOf]; omega
    · obtain rfl : k = n := by omega
      obtain ⟨hle1, hle2⟩ := len_eq zs k
      have hst := state_scan w1.heap.size S (ind zs k) kind (inds zs k) (lines zs k) wr hsc (by omega)
      obtain ⟨t, ht⟩ : ∃ t, t = (lines zs k).length := ⟨_, rfl⟩
      rw [← ht] at hst hle1 hle2
      have HT := hide ht
      have HL := hide hle1
      clear ht hle1
      go_wp2_with fail
      refine hst.mono ?_
      clear hst
      rintro e w3 ⟨vi, rfl, hsl, hR, hb3⟩
      obtain ⟨ai, capi, ib, ioff, hvi, HAI, hci1, hci2, hcci⟩ := hsl.form
      rw [HL.out] at hvi HAI hci1 hcci
      subst hvi
      have HAI := hide HAI
      have HCI := hide hcci
      clear hcci
      have mk3 := run_make_row' (P := Try.prog) 29 3 (.int .i64 0) 8 Try.underlying29 Try.info3 rfl .i64 .i64 (t + 1) (by omega) (by omega)
      rw [show ((t + 1 : Nat) : Int) = (t : Int) + 1 from by omega] at mk3
      have HCS : Hid (0 < t → ∃ x, ai = some x ∧ ∀ i u, ((inds zs k).map (Value.int .i64))[i]? = some u → w3.cell? (x.add i) = some u) := by
        intro h0
        refine ⟨_, HAI.out h0, fun i u hu => ?_⟩
        have hi : i < t := by have := (List.getElem?_eq_some_iff.1 hu).1; have := HL.out; simp at *; omega
        rw [Addr.add_lit, HCI.out i hi, ← hu]
        simp [List.getD, show i < (inds zs k).length by have := HL.out; omega]
      clear HAI HCI hsl
      go_upto_region 18 with fail
      have hsz := hb3.size
      go_cut [] (fun wx => wx.rowIs w3.heap.size 3 (t + 1) (fun j => (((inds zs k).map (Value.int .i64))[j]?).getD (.int .i64 0)) ∧ Below w3.heap.size w3 wx)
      case first =>
        go_wp2_with (refine wpList_copy_into rfl _ _ 29 29 rfl 3 Try.underlying29 Try.size3 w3 t (t + 1) (.int .i64 0) rfl ai capi ((inds zs k).map (Value.int .i64)) rfl rfl (by simpa using HL.out.symm) (by omega) HCS.out (ints_oneCell _ _) ?_; intro w4 hrow4 hb4)
        go_meet
        exact ⟨hrow4, hb4⟩
      case rest =>
        obtain ⟨hrow4, hb4⟩ := hcut
        have ct := hrow4.cell (i := t) (by omega)
        have ft := hrow4.frozen t
        go_upto_region 19 with fail
        go_cut [] (fun wx => wx.rowIs w3.heap.size 3 (t + 1) (fun j => .int .i64 ((top zs k).getD j 0)) ∧ Below w3.heap.size w3 wx)
        case first =>
          go_wp2_with fail
          go_meet
          exact ⟨top_row HT.out hrow4, hb4.setCell (Nat.le_refl _) _⟩
        case rest =>
          obtain ⟨hrow, hb5⟩ := hcut
          clear hrow4 hb4 ct ft
          have c0 := hrow.cell (i := 0) (by omega)
          simp only [top_head] at c0
          have HROW := hide hrow
          clear hrow
          go_wp2
          go_loopw [20] (fun j wr' => ∃ q : Nat, 1 ≤ q ∧ q ≤ t + 1 ∧ j = .int .i64 q ∧ ∃ m, wr' = wc.drewN m) (fun j _ => t + 1 - (intOf j).toNat)
          case atStart => exact ⟨1, by omega, by omega, rfl, 0, rfl⟩
          case round =>
            obtain ⟨q, hq1, hq2, rfl, m, rfl⟩ := hrel
            by_cases hq : q ≤ t
            · have d1 := HROW.out.cell (i := q - 1) (by omega)
              have d2 := HROW.out.cell (i := q) (by omega)
              have hr := rising zs k q hq1 (by rw [← HT.out]; exact hq)
              simp only [List.getD_eq_getElem?_getD] at hr
              have j1 : (q : Int) < (t : Int) + 1 := by omega
              have j2 : (0 : Int) ≤ (q : Int) - 1 := by omega
              have j3 : (q : Int) - 1 < (t : Int) + 1 := by omega
              go_wp2
              go_quiet (fail)
              go_wp2
              go_roundw
              case rel => exact ⟨q + 1, by omega, by omega, by go_num, _, rfl⟩
              case measure => simp [intOf]; omega
            · go_wp2
              go_loopw [21, 22, 23] (fun j best i wr' => ∃ x J : Nat, x ≤ k ∧ i = .int .i64 x ∧ j = .int .i64 J ∧ J = (lines zs x).length ∧ best = .int .i64 (ind zs x) ∧ ∃ m, wr' = wc.drewN m) (fun _ _ i _ => k - (intOf i).toNat)
              case atStart => exact ⟨0, 0, by omega, rfl, rfl, rfl, rfl, m, rfl⟩
              case round =>
                obtain ⟨x, J, hx, rfl, rfl, hJ, rfl, m', rfl⟩ := hrel
                have HJ := hide hJ
                clear hJ
                by_cases hxk : x < k
                · obtain rfl := HA.out (by omega)
                  have g0 := HCC.out x hxk
                  have g1 := (hb.cell (p := ⟨cb, off + x, none⟩) (World.block_lt_of_cell? w1 _ g0)).trans g0
                  have g2 := (hb3.cell (p := ⟨cb, off + x, none⟩) (World.block_lt_of_cell? wr _ g1)).trans g1
                  have g3 := (hb5.cell (p := ⟨cb, off + x, none⟩) (World.block_lt_of_cell? w3 _ g2)).trans g2
                  clear g0 g1 g2
                  have x1 : (x : Int) < (k : Int) := by omega
                  by_cases hpush : ind zs x < zs.getD x 0
                  · obtain ⟨p1, p2, p3⟩ := at_push zs x k hxk hpush
                    rw [← HT.out] at p1
                    rw [← HJ.out] at p1 p2 p3
                    obtain ⟨k0, k1, k2, k3, k4, k5⟩ := rows_cells hR hb5 p1
                    have kt := HROW.out.cell (i := J + 1) (by omega)
                    rw [p2] at k2
                    simp only [p3] at kt
                    have HS := hide (step_yes zs x hpush)
                    simp only [List.getD_eq_getElem?_getD] at hpush
                    clear p2 p3
                    have z1 : decide ((t : Int) ≤ (J : Int)) = false := decide_eq_false (by omega)
                    have z1' : decide (t ≤ J) = false := decide_eq_false (by omega)
                    have zw := wrap_in ((J : Int) + 1) (by omega) (by omega)
                    have z2 : (J : Int) < (t : Int) := by omega
                    have z3 : (J : Int) + 1 < (t : Int) + 1 := by omega
                    go_wp2
                    go_quiet (fail)
                    go_wp2
                    go_roundw
                    case rel => exact ⟨x + 1, J + 1, by omega, by go_num, by go_num, by rw [HS.out.2.2.2, List.length_append, ← HJ.out]; rfl, by rw [HS.out.2.1, List.getD_eq_getElem?_getD], _, rfl⟩
                    case measure => simp [intOf]; omega
                  · have HS := hide (step_no zs x hpush)
                    simp only [List.getD_eq_getElem?_getD] at hpush
                    go_wp2
                    go_roundw
                    case rel => exact ⟨x + 1, J, by omega, by go_num, rfl, by rw [HS.out.2.2.2]; exact HJ.out, by rw [HS.out.2.1], m', rfl⟩
                    case measure => simp [intOf]; omega
                · obtain rfl : x = k := by omega
                  have he : ((J : Int) == (t : Int)) = true := by rw [HT.out, HJ.out]; simp
                  have q1 := b1.size
                  have q2 := hb.size
                  have fin := below_drewN ((b1.trans (hb.mono q1)).trans ((hb3.mono (by omega)).trans (hb5.mono (by omega)))) m'
                  go_wp2
                  go_ret
                  exact ⟨rfl, fin⟩

end Go.Proofs.Qxb6601781a
