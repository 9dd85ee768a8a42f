/-
  WALK: FnEncodeMatchesModel.
-/
import Derived.Test.Qxb6602111aModel
import Derived.Test.Qxb6602111aEncode
import Derived.Test.Qxb6602111aKit2
import Derived.LaidEqlPtr
namespace Go.Proofs.Qxb6602111a
open Go.RowKit Kit

theorem Kit.Sl.form {w : World} {v : Value} {k : IntKind} {zs : List Int} (h : Sl w v (zs.map (Value.int k))) :
    ∃ a cap b off, v = .slice a zs.length cap ∧ (0 < zs.length → a = some ⟨b, off, none⟩) ∧ zs.length ≤ cap ∧ cap ≤ maxLen ∧ (a = none → cap = 0) ∧ ∀ j, j < zs.length → w.cell? ⟨b, off + j, none⟩ = some (.int k (zs.getD j 0)) := by
  have h0 := h
  obtain ⟨a, cap, hv, h1, h2, h3, _⟩ := h
  simp only [List.length_map] at hv h1
  rcases h0.ints with ⟨rfl, _⟩ | ⟨b, off, cap', hv', h1', h2', hc⟩
  · exact ⟨a, cap, 0, 0, hv, by simp, h1, h2, fun e => (h3 e).2, by simp⟩
  · exact ⟨_, cap', b, off, hv', fun _ => rfl, h1', h2', (fun e => by cases e), hc⟩

set_option maxRecDepth 100000 in
set_option maxHeartbeats 8000000 in
theorem enc_law (a0 : Option Addr) (n0 c0 : Nat) (D : List Int) (a1 : Option Addr) (n1 c1 : Nat) (zs : List Int) (w : World)
    (s0 : Sl w (.slice a0 n0 c0) (D.map (Value.int .u8))) (s1 : Sl w (.slice a1 n1 c1) (zs.map (Value.int .i32))) (l0 : D.length = n0) (l1 : zs.length = n1)
    (hs : n0 + 4 * n1 ≤ 1048576) (hn1 : n1 ≤ 65536) (hcp : cps zs = true) :
    Calls Try.prog 3 #[.slice a0 n0 c0, .slice a1 n1 c1] w fun e w' => e = .returned (.bool true) ∧ Below w.heap.size w w' := by
  have hd : decide (n0 + n1 ≤ 1048576) = true := by simp; omega
  have L0 := hide l0
  have L1 := hide l1
  have M0 : Hid ((D.map (Value.int .u8)).length ≤ 1048576) := by show _ ≤ _; simp; omega
  have M1 : Hid ((zs.map (Value.int .i32)).length ≤ 1048576) := by show _ ≤ _; simp; omega
  have HZ : Hid (∀ k, k < n1 → 0 ≤ zs.getD k 0 ∧ zs.getD k 0 ≤ 1114111) := by rw [← l1]; exact (cps_iff zs).1 hcp
  have HCP := hide hcp
  obtain ⟨J, hJ⟩ := Em.stop_ex (fun i => zs.getD i 0) n1 (Em.head (fun i => zs.getD i 0) n1)
  have HJ := hide hJ
  obtain ⟨la, lcap, lb, loff, lv, lA, lc1, lc2, _, lcell⟩ := s1.form
  simp only [Value.slice.injEq] at lv
  rw [l1] at lv lA lcell lc1
  obtain ⟨rfl, _, rfl⟩ := lv
  have LA := hide lA
  have LC := hide lcell
  clear l0 l1 hcp hJ lA lcell
  go_enter Try.func3, Try.ntmps3
  go_wp2_with (first | (go_at_call 9; refine (zzE_any _ _ _ _ _ _ _ (by omega) (by omega)).mono ?_; rintro e w' ⟨rfl, rfl⟩) | (go_at_call 10; refine (codePoints _ n1 _ lb loff zs _ L1.out.symm (by omega) LA.out LC.out).mono ?_; rintro e w' ⟨rfl, rfl⟩; rw [HCP.out]))
  refine (cloneB_any _ _ _ s0 M0.out (ints_oneCell _ _)).mono ?_
  rintro e w1 ⟨v0, rfl, o0, b1⟩
  go_wp2_with fail
  refine (cloneR_any _ _ _ (s1.below b1) M1.out (ints_oneCell _ _)).mono ?_
  rintro e w2 ⟨v1, rfl, o1, b2⟩
  clear LA LC lc1 lc2
  obtain ⟨da, dcap, db, doff, hv0, dA, dc1, dc2, dnil, dcell⟩ := ((Sl.of_owns o0).below b2).form
  rw [L0.out] at hv0 dA dcell dc1
  subst hv0
  have sd : Sl w2 (.slice da n0 dcap) (D.map (Value.int .u8)) := (Sl.of_owns o0).below b2
  obtain ⟨la', lcap', lb', loff', hv1, lA, lc1, lc2, lnil, lcell⟩ := (Sl.of_owns o1).form
  rw [L1.out] at hv1 lA lcell lc1
  subst hv1
  have HBG : Hid (0 < n1 → lb' < w2.heap.size) := fun h => World.block_lt_of_cell? w2 ⟨lb', loff' + 0, none⟩ (lcell 0 h)
  have mk5 := run_make_row' (P := Try.prog) 22 5 (.int .u8 0) 1 Try.underlying22 Try.info5 rfl .i64 .i64 n0 (by omega) (by omega)
  have HDC : Hid (0 < n0 → ∃ x, da = some x ∧ ∀ i u, (D.map (Value.int .u8))[i]? = some u → w2.cell? (x.add i) = some u) := by
    obtain ⟨a', c', hv, _, _, h3, h4⟩ := sd
    simp only [Value.slice.injEq] at hv
    obtain ⟨rfl, _, rfl⟩ := hv
    intro h
    exact ⟨_, dA h, h4 _ (dA h)⟩
  have DA := hide dA
  have LA := hide lA
  have LC := hide lcell
  clear dA lA lcell dcell
  go_wp2_with (refine wpList_copy_whole rfl _ _ 22 22 rfl 5 Try.underlying22 Try.size5 w2 n0 (.int .u8 0) rfl da dcap (D.map (Value.int .u8)) rfl rfl (by simpa using L0.out.symm) HDC.out (ints_oneCell _ _) ?_)
  obtain ⟨W3, hW3⟩ : ∃ W3, W3 = w2.alloc (.cells (D.map (Value.int .u8)).toArray 5) := ⟨_, rfl⟩
  have hb2' : Below w2.heap.size w2 W3 := by rw [hW3]; exact (Below.refl _ _).alloc (Nat.le_refl _) _
  have hrow0 : W3.heap[w2.heap.size]? = some (.cells (D.map (Value.int .u8)).toArray 5 (0, 0)) := by rw [hW3]; exact heap_alloc_new w2 _
  rw [← hW3]
  have HCL : Hid (∀ j, j < n1 → W3.cell? ⟨lb', loff' + j, none⟩ = some (.int .i32 (zs.getD j 0))) := fun j hj => (hb2'.cell (p := ⟨lb', loff' + j, none⟩) (HBG.out (by omega))).trans (LC.out j hj)
  have hE := zzencode_any w2.heap.size n0 D la' n1 lcap' lb' loff' zs J W3 hn1 hrow0 L0.out LA.out HBG.out HCL.out HZ.out HJ.out
  obtain ⟨W, hW⟩ : ∃ W, W = Em.out (fun i => zs.getD i 0) n1 (Em.head (fun i => zs.getD i 0) n1) J := ⟨_, rfl⟩
  obtain ⟨m, hm⟩ : ∃ m, m = (Em.ord (fun i => zs.getD i 0) n1).length := ⟨_, rfl⟩
  have HM : Hid (∀ w', (∀ j, j < n1 → w'.cell? ⟨lb', loff' + j, none⟩ = some (.int .i32 (zs.getD j 0))) → Calls Try.prog 14 #[.slice la' n1 lcap'] w' fun e w4 => ∃ v', e = .returned (.tuple #[v', .bool (decide (J = m))]) ∧
      w4.ownsRow w'.heap.size 5 1 v' W.length (W.map (Value.int .u8)) ∧ Below w'.heap.size w' w4) := fun w' hc' => by
    rw [hW, hm]; exact model_any la' n1 lcap' lb' loff' zs J w' hn1 LA.out hc' HZ.out HJ.out
  have hWl : W.length ≤ 1048576 := by
    have h1 := Em.out_len (fun i => zs.getD i 0) n1 (Em.head (fun i => zs.getD i 0) n1) hn1 (fun k hk => (HZ.out k hk).2) HJ.out.le
    have h2 := Em.head_len (fun i => zs.getD i 0) n1
    have h3 := HJ.out.le
    have h4 := Em.ord_len (fun i => zs.getD i 0) n1
    rw [hW]; omega
  rw [← hW, ← hm] at hE
  have HE := hide hE
  clear hE hW hm hW3
  refine HE.out.mono ?_
  rintro e w4 ⟨r, ok, rfl, hok, hno, hrow, hb4⟩
  have hcl4 : ∀ j, j < n1 → w4.cell? ⟨lb', loff' + j, none⟩ = some (.int .i32 (zs.getD j 0)) := fun j hj => (hb4.cell (p := ⟨lb', loff' + j, none⟩) (HBG.out (by omega))).trans (HCL.out j hj)
  have hM4 := HM.out w4 hcl4
  have HM4 := hide hM4
  have HROW := hide hrow
  clear hM4 hcl4 HM HE HCL hrow
  have hsz2 := hb2'.size
  have hsz4 := hb4.size
  have hGlt := lt_of_block hrow0
  obtain ⟨i5, hinfo5, _, _, _⟩ := info_parts Try.info5
  by_cases hfit : W.length ≤ n0
  · by_cases hall : J = m
    · obtain rfl : ok = true := by cases ok with | true => rfl | false => exact absurd ⟨hfit, hall⟩ (hno rfl).1
      obtain ⟨_, _, rfl⟩ := hok rfl
      have hdt : decide (J = m) = true := by simpa using hall
      rw [hdt] at HM4
      clear hok hno hall hdt
      go_wp2_with fail
      refine HM4.out.mono ?_
      rintro e w5 ⟨v5, rfl, o5, b5⟩
      obtain ⟨a5, cap5, g5, off5, hv5, A5, cp1, cp2, cp3, _⟩ := (Sl.of_owns o5).form
      subst hv5
      have sw5 := Sl.of_owns o5
      have hrow5 := (b5.block w2.heap.size (by omega)).trans HROW.out
      have q1 := b1.size
      have q2 := b2.size
      have sd5 : Sl w5 (.slice da n0 dcap) (D.map (Value.int .u8)) := (sd.below (hb2'.trans hb4)).below b5
      have hl := L0.out
      have sA : Sl w5 (.slice (some ⟨w2.heap.size, 0, none⟩) W.length n0) (W.map (Value.int .u8)) := by
        refine Sl.of_row hrow5 _ ?_ (by simp; omega) hfit (by unfold maxLen; omega)
        rw [List.drop_zero, List.take_of_length_le hfit, List.map_append]
        rw [List.take_append_of_le_length (by simp), List.take_of_length_le (by simp)]
      have SA := hide sA
      have SW := hide sw5
      have hi0 : (0 : Int) ≤ (W.length : Int) := by omega
      have hi1 : (W.length : Int) ≤ (n0 : Int) := by omega
      have hi2 : (W.length : Int) ≤ (dcap : Int) := by omega
      have hi3 : (n0 : Int) ≤ (dcap : Int) := by omega
      clear sA sw5
      have fin := fun k => below_drewN ((((b1.trans (b2.mono q1)).trans (hb2'.mono (by omega))).trans (hb4.mono (by omega))).trans (b5.mono (by omega))) k
      have FIN := hide fin
      have hq := fun W' => Lib.run_eql_slice_nil (P := Try.prog) W' 22 5 none 0 0 0 0 Try.underlying22
      clear fin
      rcases Nat.lt_or_ge W.length n0 with hlt | hge
      · obtain rfl := DA.out (by omega)
        have hne1 : (n0 : Int) ≠ (W.length : Int) := by omega
        have sC : Sl w5 (.slice (some ⟨w2.heap.size, W.length, none⟩) (n0 - W.length) (n0 - W.length)) ((D.drop W.length).map (Value.int .u8)) := by
          refine Sl.of_row hrow5 _ ?_ (by simp; omega) (Nat.le_refl _) (by unfold maxLen; omega)
          rw [List.take_of_length_le hfit, List.map_append, List.drop_left' (by simp)]
          exact (List.take_of_length_le (by simp; omega)).symm
        have sD := sd5.drop (k := W.length) (cap' := dcap - W.length) (by omega) (by omega) (by omega)
        rw [← List.map_drop] at sD
        have SC := hide sC
        have SD := hide sD
        clear sC sD
        go_wp2_with fail
        go_quiet ((first | (go_at_call_of 15 (Value.slice (some (⟨w2.heap.size, 0, none⟩ : Addr)) W.length n0); exact Calls.quiet_of (eqB_same _ _ _ _ (SA.out.drewN _) (SW.out.drewN _))) | (go_at_call 15; exact Calls.quiet_of (eqB_same _ _ _ _ (SC.out.drewN _) (SD.out.drewN _)))))
        go_wp2_with fail
        all_goals
          refine (eqB_same _ _ _ _ (SA.out.drewN _) (SW.out.drewN _)).mono ?_
          rintro e w6 ⟨rfl, k, hw6⟩
          subst hw6
          by_cases h0 : W.length = 0
          · have h0b : ((W.length : Int) == 0) = true := beq_iff_eq.2 (by omega)
            have H0 := hide h0
            clear h0
            go_wp2
            go_quiet (fail)
            go_wp2
            go_ret
            exact ⟨rfl, below_drewN (FIN.out _) _⟩
          · have h0b : ((W.length : Int) == 0) = false := beq_eq_false_iff_ne.2 (by omega)
            have hp1 : (0 : Int) < (W.length : Int) := by omega
            have hp2 : (0 : Int) < (n0 : Int) := by omega
            have hpq := fun W' => run_eql_ptr_same (P := Try.prog) W' (tp := 32) (te := 5) ⟨w2.heap.size, 0, none⟩ Try.underlying32 hinfo5
            go_wp2
            go_quiet (fail)
            go_wp2
            go_ret
            exact ⟨rfl, below_drewN (FIN.out _) _⟩
      · obtain rfl : n0 = W.length := by omega
        cases da with
        | none =>
          go_wp2_with fail
          go_quiet ((first | (go_at_call_of 15 (Value.slice (some (⟨w2.heap.size, 0, none⟩ : Addr)) W.length W.length); exact Calls.quiet_of (eqB_same _ _ _ _ (SA.out.drewN _) (SW.out.drewN _))) | (go_at_call 15; exact Calls.quiet_of_same (eqB_empty _ _ _ _ _))))
          go_wp2_with fail
          all_goals
            refine (eqB_same _ _ _ _ (SA.out.drewN _) (SW.out.drewN _)).mono ?_
            rintro e w6 ⟨rfl, k, hw6⟩
            subst hw6
            by_cases h0 : W.length = 0
            · have h0b : ((W.length : Int) == 0) = true := beq_iff_eq.2 (by omega)
              have H0 := hide h0
              clear h0
              go_wp2
              go_quiet (fail)
              go_wp2
              go_ret
              exact ⟨rfl, below_drewN (FIN.out _) _⟩
            · have h0b : ((W.length : Int) == 0) = false := beq_eq_false_iff_ne.2 (by omega)
              have hp1 : (0 : Int) < (W.length : Int) := by omega
              have hp2 : (0 : Int) < (W.length : Int) := by omega
              have hpq := fun W' => run_eql_ptr_same (P := Try.prog) W' (tp := 32) (te := 5) ⟨w2.heap.size, 0, none⟩ Try.underlying32 hinfo5
              go_wp2
              go_quiet (fail)
              go_wp2
              go_ret
              exact ⟨rfl, below_drewN (FIN.out _) _⟩
        | some x =>
          go_wp2_with fail
          go_quiet ((first | (go_at_call_of 15 (Value.slice (some (⟨w2.heap.size, 0, none⟩ : Addr)) W.length W.length); exact Calls.quiet_of (eqB_same _ _ _ _ (SA.out.drewN _) (SW.out.drewN _))) | (go_at_call 15; exact Calls.quiet_of_same (eqB_empty _ _ _ _ _))))
          go_wp2_with fail
          all_goals
            refine (eqB_same _ _ _ _ (SA.out.drewN _) (SW.out.drewN _)).mono ?_
            rintro e w6 ⟨rfl, k, hw6⟩
            subst hw6
            by_cases h0 : W.length = 0
            · have h0b : ((W.length : Int) == 0) = true := beq_iff_eq.2 (by omega)
              have H0 := hide h0
              clear h0
              go_wp2
              go_quiet (fail)
              go_wp2
              go_ret
              exact ⟨rfl, below_drewN (FIN.out _) _⟩
            · have h0b : ((W.length : Int) == 0) = false := beq_eq_false_iff_ne.2 (by omega)
              have hp1 : (0 : Int) < (W.length : Int) := by omega
              have hp2 : (0 : Int) < (W.length : Int) := by omega
              have hpq := fun W' => run_eql_ptr_same (P := Try.prog) W' (tp := 32) (te := 5) ⟨w2.heap.size, 0, none⟩ Try.underlying32 hinfo5
              go_wp2
              go_quiet (fail)
              go_wp2
              go_ret
              exact ⟨rfl, below_drewN (FIN.out _) _⟩
    · obtain rfl : ok = false := by cases ok with | false => rfl | true => exact absurd (hok rfl).2.1 hall
      obtain ⟨_, rfl⟩ := hno rfl
      have hdt : decide (J = m) = false := by simpa using hall
      rw [hdt] at HM4
      clear hok hno hall hdt
      go_wp2_with fail
      refine HM4.out.mono ?_
      rintro e w5 ⟨v5, rfl, o5, b5⟩
      obtain ⟨a5, cap5, g5, off5, hv5, A5, cp1, cp2, cp3, _⟩ := (Sl.of_owns o5).form
      subst hv5
      have sw5 := Sl.of_owns o5
      have hrow5 := (b5.block w2.heap.size (by omega)).trans HROW.out
      have q1 := b1.size
      have q2 := b2.size
      have sd5 : Sl w5 (.slice da n0 dcap) (D.map (Value.int .u8)) := (sd.below (hb2'.trans hb4)).below b5
      have hl := L0.out
      have sA : Sl w5 (.slice (some ⟨w2.heap.size, 0, none⟩) W.length n0) (W.map (Value.int .u8)) := by
        refine Sl.of_row hrow5 _ ?_ (by simp; omega) hfit (by unfold maxLen; omega)
        rw [List.drop_zero, List.take_of_length_le hfit, List.map_append]
        rw [List.take_append_of_le_length (by simp), List.take_of_length_le (by simp)]
      have SA := hide sA
      have SW := hide sw5
      have hi0 : (0 : Int) ≤ (W.length : Int) := by omega
      have hi1 : (W.length : Int) ≤ (n0 : Int) := by omega
      have hi2 : (W.length : Int) ≤ (dcap : Int) := by omega
      have hi3 : (n0 : Int) ≤ (dcap : Int) := by omega
      clear sA sw5
      have fin := fun k => below_drewN ((((b1.trans (b2.mono q1)).trans (hb2'.mono (by omega))).trans (hb4.mono (by omega))).trans (b5.mono (by omega))) k
      have FIN := hide fin
      have hq := fun W' => Lib.run_eql_slice_nil (P := Try.prog) W' 22 5 none 0 0 0 0 Try.underlying22
      clear fin
      rcases Nat.lt_or_ge W.length n0 with hlt | hge
      · obtain rfl := DA.out (by omega)
        have hne1 : (n0 : Int) ≠ (W.length : Int) := by omega
        have sC : Sl w5 (.slice (some ⟨w2.heap.size, W.length, none⟩) (n0 - W.length) (n0 - W.length)) ((D.drop W.length).map (Value.int .u8)) := by
          refine Sl.of_row hrow5 _ ?_ (by simp; omega) (Nat.le_refl _) (by unfold maxLen; omega)
          rw [List.take_of_length_le hfit, List.map_append, List.drop_left' (by simp)]
          exact (List.take_of_length_le (by simp; omega)).symm
        have sD := sd5.drop (k := W.length) (cap' := dcap - W.length) (by omega) (by omega) (by omega)
        rw [← List.map_drop] at sD
        have SC := hide sC
        have SD := hide sD
        clear sC sD
        go_wp2_with fail
        go_quiet ((first | (go_at_call_of 15 (Value.slice (some (⟨w2.heap.size, 0, none⟩ : Addr)) W.length n0); exact Calls.quiet_of (eqB_same _ _ _ _ (SA.out.drewN _) (SW.out.drewN _))) | (go_at_call 15; exact Calls.quiet_of (eqB_same _ _ _ _ (SC.out.drewN _) (SD.out.drewN _)))))
        go_wp2
        go_ret
        exact ⟨rfl, FIN.out _⟩
      · obtain rfl : n0 = W.length := by omega
        cases da with
        | none =>
          go_wp2_with fail
          go_quiet ((first | (go_at_call_of 15 (Value.slice (some (⟨w2.heap.size, 0, none⟩ : Addr)) W.length W.length); exact Calls.quiet_of (eqB_same _ _ _ _ (SA.out.drewN _) (SW.out.drewN _))) | (go_at_call 15; exact Calls.quiet_of_same (eqB_empty _ _ _ _ _))))
          go_wp2
          go_ret
          exact ⟨rfl, FIN.out _⟩
        | some x =>
          go_wp2_with fail
          go_quiet ((first | (go_at_call_of 15 (Value.slice (some (⟨w2.heap.size, 0, none⟩ : Addr)) W.length W.length); exact Calls.quiet_of (eqB_same _ _ _ _ (SA.out.drewN _) (SW.out.drewN _))) | (go_at_call 15; exact Calls.quiet_of_same (eqB_empty _ _ _ _ _))))
          go_wp2
          all_goals (go_ret; exact ⟨rfl, FIN.out _⟩)
  · obtain rfl : ok = false := by cases ok with | false => rfl | true => exact absurd (hok rfl).1 hfit
    obtain ⟨_, rfl⟩ := hno rfl
    clear hok hno
    go_wp2_with fail
    refine HM4.out.mono ?_
    rintro e w5 ⟨v5, rfl, o5, b5⟩
    obtain ⟨a5, cap5, g5, off5, hv5, A5, cp1, cp2, cp3, _⟩ := (Sl.of_owns o5).form
    subst hv5
    have sw5 := Sl.of_owns o5
    have hrow5 := (b5.block w2.heap.size (by omega)).trans HROW.out
    have sb : Sl w5 (.slice (some ⟨w2.heap.size, 0, none⟩) n0 n0) ((W.take n0).map (Value.int .u8)) := by
      have hl := L0.out
      refine Sl.of_row hrow5 _ ?_ (by simp; omega) (Nat.le_refl _) (by unfold maxLen; omega)
      rw [List.drop_zero, List.drop_eq_nil_of_le (by omega : D.length ≤ W.length), List.append_nil]
      exact (List.take_of_length_le (by simp; omega)).symm
    obtain rfl := A5 (by omega)
    have st : Sl w5 (.slice (some ⟨g5, off5, none⟩) n0 cap5) ((W.take n0).map (Value.int .u8)) := by
      have := sw5.take (k := n0) (cap' := cap5) (by omega) (by omega) (Nat.le_refl _) (fun e => by cases e)
      rwa [← List.map_take] at this
    have q1 := b1.size
    have q2 := b2.size
    have SB := hide sb
    have ST := hide st
    clear sb st hrow5 sw5 A5
    have hq := fun W' => Lib.run_eql_slice_nil (P := Try.prog) W' 22 5 none 0 0 0 0 Try.underlying22
    have hi1 : (n0 : Int) ≤ (cap5 : Int) := by omega
    go_wp2_with fail
    refine (eqB_same _ _ _ w5 SB.out ST.out).mono ?_
    rintro e w6 ⟨rfl, k, hw6⟩
    subst hw6
    have fin := below_drewN ((((b1.trans (b2.mono q1)).trans (hb2'.mono (by omega))).trans (hb4.mono (by omega))).trans (b5.mono (by omega))) k
    go_wp2
    go_ret
    exact ⟨rfl, fin⟩

end Go.Proofs.Qxb6602111a
