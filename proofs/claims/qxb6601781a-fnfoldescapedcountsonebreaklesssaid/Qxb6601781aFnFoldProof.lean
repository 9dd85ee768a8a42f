/-
  PROOF OF 'Rows.FnFoldEscapedCountsOneBreakLessSaid'. The frame (IsRow, lifted, over, proved) is the shell tool's.
-/
import Derived.Test.Qxb6601781aRows
import Derived.WalkKit
import Derived.ProofKit
import Derived.OpenShut
import Derived.ShutString
import Derived.ChangeOld
import Derived.Below
import Derived.Test.Qxb6601781aBytes
namespace Go.Proofs.Qxb6601781a.fnFoldEscapedCountsOneBreakLess
open Go.ChangeShapes Go.WideShapes Go.ChangeAt Go.RowKit
open Go.ChangeMaps (open_string shut_string)
set_option linter.unusedVariables false

theorem own : ownKnob Try.prog.godebug = none := by kernel_rfl
theorem laidOut : laidOutB Try.prog = true := by kernel_rfl

/-- WHAT THE WALK IS TOLD OF A SLICE OF INTEGERS THAT CAME IN: it is nil; or it leads to a row of 'cap' cells, the numbers 'zs' (the first 'len' are its elements, the rest its spare room), each fitting its kind. -/
def IsRow (k : IntKind) (w : World) (a : Option Addr) (len cap : Nat) (zs : List Int) : Prop :=
  (a = none ∧ len = 0 ∧ cap = 0 ∧ zs = []) ∨
  ∃ x, a = some x ∧ len ≤ cap ∧ cap ≤ maxLen ∧ zs.length = cap ∧ (∀ i, i < zs.length → w.cell? (x.add i) = some (.int k (zs.getD i 0))) ∧ ∀ n ∈ zs, (Lit.int k n).wf = true

open Kit

theorem IsRow.sl {k : IntKind} {w : World} {a : Option Addr} {len cap : Nat} {zs : List Int} (h : IsRow k w a len cap zs) : Sl w (.slice a len cap) ((zs.take len).map (Value.int k)) := by
  rcases h with ⟨rfl, rfl, rfl, rfl⟩ | ⟨x, rfl, hl, hm, hz, hc, _⟩
  · exact Sl.nil w
  · have e : ((zs.take len).map (Value.int k)).length = len := by simp; omega
    refine ⟨some x, cap, by rw [e], by omega, hm, (fun h => by cases h), fun y hy i u hu => ?_⟩
    cases hy
    have hi : i < len := by have := (List.getElem?_eq_some_iff.1 hu).1; omega
    rw [hc i (by omega)]
    rw [← hu]
    simp [List.getD, hi, show i < zs.length by omega]

theorem IsRow.len {k : IntKind} {w : World} {a : Option Addr} {len cap : Nat} {zs : List Int} (h : IsRow k w a len cap zs) : len ≤ 9223372036854775807 ∧ ((zs.take len).map (Value.int k)).length = len := by
  rcases h with ⟨rfl, rfl, rfl, rfl⟩ | ⟨x, rfl, hl, hm, hz, hc, _⟩
  · simp
  · unfold maxLen at hm; simp; omega

theorem one_ints (k : IntKind) (zs : List Int) : ∀ u ∈ zs.map (Value.int k), u.oneCell' = true := ints_oneCell k zs

set_option maxHeartbeats 400000 in
theorem walk_out (a0 : Option Addr) (len0 cap0 : Nat) (a1 : Option Addr) (len1 cap1 : Nat) (a2 : Int) (w : World) (h0 : len0 ≤ 9223372036854775807) (h1 : len1 ≤ 9223372036854775807) (hout : ¬ len0 + len1 ≤ 1048576 ∨ 65536 < a2 ∨ a2 < -65536) :
    Calls Try.prog 3 #[.slice a0 len0 cap0, .slice a1 len1 cap1, .int .i64 a2] w fun e w' => e = .returned (.bool true) ∧ w' = w := by
  by_cases hz : len0 + len1 ≤ 1048576
  · have hd : decide (len0 + len1 ≤ 1048576) = true := by simp; omega
    have hbr : 65536 < a2 ∨ a2 < -65536 := by omega
    clear hout
    rcases hbr with hbr | hbr
    · go_enter Try.func3, Try.ntmps3
      go_wp2_with (go_at_call 7; refine (zz_any _ _ _ _ _ _ _ _ h0 h1).mono ?_; rintro e w' ⟨rfl, rfl⟩)
      go_ret
      exact ⟨rfl, rfl⟩
    · go_enter Try.func3, Try.ntmps3
      go_wp2_with (go_at_call 7; refine (zz_any _ _ _ _ _ _ _ _ h0 h1).mono ?_; rintro e w' ⟨rfl, rfl⟩)
      go_ret
      exact ⟨rfl, rfl⟩
  · have hd : decide (len0 + len1 ≤ 1048576) = false := by simp; omega
    go_enter Try.func3, Try.ntmps3
    go_wp2_with (go_at_call 7; refine (zz_any _ _ _ _ _ _ _ _ h0 h1).mono ?_; rintro e w' ⟨rfl, rfl⟩)
    go_ret
    exact ⟨rfl, rfl⟩

set_option maxHeartbeats 1000000 in
theorem walk_in (a0 : Option Addr) (len0 cap0 : Nat) (z0 : List Int) (a1 : Option Addr) (len1 cap1 : Nat) (z1 : List Int) (a2 : Int) (w : World)
    (s0 : Sl w (.slice a0 len0 cap0) (z0.map (Value.int .u8))) (s1 : Sl w (.slice a1 len1 cap1) (z1.map (Value.int .u8))) (l0 : (z0.map (Value.int .u8)).length = len0) (l1 : (z1.map (Value.int .u8)).length = len1)
    (hs : len0 + len1 ≤ 1048576) (hb1 : a2 ≤ 65536) (hb2 : -65536 ≤ a2) :
    Calls Try.prog 3 #[.slice a0 len0 cap0, .slice a1 len1 cap1, .int .i64 a2] w fun e w' => e = .returned (.bool true) ∧ Below w.heap.size w w' := by
  have hd : decide (len0 + len1 ≤ 1048576) = true := by simp; omega
  have L0 : Hid (z0.length = len0) := (by simpa using l0 : z0.length = len0)
  have L1 : Hid (z1.length = len1) := (by simpa using l1 : z1.length = len1)
  clear l0 l1
  have m0 : (z0.map (Value.int .u8)).length ≤ 1048576 := by have := L0.out; simp; omega
  have m1 : (z1.map (Value.int .u8)).length ≤ 1048576 := by have := L1.out; simp; omega
  have M0 := hide m0
  have M1 := hide m1
  clear m0 m1
  by_cases hbr : 1 ≤ a2
  · go_enter Try.func3, Try.ntmps3
    go_wp2_with (go_at_call 7; refine (zz_any _ _ _ _ _ _ _ _ (by omega) (by omega)).mono ?_; rintro e w' ⟨rfl, rfl⟩)
    refine (cloneB_any _ _ _ s0 M0.out (ints_oneCell _ _)).mono ?_
    rintro e w1 ⟨v1, rfl, o1, b1⟩
    go_wp2_with fail
    refine (cloneB_any _ _ _ (s1.below b1) M1.out (ints_oneCell _ _)).mono ?_
    rintro e w2 ⟨v2, rfl, o2, b2⟩
    go_wp2_with fail
    refine (cloneB_any v1 _ w2 ((Sl.of_owns o1).below b2) M0.out (ints_oneCell _ _)).mono ?_
    rintro e w3 ⟨v3, rfl, o3, b3⟩
    go_wp2_with fail
    refine (zzfold_esc w2.heap.size v3 v2 _ _ a2 w3 b3.size M0.out hb1 o3).mono ?_
    rintro e w4 ⟨v4, rfl, o4, b4⟩
    go_wp2_with fail
    refine (cloneB_any v1 _ w4 (((Sl.of_owns o1).below b2).below (b3.trans b4)) M0.out (ints_oneCell _ _)).mono ?_
    rintro e w5 ⟨v5, rfl, o5, b5⟩
    go_wp2_with fail
    refine (zzfold_plain w4.heap.size v5 v2 _ _ (a2 + 1) w5 b5.size M0.out (by omega) (by omega) o5).mono ?_
    rintro e w6 ⟨v6, rfl, o6, b6⟩
    go_wp2_with fail
    have e1 : z0.map (Value.int .u8) ++ List.replicate a2.toNat (Value.int .u8 10) = (z0 ++ List.replicate a2.toNat 10).map (Value.int .u8) := by simp
    have e2 : z0.map (Value.int .u8) ++ List.replicate ((a2 + 1).toNat - 1) (Value.int .u8 10) = (z0 ++ List.replicate a2.toNat 10).map (Value.int .u8) := by rw [← e1, show (a2 + 1).toNat - 1 = a2.toNat from by omega]
    have s4 : Sl w6 v4 ((z0 ++ List.replicate a2.toNat 10).map (Value.int .u8)) := by rw [← e1]; exact (Sl.of_owns o4).below (b5.trans b6)
    have s6 : Sl w6 v6 ((z0 ++ List.replicate a2.toNat 10).map (Value.int .u8)) := by rw [← e2]; exact Sl.of_owns o6
    clear e1 e2
    refine (eqB_same v4 v6 _ w6 s4 s6).mono ?_
    rintro e w7 ⟨rfl, m, hw7⟩
    subst hw7
    have q1 := b1.size
    have q2 := b2.size
    have q3 := b3.size
    have q4 := b4.size
    have fin := below_drewN ((((((b1.trans (b2.mono q1)).trans (b3.mono (by omega))).trans (b4.mono (by omega))).trans (b5.mono (by omega))).trans (b6.mono (by omega)))) m
    clear q1 q2 q3 q4
    go_wp2
    go_ret
    exact ⟨rfl, fin⟩
  · go_enter Try.func3, Try.ntmps3
    go_wp2_with (go_at_call 7; refine (zz_any _ _ _ _ _ _ _ _ (by omega) (by omega)).mono ?_; rintro e w' ⟨rfl, rfl⟩)
    refine (cloneB_any _ _ _ s0 M0.out (ints_oneCell _ _)).mono ?_
    rintro e w1 ⟨v1, rfl, o1, b1⟩
    go_wp2_with fail
    refine (cloneB_any _ _ _ (s1.below b1) M1.out (ints_oneCell _ _)).mono ?_
    rintro e w2 ⟨v2, rfl, o2, b2⟩
    go_wp2_with fail
    refine (cloneB_any v1 _ w2 ((Sl.of_owns o1).below b2) M0.out (ints_oneCell _ _)).mono ?_
    rintro e w3 ⟨v3, rfl, o3, b3⟩
    go_wp2_with fail
    refine (zzfold_esc w2.heap.size v3 v2 _ _ a2 w3 b3.size M0.out hb1 o3).mono ?_
    rintro e w4 ⟨v4, rfl, o4, b4⟩
    go_wp2_with fail
    have s1 : Sl w4 v1 (z0.map (Value.int .u8)) := ((Sl.of_owns o1).below b2).below (b3.trans b4)
    have s4 : Sl w4 v4 (z0.map (Value.int .u8)) := by
      have := Sl.of_owns o4
      rw [show a2.toNat = 0 from by omega] at this
      simpa using this
    refine (eqB_same v4 v1 _ w4 s4 s1).mono ?_
    rintro e w7 ⟨rfl, m, hw7⟩
    subst hw7
    have q1 := b1.size
    have q2 := b2.size
    have fin := below_drewN ((((b1.trans (b2.mono q1)).trans (b3.mono (by omega))).trans (b4.mono (by omega)))) m
    clear q1 q2
    go_wp2
    go_ret
    exact ⟨rfl, fin⟩

theorem walk (a0 : Option Addr) (len0 cap0 : Nat) (z0 : List Int) (a1 : Option Addr) (len1 cap1 : Nat) (z1 : List Int) (a2 : Int) (w : World) (w0 : IsRow .u8 w a0 len0 cap0 z0) (w1 : IsRow .u8 w a1 len1 cap1 z1) (w2 : (Lit.int .i64 a2).wf = true) :
    Calls Try.prog 3 #[.slice a0 len0 cap0, .slice a1 len1 cap1, .int .i64 a2] w fun e w' => e = .returned (.bool true) ∧ Below w.heap.size w w' := by
  by_cases hout : ¬ len0 + len1 ≤ 1048576 ∨ 65536 < a2 ∨ a2 < -65536
  · exact (walk_out a0 len0 cap0 a1 len1 cap1 a2 w w0.len.1 w1.len.1 hout).mono fun e w' ⟨he, hw⟩ => ⟨he, by rw [hw]; exact Below.refl _ _⟩
  · have hs : len0 + len1 ≤ 1048576 := by omega
    have hb1 : a2 ≤ 65536 := by omega
    have hb2 : -65536 ≤ a2 := by omega
    exact walk_in a0 len0 cap0 (z0.take len0) a1 len1 cap1 (z1.take len1) a2 w w0.sl w1.sl w0.len.2 w1.len.2 hs hb1 hb2

/-! ### THE ROW's STEP: WRITTEN OUT: LEAVE IT -/
set_option maxRecDepth 100000 in
theorem lifted (os : Os) (started : os.Started) (H : Type) (enc : TypeId × Value → H) :
    ReturnsInHanded {} Try.checked os 3 .any (Rows.fnFoldEscapedCountsOneBreakLessSpec.pre6 enc Try.prog Try.f3 Rows.fnFoldEscapedCountsOneBreakLessRow.domain false) (Rows.fnFoldEscapedCountsOneBreakLessSpec.post enc Try.prog Try.f3 false true false false) := by
  refine returnsInHanded_of_change (C := Try.checked) own started (by kernel_rfl) Try.func3
    (ChangeSpec.witness6 (enc := enc) (C := Try.checked) false ⟨#[], #[.slice none 0 0, .slice none 0 0, .int .i64 0], []⟩ 8 (by kernel_rfl) (by kernel_rfl) (by kernel_rfl) (by kernel_rfl)) ?_
  intro W base args ds gs before hval0 hW hcnd _
  have hval : ∀ (j : Nat) t v, Try.f3.params[j]? = some t → args[j]? = some v → Value.okWide Try.prog W .any base t v := hval0
  have hW' := hW
  obtain ⟨p, q, hA0, hV, rfl, hfz, hnd⟩ := hW
  have hA : DataW.TrodAll enc Try.prog W 0 (fun _ => true) true Try.f3.params.toList args.toList ds p := hA0
  rw [Try.params3] at hA hval
  obtain ⟨v0, vs0, d0, ds0, p0, q0, hargs, rfl, rfl, h0, r0⟩ := trodAll_cons hA
  obtain ⟨v1, vs1, d1, ds1, p1, q1, rfl, rfl, rfl, h1, r1⟩ := trodAll_cons r0
  obtain ⟨v2, vs2, d2, ds2, p2, q2, rfl, rfl, rfl, h2, r2⟩ := trodAll_cons r1
  obtain ⟨rfl, rfl, rfl⟩ := trodAll_nil r2
  obtain rfl : args = #[v0, v1, v2] := by cases args; simp_all
  obtain ⟨rfl, rfl⟩ := trodVars_none hV
  obtain ⟨a0, len0, cap0, rfl⟩ := okWide_slice Try.underlying22 (hval 0 22 v0 rfl rfl)
  have k0 := h0
  have lt0 : ∀ x ∈ p0, x.block < W.heap.size := by obtain ⟨m, hm⟩ := k0; exact DataW.trod_lt m _ _ _ hm
  obtain ⟨z0, w0⟩ : ∃ zs, IsRow .u8 W a0 len0 cap0 zs := by
    obtain ⟨fuel, hf⟩ := h0
    rcases open_ints Try.underlying22 Try.underlying5 (by kernel_rfl) hf with ⟨hcs, _⟩ | ⟨x, l, c, zs, hcs, _, hl, hm, hz, _, hcell, hwz⟩
    · simp [Value.cells] at hcs
      obtain ⟨rfl, rfl, rfl⟩ := hcs
      exact ⟨[], .inl ⟨rfl, rfl, rfl, rfl⟩⟩
    · simp [Value.cells] at hcs
      obtain ⟨rfl, rfl, rfl⟩ := hcs
      exact ⟨zs, .inr ⟨_, rfl, hl, hm, by simpa using hz, hcell, hwz⟩⟩
  obtain ⟨a1, len1, cap1, rfl⟩ := okWide_slice Try.underlying22 (hval 1 22 v1 rfl rfl)
  have k1 := h1
  have lt1 : ∀ x ∈ p1, x.block < W.heap.size := by obtain ⟨m, hm⟩ := k1; exact DataW.trod_lt m _ _ _ hm
  obtain ⟨z1, w1⟩ : ∃ zs, IsRow .u8 W a1 len1 cap1 zs := by
    obtain ⟨fuel, hf⟩ := h1
    rcases open_ints Try.underlying22 Try.underlying5 (by kernel_rfl) hf with ⟨hcs, _⟩ | ⟨x, l, c, zs, hcs, _, hl, hm, hz, _, hcell, hwz⟩
    · simp [Value.cells] at hcs
      obtain ⟨rfl, rfl, rfl⟩ := hcs
      exact ⟨[], .inl ⟨rfl, rfl, rfl, rfl⟩⟩
    · simp [Value.cells] at hcs
      obtain ⟨rfl, rfl, rfl⟩ := hcs
      exact ⟨zs, .inr ⟨_, rfl, hl, hm, by simpa using hz, hcell, hwz⟩⟩
  obtain ⟨a2, rfl, rfl, rfl, w2⟩ := open_int Try.underlying3 (hval 2 3 v2 rfl rfl) h2
  clear hA0 hval0
  refine (walk a0 len0 cap0 z0 a1 len1 cap1 z1 a2 W w0 w1 w2).mono fun e W' ⟨he, bel⟩ => ?_
  subst he
  exact ⟨_, rfl, _, _, _, [], _, [], hW', trodAll_mk1 (shut_bool Try.underlying4 _), (trodAll_cons_mk (Below.trod laidOut (by kernel_rfl) (of_decide_eq_true (by kernel_rfl)) k0 bel lt0) (trodAll_cons_mk (Below.trod laidOut (by kernel_rfl) (of_decide_eq_true (by kernel_rfl)) k1 bel lt1) (trodAll_cons_mk (shut_int Try.underlying3 w2) trodAll_mk0))), rfl, bel.frame _, fun h => by cases h⟩

theorem over : Rows.fnFoldEscapedCountsOneBreakLessRow.holds Try.pinned (OpenSpec.ofChange Rows.fnFoldEscapedCountsOneBreakLessSpec) :=
  OpenClaim.holds_of_wide 3 Try.f3 rfl rfl rfl rfl rfl rfl rfl ⟨rfl, rfl, rfl, rfl, rfl⟩ rfl rfl rfl rfl rfl (by kernel_rfl) Try.func3 (by kernel_rfl)
    (of_decide_eq_true (by kernel_rfl)) (by unfold Func.isWrapper; first | (rw [if_pos (by decide +kernel)]; kernel_rfl) | (rw [if_neg (by decide +kernel)]; exact ⟨rfl, rfl⟩))
    (fun os started H enc _ => lifted os started H enc)

/-- ████ THE STATEMENT ████ -/
theorem proved : Rows.FnFoldEscapedCountsOneBreakLessSaid := over
end Go.Proofs.Qxb6601781a.fnFoldEscapedCountsOneBreakLess
