/-
  PROOF OF 'Rows.FnPlaceScriptMatchesTheGeometrySaid'. The frame (IsRow, lifted, over, proved) is the shell tool's.
-/
import Derived.Test.Qxb6601341aRows
import Derived.WalkKit
import Derived.ProofKit
import Derived.OpenShut
import Derived.ShutString
import Derived.ChangeOld
import Derived.Below
import Derived.Test.Qxb6601341aLaw
namespace Go.Proofs.Qxb6601341a.fnPlaceScriptMatchesTheGeometry
open Go.ChangeShapes Go.WideShapes Go.ChangeAt Go.RowKit
open Go.ChangeMaps (open_string shut_string)
set_option linter.unusedVariables false

theorem own : ownKnob Try.prog.godebug = none := by kernel_rfl
theorem laidOut : laidOutB Try.prog = true := by kernel_rfl

/-- WHAT THE WALK IS TOLD OF A SLICE OF INTEGERS THAT CAME IN: it is nil; or it leads to a row of 'cap' cells, the numbers 'zs' (the first 'len' are its elements, the rest its spare room), each fitting its kind. -/
def IsRow (k : IntKind) (w : World) (a : Option Addr) (len cap : Nat) (zs : List Int) : Prop :=
  (a = none ∧ len = 0 ∧ cap = 0 ∧ zs = []) ∨
  ∃ x, a = some x ∧ len ≤ cap ∧ cap ≤ maxLen ∧ zs.length = cap ∧ (∀ i, i < zs.length → w.cell? (x.add i) = some (.int k (zs.getD i 0))) ∧ ∀ n ∈ zs, (Lit.int k n).wf = true

open Kit

theorem IsRow.sl {k : IntKind} {w : World} {a : Option Addr} {len cap : Nat} {zs : List Int} (h : IsRow k w a len cap zs) : Sl w (.slice a len cap) ((zs.take len).map (Value.int k)) := by
  rcases h with ⟨rfl, rfl, rfl, rfl⟩ | ⟨x, rfl, hl, hm, hz, hc, _⟩
  · exact Sl.nil w
  · have e : ((zs.take len).map (Value.int k)).length = len := by simp; omega
    refine ⟨some x, cap, by rw [e], by omega, hm, (fun h => by cases h), fun y hy i u hu => ?_⟩
    cases hy
    have hi : i < len := by have := (List.getElem?_eq_some_iff.1 hu).1; omega
    rw [hc i (by omega)]
    rw [← hu]
    simp [List.getD, hi, show i < zs.length by omega]

theorem IsRow.len {k : IntKind} {w : World} {a : Option Addr} {len cap : Nat} {zs : List Int} (h : IsRow k w a len cap zs) : len ≤ 9223372036854775807 ∧ (zs.take len).length = len := by
  rcases h with ⟨rfl, rfl, rfl, rfl⟩ | ⟨x, rfl, hl, hm, hz, hc, _⟩
  · simp
  · unfold maxLen at hm; simp; omega

set_option maxHeartbeats 4000000 in
set_option maxRecDepth 100000 in
/-- The program's own early ways out. -/
theorem walk_out (n : Int) (a : Option Addr) (len cap : Nat) (w : World) (hl : len ≤ 9223372036854775807) (hout : 65536 < len ∨ n < 0 ∨ 32 < n) :
    Calls Try.prog 3 #[.int .i64 n, .slice a len cap] w fun e w' => e = .returned (.bool true) ∧ w = w' := by
  have HZ4 := hide (zz4 n a len cap w hl)
  by_cases hz : len ≤ 1048576
  · have hd : decide (len ≤ 1048576) = true := by simp; omega
    rw [hd] at HZ4
    clear hd
    by_cases h2 : 65536 < len
    · clear hout
      go_enter Try.func3, Try.ntmps3
      go_wp2_with (go_at_call 4; refine HZ4.out.mono ?_; rintro e w' ⟨rfl, rfl⟩)
      go_ret
      exact ⟨rfl, rfl⟩
    · by_cases h0 : n < 0
      · clear hout
        go_enter Try.func3, Try.ntmps3
        go_wp2_with (go_at_call 4; refine HZ4.out.mono ?_; rintro e w' ⟨rfl, rfl⟩)
        go_ret
        exact ⟨rfl, rfl⟩
      · have h1 : 32 < n := by omega
        clear hout
        go_enter Try.func3, Try.ntmps3
        go_wp2_with (go_at_call 4; refine HZ4.out.mono ?_; rintro e w' ⟨rfl, rfl⟩)
        go_ret
        exact ⟨rfl, rfl⟩
  · have hd : decide (len ≤ 1048576) = false := by simp; omega
    rw [hd] at HZ4
    clear hd hout
    go_enter Try.func3, Try.ntmps3
    go_wp2_with (go_at_call 4; refine HZ4.out.mono ?_; rintro e w' ⟨rfl, rfl⟩)
    go_ret
    exact ⟨rfl, rfl⟩

theorem walk (a0 : Int) (a1 : Option Addr) (len1 cap1 : Nat) (z1 : List Int) (w : World) (w0 : (Lit.int .i64 a0).wf = true) (w1 : IsRow .i64 w a1 len1 cap1 z1) :
    Calls Try.prog 3 #[.int .i64 a0, .slice a1 len1 cap1] w fun e w' => e = .returned (.bool true) ∧ Below w.heap.size w w' := by
  by_cases hout : 65536 < len1 ∨ a0 < 0 ∨ 32 < a0
  · exact (walk_out a0 a1 len1 cap1 w w1.len.1 hout).mono fun e w' ⟨he, hw⟩ => ⟨he, by rw [← hw]; exact Below.refl _ _⟩
  · have e : a0 = (a0.toNat : Int) := by omega
    rw [e]
    exact law a0.toNat _ (z1.take len1) w (by omega) (by rw [w1.len.2]; omega) w1.sl

/-! ### THE ROW's STEP: WRITTEN OUT: LEAVE IT -/
set_option maxRecDepth 100000 in
theorem lifted (os : Os) (started : os.Started) (H : Type) (enc : TypeId × Value → H) :
    ReturnsInHanded {} Try.checked os 3 .any (Rows.fnPlaceScriptMatchesTheGeometrySpec.pre6 enc Try.prog Try.f3 Rows.fnPlaceScriptMatchesTheGeometryRow.domain false) (Rows.fnPlaceScriptMatchesTheGeometrySpec.post enc Try.prog Try.f3 false true false false) := by
  refine returnsInHanded_of_change (C := Try.checked) own started (by kernel_rfl) Try.func3
    (ChangeSpec.witness6 (enc := enc) (C := Try.checked) false ⟨#[], #[.int .i64 0, .slice none 0 0], []⟩ 8 (by kernel_rfl) (by kernel_rfl) (by kernel_rfl) (by kernel_rfl)) ?_
  intro W base args ds gs before hval0 hW hcnd _
  have hval : ∀ (j : Nat) t v, Try.f3.params[j]? = some t → args[j]? = some v → Value.okWide Try.prog W .any base t v := hval0
  have hW' := hW
  obtain ⟨p, q, hA0, hV, rfl, hfz, hnd⟩ := hW
  have hA : DataW.TrodAll enc Try.prog W 0 (fun _ => true) true Try.f3.params.toList args.toList ds p := hA0
  rw [Try.params3] at hA hval
  obtain ⟨v0, vs0, d0, ds0, p0, q0, hargs, rfl, rfl, h0, r0⟩ := trodAll_cons hA
  obtain ⟨v1, vs1, d1, ds1, p1, q1, rfl, rfl, rfl, h1, r1⟩ := trodAll_cons r0
  obtain ⟨rfl, rfl, rfl⟩ := trodAll_nil r1
  obtain rfl : args = #[v0, v1] := by cases args; simp_all
  obtain ⟨rfl, rfl⟩ := trodVars_none hV
  obtain ⟨a0, rfl, rfl, rfl, w0⟩ := open_int Try.underlying3 (hval 0 3 v0 rfl rfl) h0
  obtain ⟨a1, len1, cap1, rfl⟩ := okWide_slice Try.underlying22 (hval 1 22 v1 rfl rfl)
  have k1 := h1
  have lt1 : ∀ x ∈ p1, x.block < W.heap.size := by obtain ⟨m, hm⟩ := k1; exact DataW.trod_lt m _ _ _ hm
  obtain ⟨z1, w1⟩ : ∃ zs, IsRow .i64 W a1 len1 cap1 zs := by
    obtain ⟨fuel, hf⟩ := h1
    rcases open_ints Try.underlying22 Try.underlying3 (by kernel_rfl) hf with ⟨hcs, _⟩ | ⟨x, l, c, zs, hcs, _, hl, hm, hz, _, hcell, hwz⟩
    · simp [Value.cells] at hcs
      obtain ⟨rfl, rfl, rfl⟩ := hcs
      exact ⟨[], .inl ⟨rfl, rfl, rfl, rfl⟩⟩
    · simp [Value.cells] at hcs
      obtain ⟨rfl, rfl, rfl⟩ := hcs
      exact ⟨zs, .inr ⟨_, rfl, hl, hm, by simpa using hz, hcell, hwz⟩⟩
  clear hA0 hval0
  refine (walk a0 a1 len1 cap1 z1 W w0 w1).mono fun e W' ⟨he, bel⟩ => ?_
  subst he
  exact ⟨_, rfl, _, _, _, [], _, [], hW', trodAll_mk1 (shut_bool Try.underlying4 _), (trodAll_cons_mk (shut_int Try.underlying3 w0) (trodAll_cons_mk (Below.trod laidOut (by kernel_rfl) (of_decide_eq_true (by kernel_rfl)) k1 bel lt1) trodAll_mk0)), rfl, bel.frame _, fun h => by cases h⟩

theorem over : Rows.fnPlaceScriptMatchesTheGeometryRow.holds Try.pinned (OpenSpec.ofChange Rows.fnPlaceScriptMatchesTheGeometrySpec) :=
  OpenClaim.holds_of_wide 3 Try.f3 rfl rfl rfl rfl rfl rfl rfl ⟨rfl, rfl, rfl, rfl, rfl⟩ rfl rfl rfl rfl rfl (by kernel_rfl) Try.func3 (by kernel_rfl)
    (of_decide_eq_true (by kernel_rfl)) (by unfold Func.isWrapper; first | (rw [if_pos (by decide +kernel)]; kernel_rfl) | (rw [if_neg (by decide +kernel)]; exact ⟨rfl, rfl⟩))
    (fun os started H enc _ => lifted os started H enc)

/-- ████ THE STATEMENT ████ -/
theorem proved : Rows.FnPlaceScriptMatchesTheGeometrySaid := over
end Go.Proofs.Qxb6601341a.fnPlaceScriptMatchesTheGeometry
