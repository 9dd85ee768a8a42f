/-
  No cell of these rows narrows 'for every input' (looked for: loops, veiled, ifaces, maps, wideKeys, modest, calm, conditions, laid).
  DERIVED. THE GIVEN ROWS OF THIS SEAT. 1 by the template 'for every input the law returns true; each argument reads behind the call as it read before'; 0 by the template 'total and deterministic' (their statements: Qxb6601341aTotals.lean).
  GIVEN WITH THE SEED: the statements are not yours to turn. If you find one false, say at which input.
  Laid BY PROGRAM, IN A SANDBOX (cutbox-rows.mjs): the forced cells as the released guide's own fill.sh prints them over the translation 87c38550cebd1b20… (all of the seat's roots in one cut). By AI agents, Wed Nov 11 2026. No macro, syntax, notation, axiom, sorry.
-/
import Derived.Test.Qxb6601341aChecked
import GoSem.Claim
import GoSem.ClaimJoined
import GoSem.ClaimMapViews
import Derived.JoinedTies
import Derived.KernelRfl
namespace Go.Proofs.Qxb6601341a
/- THE CELL 'sum', in the pinned program and in every row, IS THE sha256 OF THE DUMP (.gsa) THAT Qxb6601341aProg.lean LOADS. Nothing in Lean hashes anything: it is a label: what it is worth is what the hold of that sum in a sandbox is worth. -/
noncomputable def Try.pinned : Pinned := { name := "qxb6601341a", sum := "87c38550cebd1b20cd83710e70dd34642448cf395c446dad5141875870204766", checked := Try.checked }
namespace Rows
def none {H : Type} : Left H := { results := [], args := [] }

/-- 'zzlaws_internal_queens_b1.FnPlaceScriptMatchesTheGeometry': WHATEVER THE INPUT: true; the input reads as it did. -/
def fnPlaceScriptMatchesTheGeometrySpec : ChangeSpec := { name := "fnPlaceScriptMatchesTheGeometry", fn := fun _ => fun
  | [d1, d2] => { results := [.lit (.bool true)], args := [d1, d2] }
  | _ => none }
def fnPlaceScriptMatchesTheGeometryRow : OpenClaim := { program := "qxb6601341a", sum := "87c38550cebd1b20cd83710e70dd34642448cf395c446dad5141875870204766", func := "example.com/robar/robar/zzlaws_internal_queens_b1.FnPlaceScriptMatchesTheGeometry", spec := "fnPlaceScriptMatchesTheGeometry", apart := false }
def FnPlaceScriptMatchesTheGeometrySaid : Prop := fnPlaceScriptMatchesTheGeometryRow.holds Try.pinned (OpenSpec.ofChange fnPlaceScriptMatchesTheGeometrySpec)

/-- ITS FALSE NEIGHBOUR: 'it returns false'. Refute it at one input. -/
def fnPlaceScriptMatchesTheGeometryWrong : ChangeSpec := { name := "fnPlaceScriptMatchesTheGeometry", fn := fun _ => fun
  | [d1, d2] => { results := [.lit (.bool false)], args := [d1, d2] }
  | _ => none }
def FnPlaceScriptMatchesTheGeometryWrongFalsely : Prop := fnPlaceScriptMatchesTheGeometryRow.holds Try.pinned (OpenSpec.ofChange fnPlaceScriptMatchesTheGeometryWrong)

end Rows
end Go.Proofs.Qxb6601341a
