/-
  No cell of these rows narrows 'for every input' (looked for: loops, veiled, ifaces, maps, wideKeys, modest, calm, conditions, laid).
  DERIVED. THE GIVEN ROWS OF THIS SEAT. 6 by the template 'for every input the law returns true; each argument reads behind the call as it read before'; 0 by the template 'total and deterministic' (their statements: Qxb6602111aTotals.lean).
  GIVEN WITH THE SEED: the statements are not yours to turn. If you find one false, say at which input.
  Laid BY PROGRAM, IN A SANDBOX (cutbox-rows.mjs): the forced cells as the released guide's own fill.sh prints them over the translation dfe89eedd0ec4f62… (all of the seat's roots in one cut). By AI agents, Wed Nov 11 2026. No macro, syntax, notation, axiom, sorry.
-/
import Derived.Test.Qxb6602111aChecked
import GoSem.Claim
import GoSem.ClaimJoined
import GoSem.ClaimMapViews
import Derived.JoinedTies
import Derived.KernelRfl
namespace Go.Proofs.Qxb6602111a
/- THE CELL 'sum', in the pinned program and in every row, IS THE sha256 OF THE DUMP (.gsa) THAT Qxb6602111aProg.lean LOADS. Nothing in Lean hashes anything: it is a label: what it is worth is what the hold of that sum in a sandbox is worth. -/
noncomputable def Try.pinned : Pinned := { name := "qxb6602111a", sum := "dfe89eedd0ec4f62424e84bc2e668513887cac0be46aac2ef4a9b0eebdb511cf", checked := Try.checked }
namespace Rows
def none {H : Type} : Left H := { results := [], args := [] }

/-- 'zzlaws_internal_idna_b1.FnEncodeMatchesModel': WHATEVER THE INPUT: true; the input reads as it did. -/
def fnEncodeMatchesModelSpec : ChangeSpec := { name := "fnEncodeMatchesModel", fn := fun _ => fun
  | [d1, d2] => { results := [.lit (.bool true)], args := [d1, d2] }
  | _ => none }
def fnEncodeMatchesModelRow : OpenClaim := { program := "qxb6602111a", sum := "dfe89eedd0ec4f62424e84bc2e668513887cac0be46aac2ef4a9b0eebdb511cf", func := "example.com/assay/assay/zzlaws_internal_idna_b1.FnEncodeMatchesModel", spec := "fnEncodeMatchesModel", unfollowed := true, recurses := true, apart := false }
def FnEncodeMatchesModelSaid : Prop := fnEncodeMatchesModelRow.holds Try.pinned (OpenSpec.ofChange fnEncodeMatchesModelSpec)

/-- ITS FALSE NEIGHBOUR: 'it returns false'. Refute it at one input. -/
def fnEncodeMatchesModelWrong : ChangeSpec := { name := "fnEncodeMatchesModel", fn := fun _ => fun
  | [d1, d2] => { results := [.lit (.bool false)], args := [d1, d2] }
  | _ => none }
def FnEncodeMatchesModelWrongFalsely : Prop := fnEncodeMatchesModelRow.holds Try.pinned (OpenSpec.ofChange fnEncodeMatchesModelWrong)

/-- 'zzlaws_internal_idna_b1.FnEncodeThenDecodeGivesLabelBack': WHATEVER THE INPUT: true; the input reads as it did. -/
def fnEncodeThenDecodeGivesLabelBackSpec : ChangeSpec := { name := "fnEncodeThenDecodeGivesLabelBack", fn := fun _ => fun
  | [d] => { results := [.lit (.bool true)], args := [d] }
  | _ => none }
def fnEncodeThenDecodeGivesLabelBackRow : OpenClaim := { program := "qxb6602111a", sum := "dfe89eedd0ec4f62424e84bc2e668513887cac0be46aac2ef4a9b0eebdb511cf", func := "example.com/assay/assay/zzlaws_internal_idna_b1.FnEncodeThenDecodeGivesLabelBack", spec := "fnEncodeThenDecodeGivesLabelBack", unfollowed := true, recurses := true, apart := false }
def FnEncodeThenDecodeGivesLabelBackSaid : Prop := fnEncodeThenDecodeGivesLabelBackRow.holds Try.pinned (OpenSpec.ofChange fnEncodeThenDecodeGivesLabelBackSpec)

/-- ITS FALSE NEIGHBOUR: 'it returns false'. Refute it at one input. -/
def fnEncodeThenDecodeGivesLabelBackWrong : ChangeSpec := { name := "fnEncodeThenDecodeGivesLabelBack", fn := fun _ => fun
  | [d] => { results := [.lit (.bool false)], args := [d] }
  | _ => none }
def FnEncodeThenDecodeGivesLabelBackWrongFalsely : Prop := fnEncodeThenDecodeGivesLabelBackRow.holds Try.pinned (OpenSpec.ofChange fnEncodeThenDecodeGivesLabelBackWrong)

/-- 'zzlaws_internal_idna_b1.FnAdaptMatchesClosedForm': WHATEVER THE INPUT: true; the input reads as it did. -/
def fnAdaptMatchesClosedFormSpec : ChangeSpec := { name := "fnAdaptMatchesClosedForm", fn := fun _ => fun
  | [d1, d2, d3] => { results := [.lit (.bool true)], args := [d1, d2, d3] }
  | _ => none }
def fnAdaptMatchesClosedFormRow : OpenClaim := { program := "qxb6602111a", sum := "dfe89eedd0ec4f62424e84bc2e668513887cac0be46aac2ef4a9b0eebdb511cf", func := "example.com/assay/assay/zzlaws_internal_idna_b1.FnAdaptMatchesClosedForm", spec := "fnAdaptMatchesClosedForm", apart := false }
def FnAdaptMatchesClosedFormSaid : Prop := fnAdaptMatchesClosedFormRow.holds Try.pinned (OpenSpec.ofChange fnAdaptMatchesClosedFormSpec)

/-- ITS FALSE NEIGHBOUR: 'it returns false'. Refute it at one input. -/
def fnAdaptMatchesClosedFormWrong : ChangeSpec := { name := "fnAdaptMatchesClosedForm", fn := fun _ => fun
  | [d1, d2, d3] => { results := [.lit (.bool false)], args := [d1, d2, d3] }
  | _ => none }
def FnAdaptMatchesClosedFormWrongFalsely : Prop := fnAdaptMatchesClosedFormRow.holds Try.pinned (OpenSpec.ofChange fnAdaptMatchesClosedFormWrong)

/-- 'zzlaws_internal_idna_b1.FnAdaptMonotone': WHATEVER THE INPUT: true; the input reads as it did. -/
def fnAdaptMonotoneSpec : ChangeSpec := { name := "fnAdaptMonotone", fn := fun _ => fun
  | [d1, d2, d3, d4, d5, d6] => { results := [.lit (.bool true)], args := [d1, d2, d3, d4, d5, d6] }
  | _ => none }
def fnAdaptMonotoneRow : OpenClaim := { program := "qxb6602111a", sum := "dfe89eedd0ec4f62424e84bc2e668513887cac0be46aac2ef4a9b0eebdb511cf", func := "example.com/assay/assay/zzlaws_internal_idna_b1.FnAdaptMonotone", spec := "fnAdaptMonotone", apart := false }
def FnAdaptMonotoneSaid : Prop := fnAdaptMonotoneRow.holds Try.pinned (OpenSpec.ofChange fnAdaptMonotoneSpec)

/-- ITS FALSE NEIGHBOUR: 'it returns false'. Refute it at one input. -/
def fnAdaptMonotoneWrong : ChangeSpec := { name := "fnAdaptMonotone", fn := fun _ => fun
  | [d1, d2, d3, d4, d5, d6] => { results := [.lit (.bool false)], args := [d1, d2, d3, d4, d5, d6] }
  | _ => none }
def FnAdaptMonotoneWrongFalsely : Prop := fnAdaptMonotoneRow.holds Try.pinned (OpenSpec.ofChange fnAdaptMonotoneWrong)

/-- 'zzlaws_internal_idna_b1.FnJoinerAllowedMatchesRFC5892': WHATEVER THE INPUT: true; the input reads as it did. -/
def fnJoinerAllowedMatchesRFC5892Spec : ChangeSpec := { name := "fnJoinerAllowedMatchesRFC5892", fn := fun _ => fun
  | [d1, d2, d3] => { results := [.lit (.bool true)], args := [d1, d2, d3] }
  | _ => none }
def fnJoinerAllowedMatchesRFC5892Row : OpenClaim := { program := "qxb6602111a", sum := "dfe89eedd0ec4f62424e84bc2e668513887cac0be46aac2ef4a9b0eebdb511cf", func := "example.com/assay/assay/zzlaws_internal_idna_b1.FnJoinerAllowedMatchesRFC5892", spec := "fnJoinerAllowedMatchesRFC5892", apart := false }
def FnJoinerAllowedMatchesRFC5892Said : Prop := fnJoinerAllowedMatchesRFC5892Row.holds Try.pinned (OpenSpec.ofChange fnJoinerAllowedMatchesRFC5892Spec)

/-- ITS FALSE NEIGHBOUR: 'it returns false'. Refute it at one input. -/
def fnJoinerAllowedMatchesRFC5892Wrong : ChangeSpec := { name := "fnJoinerAllowedMatchesRFC5892", fn := fun _ => fun
  | [d1, d2, d3] => { results := [.lit (.bool false)], args := [d1, d2, d3] }
  | _ => none }
def FnJoinerAllowedMatchesRFC5892WrongFalsely : Prop := fnJoinerAllowedMatchesRFC5892Row.holds Try.pinned (OpenSpec.ofChange fnJoinerAllowedMatchesRFC5892Wrong)

/-- 'zzlaws_internal_idna_b1.FnJoinerAllowedMirror': WHATEVER THE INPUT: true; the input reads as it did. -/
def fnJoinerAllowedMirrorSpec : ChangeSpec := { name := "fnJoinerAllowedMirror", fn := fun _ => fun
  | [d1, d2, d3] => { results := [.lit (.bool true)], args := [d1, d2, d3] }
  | _ => none }
def fnJoinerAllowedMirrorRow : OpenClaim := { program := "qxb6602111a", sum := "dfe89eedd0ec4f62424e84bc2e668513887cac0be46aac2ef4a9b0eebdb511cf", func := "example.com/assay/assay/zzlaws_internal_idna_b1.FnJoinerAllowedMirror", spec := "fnJoinerAllowedMirror", apart := false }
def FnJoinerAllowedMirrorSaid : Prop := fnJoinerAllowedMirrorRow.holds Try.pinned (OpenSpec.ofChange fnJoinerAllowedMirrorSpec)

/-- ITS FALSE NEIGHBOUR: 'it returns false'. Refute it at one input. -/
def fnJoinerAllowedMirrorWrong : ChangeSpec := { name := "fnJoinerAllowedMirror", fn := fun _ => fun
  | [d1, d2, d3] => { results := [.lit (.bool false)], args := [d1, d2, d3] }
  | _ => none }
def FnJoinerAllowedMirrorWrongFalsely : Prop := fnJoinerAllowedMirrorRow.holds Try.pinned (OpenSpec.ofChange fnJoinerAllowedMirrorWrong)

end Rows
end Go.Proofs.Qxb6602111a
