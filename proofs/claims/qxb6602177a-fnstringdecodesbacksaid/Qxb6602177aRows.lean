/-
  No cell of these rows narrows 'for every input' (looked for: loops, veiled, ifaces, maps, wideKeys, modest, calm, conditions, laid).
  DERIVED. THE GIVEN ROWS OF THIS SEAT. 3 by the template 'for every input the law returns true; each argument reads behind the call as it read before'; 0 by the template 'total and deterministic' (their statements: Qxb6602177aTotals.lean).
  GIVEN WITH THE SEED: the statements are not yours to turn. If you find one false, say at which input.
  Laid BY PROGRAM, IN A SANDBOX (cutbox-rows.mjs): the forced cells as the released guide's own fill.sh prints them over the translation 0e78c3becf3c386c… (all of the seat's roots in one cut). By AI agents, Wed Nov 11 2026. No macro, syntax, notation, axiom, sorry.
-/
import Derived.Test.Qxb6602177aChecked
import GoSem.Claim
import GoSem.ClaimJoined
import GoSem.ClaimMapViews
import Derived.JoinedTies
import Derived.KernelRfl
namespace Go.Proofs.Qxb6602177a
/- THE CELL 'sum', in the pinned program and in every row, IS THE sha256 OF THE DUMP (.gsa) THAT Qxb6602177aProg.lean LOADS. Nothing in Lean hashes anything: it is a label: what it is worth is what the hold of that sum in a sandbox is worth. -/
noncomputable def Try.pinned : Pinned := { name := "qxb6602177a", sum := "0e78c3becf3c386cfebc09a4b0515c633de6d7b716fc54e621d5b5c0ea9ca5f1", checked := Try.checked }
namespace Rows
def none {H : Type} : Left H := { results := [], args := [] }

/-- 'zzlaws_internal_seed_b1.FnStringIsBitStreamProquint': WHATEVER THE INPUT: true; the input reads as it did. -/
def fnStringIsBitStreamProquintSpec : ChangeSpec := { name := "fnStringIsBitStreamProquint", fn := fun _ => fun
  | [d] => { results := [.lit (.bool true)], args := [d] }
  | _ => none }
def fnStringIsBitStreamProquintRow : OpenClaim := { program := "qxb6602177a", sum := "0e78c3becf3c386cfebc09a4b0515c633de6d7b716fc54e621d5b5c0ea9ca5f1", func := "example.com/weft/weft/zzlaws_internal_seed_b1.FnStringIsBitStreamProquint", spec := "fnStringIsBitStreamProquint", inPlace := ["internal/abi.NoEscape", "internal/bytealg.MakeNoZero"], apart := false }
def FnStringIsBitStreamProquintSaid : Prop := fnStringIsBitStreamProquintRow.holds Try.pinned (OpenSpec.ofChange fnStringIsBitStreamProquintSpec)

/-- ITS FALSE NEIGHBOUR: 'it returns false'. Refute it at one input. -/
def fnStringIsBitStreamProquintWrong : ChangeSpec := { name := "fnStringIsBitStreamProquint", fn := fun _ => fun
  | [d] => { results := [.lit (.bool false)], args := [d] }
  | _ => none }
def FnStringIsBitStreamProquintWrongFalsely : Prop := fnStringIsBitStreamProquintRow.holds Try.pinned (OpenSpec.ofChange fnStringIsBitStreamProquintWrong)

/-- 'zzlaws_internal_seed_b1.FnStringDecodesBack': WHATEVER THE INPUT: true; the input reads as it did. -/
def fnStringDecodesBackSpec : ChangeSpec := { name := "fnStringDecodesBack", fn := fun _ => fun
  | [d] => { results := [.lit (.bool true)], args := [d] }
  | _ => none }
def fnStringDecodesBackRow : OpenClaim := { program := "qxb6602177a", sum := "0e78c3becf3c386cfebc09a4b0515c633de6d7b716fc54e621d5b5c0ea9ca5f1", func := "example.com/weft/weft/zzlaws_internal_seed_b1.FnStringDecodesBack", spec := "fnStringDecodesBack", inPlace := ["internal/abi.NoEscape", "internal/bytealg.MakeNoZero"], apart := false }
def FnStringDecodesBackSaid : Prop := fnStringDecodesBackRow.holds Try.pinned (OpenSpec.ofChange fnStringDecodesBackSpec)

/-- ITS FALSE NEIGHBOUR: 'it returns false'. Refute it at one input. -/
def fnStringDecodesBackWrong : ChangeSpec := { name := "fnStringDecodesBack", fn := fun _ => fun
  | [d] => { results := [.lit (.bool false)], args := [d] }
  | _ => none }
def FnStringDecodesBackWrongFalsely : Prop := fnStringDecodesBackRow.holds Try.pinned (OpenSpec.ofChange fnStringDecodesBackWrong)

/-- 'zzlaws_internal_seed_b1.FnStringKeepsOrder': WHATEVER THE INPUT: true; the input reads as it did. -/
def fnStringKeepsOrderSpec : ChangeSpec := { name := "fnStringKeepsOrder", fn := fun _ => fun
  | [d1, d2] => { results := [.lit (.bool true)], args := [d1, d2] }
  | _ => none }
def fnStringKeepsOrderRow : OpenClaim := { program := "qxb6602177a", sum := "0e78c3becf3c386cfebc09a4b0515c633de6d7b716fc54e621d5b5c0ea9ca5f1", func := "example.com/weft/weft/zzlaws_internal_seed_b1.FnStringKeepsOrder", spec := "fnStringKeepsOrder", inPlace := ["internal/abi.NoEscape", "internal/bytealg.MakeNoZero"], apart := false }
def FnStringKeepsOrderSaid : Prop := fnStringKeepsOrderRow.holds Try.pinned (OpenSpec.ofChange fnStringKeepsOrderSpec)

/-- ITS FALSE NEIGHBOUR: 'it returns false'. Refute it at one input. -/
def fnStringKeepsOrderWrong : ChangeSpec := { name := "fnStringKeepsOrder", fn := fun _ => fun
  | [d1, d2] => { results := [.lit (.bool false)], args := [d1, d2] }
  | _ => none }
def FnStringKeepsOrderWrongFalsely : Prop := fnStringKeepsOrderRow.holds Try.pinned (OpenSpec.ofChange fnStringKeepsOrderWrong)

end Rows
end Go.Proofs.Qxb6602177a
