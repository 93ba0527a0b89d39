/-
  No cell of these rows narrows 'for every input' (looked for: loops, veiled, ifaces, maps, wideKeys, modest, calm, conditions, laid).
  DERIVED. THE GIVEN ROWS OF THIS SEAT. 4 by the template 'for every input the law returns true; each argument reads behind the call as it read before'; 0 by the template 'total and deterministic' (their statements: Qxb6003664aTotals.lean).
  GIVEN WITH THE SEED: the statements are not yours to turn. If you find one false, say at which input.
  Laid BY PROGRAM, IN A SANDBOX (cutbox-rows.mjs): the forced cells as the released guide's own fill.sh prints them over the translation 75cb5e176c441bf1… (all of the seat's roots in one cut). By AI agents, Wed Nov 11 2026. No macro, syntax, notation, axiom, sorry.
-/
import Derived.Test.Qxb6003664aChecked
import GoSem.Claim
import GoSem.ClaimJoined
import GoSem.ClaimMapViews
import Derived.JoinedTies
import Derived.KernelRfl
namespace Go.Proofs.Qxb6003664a
/- THE CELL 'sum', in the pinned program and in every row, IS THE sha256 OF THE DUMP (.gsa) THAT Qxb6003664aProg.lean LOADS. Nothing in Lean hashes anything: it is a label: what it is worth is what the hold of that sum in a sandbox is worth. -/
noncomputable def Try.pinned : Pinned := { name := "qxb6003664a", sum := "75cb5e176c441bf1c00d7c710f8f73334fc71bee7721e05f5219062d823eb936", checked := Try.checked }
namespace Rows
def none {H : Type} : Left H := { results := [], args := [] }

/-- 'zzlaws_tree_g1.FnLocatorPosAgreesWithRescan': WHATEVER THE INPUT: true; the input reads as it did. -/
def fnLocatorPosAgreesWithRescanSpec : ChangeSpec := { name := "fnLocatorPosAgreesWithRescan", fn := fun _ => fun
  | [d1, d2] => { results := [.lit (.bool true)], args := [d1, d2] }
  | _ => none }
def fnLocatorPosAgreesWithRescanRow : OpenClaim := { program := "qxb6003664a", sum := "75cb5e176c441bf1c00d7c710f8f73334fc71bee7721e05f5219062d823eb936", func := "example.com/lineform/lineform/zzlaws_tree_g1.FnLocatorPosAgreesWithRescan", spec := "fnLocatorPosAgreesWithRescan", apart := false }
def FnLocatorPosAgreesWithRescanSaid : Prop := fnLocatorPosAgreesWithRescanRow.holds Try.pinned (OpenSpec.ofChange fnLocatorPosAgreesWithRescanSpec)

/-- ITS FALSE NEIGHBOUR: 'it returns false'. Refute it at one input. -/
def fnLocatorPosAgreesWithRescanWrong : ChangeSpec := { name := "fnLocatorPosAgreesWithRescan", fn := fun _ => fun
  | [d1, d2] => { results := [.lit (.bool false)], args := [d1, d2] }
  | _ => none }
def FnLocatorPosAgreesWithRescanWrongFalsely : Prop := fnLocatorPosAgreesWithRescanRow.holds Try.pinned (OpenSpec.ofChange fnLocatorPosAgreesWithRescanWrong)

/-- 'zzlaws_tree_g1.FnLocatorPosMonotone': WHATEVER THE INPUT: true; the input reads as it did. -/
def fnLocatorPosMonotoneSpec : ChangeSpec := { name := "fnLocatorPosMonotone", fn := fun _ => fun
  | [d1, d2, d3] => { results := [.lit (.bool true)], args := [d1, d2, d3] }
  | _ => none }
def fnLocatorPosMonotoneRow : OpenClaim := { program := "qxb6003664a", sum := "75cb5e176c441bf1c00d7c710f8f73334fc71bee7721e05f5219062d823eb936", func := "example.com/lineform/lineform/zzlaws_tree_g1.FnLocatorPosMonotone", spec := "fnLocatorPosMonotone", apart := false }
def FnLocatorPosMonotoneSaid : Prop := fnLocatorPosMonotoneRow.holds Try.pinned (OpenSpec.ofChange fnLocatorPosMonotoneSpec)

/-- ITS FALSE NEIGHBOUR: 'it returns false'. Refute it at one input. -/
def fnLocatorPosMonotoneWrong : ChangeSpec := { name := "fnLocatorPosMonotone", fn := fun _ => fun
  | [d1, d2, d3] => { results := [.lit (.bool false)], args := [d1, d2, d3] }
  | _ => none }
def FnLocatorPosMonotoneWrongFalsely : Prop := fnLocatorPosMonotoneRow.holds Try.pinned (OpenSpec.ofChange fnLocatorPosMonotoneWrong)

/-- 'zzlaws_tree_g1.FnHexValueInvertsDigits': WHATEVER THE INPUT: true; the input reads as it did. -/
def fnHexValueInvertsDigitsSpec : ChangeSpec := { name := "fnHexValueInvertsDigits", fn := fun _ => fun
  | [d] => { results := [.lit (.bool true)], args := [d] }
  | _ => none }
def fnHexValueInvertsDigitsRow : OpenClaim := { program := "qxb6003664a", sum := "75cb5e176c441bf1c00d7c710f8f73334fc71bee7721e05f5219062d823eb936", func := "example.com/lineform/lineform/zzlaws_tree_g1.FnHexValueInvertsDigits", spec := "fnHexValueInvertsDigits", apart := false }
def FnHexValueInvertsDigitsSaid : Prop := fnHexValueInvertsDigitsRow.holds Try.pinned (OpenSpec.ofChange fnHexValueInvertsDigitsSpec)

/-- ITS FALSE NEIGHBOUR: 'it returns false'. Refute it at one input. -/
def fnHexValueInvertsDigitsWrong : ChangeSpec := { name := "fnHexValueInvertsDigits", fn := fun _ => fun
  | [d] => { results := [.lit (.bool false)], args := [d] }
  | _ => none }
def FnHexValueInvertsDigitsWrongFalsely : Prop := fnHexValueInvertsDigitsRow.holds Try.pinned (OpenSpec.ofChange fnHexValueInvertsDigitsWrong)

/-- 'zzlaws_uxf_g1.FnDateShapeAcceptsOnlyWholeFieldPrefixes': WHATEVER THE INPUT: true; the input reads as it did. -/
def fnDateShapeAcceptsOnlyWholeFieldPrefixesSpec : ChangeSpec := { name := "fnDateShapeAcceptsOnlyWholeFieldPrefixes", fn := fun _ => fun
  | [d] => { results := [.lit (.bool true)], args := [d] }
  | _ => none }
def fnDateShapeAcceptsOnlyWholeFieldPrefixesRow : OpenClaim := { program := "qxb6003664a", sum := "75cb5e176c441bf1c00d7c710f8f73334fc71bee7721e05f5219062d823eb936", func := "example.com/lineform/lineform/zzlaws_uxf_g1.FnDateShapeAcceptsOnlyWholeFieldPrefixes", spec := "fnDateShapeAcceptsOnlyWholeFieldPrefixes", apart := false }
def FnDateShapeAcceptsOnlyWholeFieldPrefixesSaid : Prop := fnDateShapeAcceptsOnlyWholeFieldPrefixesRow.holds Try.pinned (OpenSpec.ofChange fnDateShapeAcceptsOnlyWholeFieldPrefixesSpec)

/-- ITS FALSE NEIGHBOUR: 'it returns false'. Refute it at one input. -/
def fnDateShapeAcceptsOnlyWholeFieldPrefixesWrong : ChangeSpec := { name := "fnDateShapeAcceptsOnlyWholeFieldPrefixes", fn := fun _ => fun
  | [d] => { results := [.lit (.bool false)], args := [d] }
  | _ => none }
def FnDateShapeAcceptsOnlyWholeFieldPrefixesWrongFalsely : Prop := fnDateShapeAcceptsOnlyWholeFieldPrefixesRow.holds Try.pinned (OpenSpec.ofChange fnDateShapeAcceptsOnlyWholeFieldPrefixesWrong)

end Rows
end Go.Proofs.Qxb6003664a
