/-
  No cell of these rows narrows 'for every input' (looked for: loops, veiled, ifaces, maps, wideKeys, modest, calm, conditions, laid).
  DERIVED. THE GIVEN ROWS OF THIS SEAT. 3 by the template 'for every input the law returns true; each argument reads behind the call as it read before'; 0 by the template 'total and deterministic' (their statements: Qxb6606046aTotals.lean).
  GIVEN WITH THE SEED: the statements are not yours to turn. If you find one false, say at which input.
  Laid BY PROGRAM, IN A SANDBOX (cutbox-rows.mjs): the forced cells as the released guide's own fill.sh prints them over the translation 8ae62692e65ceaa5… (all of the seat's roots in one cut). By AI agents, Wed Nov 11 2026. No macro, syntax, notation, axiom, sorry.
-/
import Derived.Test.Qxb6606046aChecked
import GoSem.Claim
import GoSem.ClaimJoined
import GoSem.ClaimMapViews
import Derived.JoinedTies
import Derived.KernelRfl
namespace Go.Proofs.Qxb6606046a
/- THE CELL 'sum', in the pinned program and in every row, IS THE sha256 OF THE DUMP (.gsa) THAT Qxb6606046aProg.lean LOADS. Nothing in Lean hashes anything: it is a label: what it is worth is what the hold of that sum in a sandbox is worth. -/
noncomputable def Try.pinned : Pinned := { name := "qxb6606046a", sum := "8ae62692e65ceaa5f113a8f3c4ce4b0a3d96e56f0c973523be0ca891a004820e", checked := Try.checked }
namespace Rows
def none {H : Type} : Left H := { results := [], args := [] }

/-- 'zzlaws_internal_squeeze_b1.FnTransformMatchesRotationSortModel': WHATEVER THE INPUT: true; the input reads as it did. -/
def fnTransformMatchesRotationSortModelSpec : ChangeSpec := { name := "fnTransformMatchesRotationSortModel", fn := fun _ => fun
  | [d] => { results := [.lit (.bool true)], args := [d] }
  | _ => none }
def fnTransformMatchesRotationSortModelRow : OpenClaim := { program := "qxb6606046a", sum := "8ae62692e65ceaa5f113a8f3c4ce4b0a3d96e56f0c973523be0ca891a004820e", func := "example.com/haversack/haversack/zzlaws_internal_squeeze_b1.FnTransformMatchesRotationSortModel", spec := "fnTransformMatchesRotationSortModel", recurses := true, apart := false }
def FnTransformMatchesRotationSortModelSaid : Prop := fnTransformMatchesRotationSortModelRow.holds Try.pinned (OpenSpec.ofChange fnTransformMatchesRotationSortModelSpec)

/-- ITS FALSE NEIGHBOUR: 'it returns false'. Refute it at one input. -/
def fnTransformMatchesRotationSortModelWrong : ChangeSpec := { name := "fnTransformMatchesRotationSortModel", fn := fun _ => fun
  | [d] => { results := [.lit (.bool false)], args := [d] }
  | _ => none }
def FnTransformMatchesRotationSortModelWrongFalsely : Prop := fnTransformMatchesRotationSortModelRow.holds Try.pinned (OpenSpec.ofChange fnTransformMatchesRotationSortModelWrong)

/-- 'zzlaws_internal_squeeze_b1.FnTransformReusedSorterAgreesWithFresh': WHATEVER THE INPUT: true; the input reads as it did. -/
def fnTransformReusedSorterAgreesWithFreshSpec : ChangeSpec := { name := "fnTransformReusedSorterAgreesWithFresh", fn := fun _ => fun
  | [d1, d2] => { results := [.lit (.bool true)], args := [d1, d2] }
  | _ => none }
def fnTransformReusedSorterAgreesWithFreshRow : OpenClaim := { program := "qxb6606046a", sum := "8ae62692e65ceaa5f113a8f3c4ce4b0a3d96e56f0c973523be0ca891a004820e", func := "example.com/haversack/haversack/zzlaws_internal_squeeze_b1.FnTransformReusedSorterAgreesWithFresh", spec := "fnTransformReusedSorterAgreesWithFresh", recurses := true, apart := false }
def FnTransformReusedSorterAgreesWithFreshSaid : Prop := fnTransformReusedSorterAgreesWithFreshRow.holds Try.pinned (OpenSpec.ofChange fnTransformReusedSorterAgreesWithFreshSpec)

/-- ITS FALSE NEIGHBOUR: 'it returns false'. Refute it at one input. -/
def fnTransformReusedSorterAgreesWithFreshWrong : ChangeSpec := { name := "fnTransformReusedSorterAgreesWithFresh", fn := fun _ => fun
  | [d1, d2] => { results := [.lit (.bool false)], args := [d1, d2] }
  | _ => none }
def FnTransformReusedSorterAgreesWithFreshWrongFalsely : Prop := fnTransformReusedSorterAgreesWithFreshRow.holds Try.pinned (OpenSpec.ofChange fnTransformReusedSorterAgreesWithFreshWrong)

/-- 'zzlaws_internal_squeeze_b1.FnTransformRearrangesBlock': WHATEVER THE INPUT: true; the input reads as it did. -/
def fnTransformRearrangesBlockSpec : ChangeSpec := { name := "fnTransformRearrangesBlock", fn := fun _ => fun
  | [d] => { results := [.lit (.bool true)], args := [d] }
  | _ => none }
def fnTransformRearrangesBlockRow : OpenClaim := { program := "qxb6606046a", sum := "8ae62692e65ceaa5f113a8f3c4ce4b0a3d96e56f0c973523be0ca891a004820e", func := "example.com/haversack/haversack/zzlaws_internal_squeeze_b1.FnTransformRearrangesBlock", spec := "fnTransformRearrangesBlock", recurses := true, apart := false }
def FnTransformRearrangesBlockSaid : Prop := fnTransformRearrangesBlockRow.holds Try.pinned (OpenSpec.ofChange fnTransformRearrangesBlockSpec)

/-- ITS FALSE NEIGHBOUR: 'it returns false'. Refute it at one input. -/
def fnTransformRearrangesBlockWrong : ChangeSpec := { name := "fnTransformRearrangesBlock", fn := fun _ => fun
  | [d] => { results := [.lit (.bool false)], args := [d] }
  | _ => none }
def FnTransformRearrangesBlockWrongFalsely : Prop := fnTransformRearrangesBlockRow.holds Try.pinned (OpenSpec.ofChange fnTransformRearrangesBlockWrong)

end Rows
end Go.Proofs.Qxb6606046a
