/-
  No cell of these rows narrows 'for every input' (looked for: loops, veiled, ifaces, maps, wideKeys, modest, calm, conditions, laid).
  DERIVED. THE GIVEN ROWS OF THIS SEAT. 3 by the template 'for every input the law returns true; each argument reads behind the call as it read before'; 0 by the template 'total and deterministic' (their statements: Qxb6606045aTotals.lean).
  GIVEN WITH THE SEED: the statements are not yours to turn. If you find one false, say at which input.
  Laid BY PROGRAM, IN A SANDBOX (cutbox-rows.mjs): the forced cells as the released guide's own fill.sh prints them over the translation 8fb770d08ee73b62… (all of the seat's roots in one cut). By AI agents, Wed Nov 11 2026. No macro, syntax, notation, axiom, sorry.
-/
import Derived.Test.Qxb6606045aChecked
import GoSem.Claim
import GoSem.ClaimJoined
import GoSem.ClaimMapViews
import Derived.JoinedTies
import Derived.KernelRfl
namespace Go.Proofs.Qxb6606045a
/- THE CELL 'sum', in the pinned program and in every row, IS THE sha256 OF THE DUMP (.gsa) THAT Qxb6606045aProg.lean LOADS. Nothing in Lean hashes anything: it is a label: what it is worth is what the hold of that sum in a sandbox is worth. -/
noncomputable def Try.pinned : Pinned := { name := "qxb6606045a", sum := "8fb770d08ee73b625df0e868c12ef66e159e215ee6bb2ac9554eb15bbe1a1eed", checked := Try.checked }
namespace Rows
def none {H : Type} : Left H := { results := [], args := [] }

/-- 'zzlaws_internal_address_b1.FnValidRepositoryMatchesAlphabetModel': WHATEVER THE INPUT: true; the input reads as it did. -/
def fnValidRepositoryMatchesAlphabetModelSpec : ChangeSpec := { name := "fnValidRepositoryMatchesAlphabetModel", fn := fun _ => fun
  | [d] => { results := [.lit (.bool true)], args := [d] }
  | _ => none }
def fnValidRepositoryMatchesAlphabetModelRow : OpenClaim := { program := "qxb6606045a", sum := "8fb770d08ee73b625df0e868c12ef66e159e215ee6bb2ac9554eb15bbe1a1eed", func := "example.com/nudibranch/nudibranch/zzlaws_internal_address_b1.FnValidRepositoryMatchesAlphabetModel", spec := "fnValidRepositoryMatchesAlphabetModel", apart := false }
def FnValidRepositoryMatchesAlphabetModelSaid : Prop := fnValidRepositoryMatchesAlphabetModelRow.holds Try.pinned (OpenSpec.ofChange fnValidRepositoryMatchesAlphabetModelSpec)

/-- ITS FALSE NEIGHBOUR: 'it returns false'. Refute it at one input. -/
def fnValidRepositoryMatchesAlphabetModelWrong : ChangeSpec := { name := "fnValidRepositoryMatchesAlphabetModel", fn := fun _ => fun
  | [d] => { results := [.lit (.bool false)], args := [d] }
  | _ => none }
def FnValidRepositoryMatchesAlphabetModelWrongFalsely : Prop := fnValidRepositoryMatchesAlphabetModelRow.holds Try.pinned (OpenSpec.ofChange fnValidRepositoryMatchesAlphabetModelWrong)

/-- 'zzlaws_internal_address_b1.FnValidRepositoryReversalInvariant': WHATEVER THE INPUT: true; the input reads as it did. -/
def fnValidRepositoryReversalInvariantSpec : ChangeSpec := { name := "fnValidRepositoryReversalInvariant", fn := fun _ => fun
  | [d] => { results := [.lit (.bool true)], args := [d] }
  | _ => none }
def fnValidRepositoryReversalInvariantRow : OpenClaim := { program := "qxb6606045a", sum := "8fb770d08ee73b625df0e868c12ef66e159e215ee6bb2ac9554eb15bbe1a1eed", func := "example.com/nudibranch/nudibranch/zzlaws_internal_address_b1.FnValidRepositoryReversalInvariant", spec := "fnValidRepositoryReversalInvariant", apart := false }
def FnValidRepositoryReversalInvariantSaid : Prop := fnValidRepositoryReversalInvariantRow.holds Try.pinned (OpenSpec.ofChange fnValidRepositoryReversalInvariantSpec)

/-- ITS FALSE NEIGHBOUR: 'it returns false'. Refute it at one input. -/
def fnValidRepositoryReversalInvariantWrong : ChangeSpec := { name := "fnValidRepositoryReversalInvariant", fn := fun _ => fun
  | [d] => { results := [.lit (.bool false)], args := [d] }
  | _ => none }
def FnValidRepositoryReversalInvariantWrongFalsely : Prop := fnValidRepositoryReversalInvariantRow.holds Try.pinned (OpenSpec.ofChange fnValidRepositoryReversalInvariantWrong)

/-- 'zzlaws_internal_address_b1.FnValidRepositoryImpliesValidRefName': WHATEVER THE INPUT: true; the input reads as it did. -/
def fnValidRepositoryImpliesValidRefNameSpec : ChangeSpec := { name := "fnValidRepositoryImpliesValidRefName", fn := fun _ => fun
  | [d] => { results := [.lit (.bool true)], args := [d] }
  | _ => none }
def fnValidRepositoryImpliesValidRefNameRow : OpenClaim := { program := "qxb6606045a", sum := "8fb770d08ee73b625df0e868c12ef66e159e215ee6bb2ac9554eb15bbe1a1eed", func := "example.com/nudibranch/nudibranch/zzlaws_internal_address_b1.FnValidRepositoryImpliesValidRefName", spec := "fnValidRepositoryImpliesValidRefName", apart := false }
def FnValidRepositoryImpliesValidRefNameSaid : Prop := fnValidRepositoryImpliesValidRefNameRow.holds Try.pinned (OpenSpec.ofChange fnValidRepositoryImpliesValidRefNameSpec)

/-- ITS FALSE NEIGHBOUR: 'it returns false'. Refute it at one input. -/
def fnValidRepositoryImpliesValidRefNameWrong : ChangeSpec := { name := "fnValidRepositoryImpliesValidRefName", fn := fun _ => fun
  | [d] => { results := [.lit (.bool false)], args := [d] }
  | _ => none }
def FnValidRepositoryImpliesValidRefNameWrongFalsely : Prop := fnValidRepositoryImpliesValidRefNameRow.holds Try.pinned (OpenSpec.ofChange fnValidRepositoryImpliesValidRefNameWrong)

end Rows
end Go.Proofs.Qxb6606045a
