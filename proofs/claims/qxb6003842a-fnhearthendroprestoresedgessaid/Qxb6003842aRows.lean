/-
  No cell of these rows narrows 'for every input' (looked for: loops, veiled, ifaces, maps, wideKeys, modest, calm, conditions, laid).
  DERIVED. THE GIVEN ROWS OF THIS SEAT. 3 by the template 'for every input the law returns true; each argument reads behind the call as it read before'; 0 by the template 'total and deterministic' (their statements: Qxb6003842aTotals.lean).
  GIVEN WITH THE SEED: the statements are not yours to turn. If you find one false, say at which input.
  Laid BY PROGRAM, IN A SANDBOX (cutbox-rows.mjs): the forced cells as the released guide's own fill.sh prints them over the translation 396bd597fa9e75b7… (all of the seat's roots in one cut). By AI agents, Wed Nov 11 2026. No macro, syntax, notation, axiom, sorry.
-/
import Derived.Test.Qxb6003842aChecked
import GoSem.Claim
import GoSem.ClaimJoined
import GoSem.ClaimMapViews
import Derived.JoinedTies
import Derived.KernelRfl
namespace Go.Proofs.Qxb6003842a
/- THE CELL 'sum', in the pinned program and in every row, IS THE sha256 OF THE DUMP (.gsa) THAT Qxb6003842aProg.lean LOADS. Nothing in Lean hashes anything: it is a label: what it is worth is what the hold of that sum in a sandbox is worth. -/
noncomputable def Try.pinned : Pinned := { name := "qxb6003842a", sum := "396bd597fa9e75b7392fb91e3dfd91db2f1405fc6d7cd84daef4a9f5b1fd395b", checked := Try.checked }
namespace Rows
def none {H : Type} : Left H := { results := [], args := [] }

/-- 'zzlaws_expander_g1.FnHearThenDropRestoresEdges': WHATEVER THE INPUT: true; the input reads as it did. -/
def fnHearThenDropRestoresEdgesSpec : ChangeSpec := { name := "fnHearThenDropRestoresEdges", fn := fun _ => fun
  | [d1, d2, d3, d4, d5] => { results := [.lit (.bool true)], args := [d1, d2, d3, d4, d5] }
  | _ => none }
def fnHearThenDropRestoresEdgesRow : OpenClaim := { program := "qxb6003842a", sum := "396bd597fa9e75b7392fb91e3dfd91db2f1405fc6d7cd84daef4a9f5b1fd395b", func := "example.com/churnweave/churnweave/zzlaws_expander_g1.FnHearThenDropRestoresEdges", spec := "fnHearThenDropRestoresEdges", apart := false }
def FnHearThenDropRestoresEdgesSaid : Prop := fnHearThenDropRestoresEdgesRow.holds Try.pinned (OpenSpec.ofChange fnHearThenDropRestoresEdgesSpec)

/-- ITS FALSE NEIGHBOUR: 'it returns false'. Refute it at one input. -/
def fnHearThenDropRestoresEdgesWrong : ChangeSpec := { name := "fnHearThenDropRestoresEdges", fn := fun _ => fun
  | [d1, d2, d3, d4, d5] => { results := [.lit (.bool false)], args := [d1, d2, d3, d4, d5] }
  | _ => none }
def FnHearThenDropRestoresEdgesWrongFalsely : Prop := fnHearThenDropRestoresEdgesRow.holds Try.pinned (OpenSpec.ofChange fnHearThenDropRestoresEdgesWrong)

/-- 'zzlaws_graph_g1.FnComponentsAgreeWithUnionFind': WHATEVER THE INPUT: true; the input reads as it did. -/
def fnComponentsAgreeWithUnionFindSpec : ChangeSpec := { name := "fnComponentsAgreeWithUnionFind", fn := fun _ => fun
  | [d1, d2, d3] => { results := [.lit (.bool true)], args := [d1, d2, d3] }
  | _ => none }
def fnComponentsAgreeWithUnionFindRow : OpenClaim := { program := "qxb6003842a", sum := "396bd597fa9e75b7392fb91e3dfd91db2f1405fc6d7cd84daef4a9f5b1fd395b", func := "example.com/churnweave/churnweave/zzlaws_graph_g1.FnComponentsAgreeWithUnionFind", spec := "fnComponentsAgreeWithUnionFind", apart := false }
def FnComponentsAgreeWithUnionFindSaid : Prop := fnComponentsAgreeWithUnionFindRow.holds Try.pinned (OpenSpec.ofChange fnComponentsAgreeWithUnionFindSpec)

/-- ITS FALSE NEIGHBOUR: 'it returns false'. Refute it at one input. -/
def fnComponentsAgreeWithUnionFindWrong : ChangeSpec := { name := "fnComponentsAgreeWithUnionFind", fn := fun _ => fun
  | [d1, d2, d3] => { results := [.lit (.bool false)], args := [d1, d2, d3] }
  | _ => none }
def FnComponentsAgreeWithUnionFindWrongFalsely : Prop := fnComponentsAgreeWithUnionFindRow.holds Try.pinned (OpenSpec.ofChange fnComponentsAgreeWithUnionFindWrong)

/-- 'zzlaws_graph_g1.FnStatsAgreeWithMatrixModel': WHATEVER THE INPUT: true; the input reads as it did. -/
def fnStatsAgreeWithMatrixModelSpec : ChangeSpec := { name := "fnStatsAgreeWithMatrixModel", fn := fun _ => fun
  | [d1, d2, d3] => { results := [.lit (.bool true)], args := [d1, d2, d3] }
  | _ => none }
def fnStatsAgreeWithMatrixModelRow : OpenClaim := { program := "qxb6003842a", sum := "396bd597fa9e75b7392fb91e3dfd91db2f1405fc6d7cd84daef4a9f5b1fd395b", func := "example.com/churnweave/churnweave/zzlaws_graph_g1.FnStatsAgreeWithMatrixModel", spec := "fnStatsAgreeWithMatrixModel", apart := false }
def FnStatsAgreeWithMatrixModelSaid : Prop := fnStatsAgreeWithMatrixModelRow.holds Try.pinned (OpenSpec.ofChange fnStatsAgreeWithMatrixModelSpec)

/-- ITS FALSE NEIGHBOUR: 'it returns false'. Refute it at one input. -/
def fnStatsAgreeWithMatrixModelWrong : ChangeSpec := { name := "fnStatsAgreeWithMatrixModel", fn := fun _ => fun
  | [d1, d2, d3] => { results := [.lit (.bool false)], args := [d1, d2, d3] }
  | _ => none }
def FnStatsAgreeWithMatrixModelWrongFalsely : Prop := fnStatsAgreeWithMatrixModelRow.holds Try.pinned (OpenSpec.ofChange fnStatsAgreeWithMatrixModelWrong)

end Rows
end Go.Proofs.Qxb6003842a
