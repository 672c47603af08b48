/-
  No cell of these rows narrows 'for every input' (looked for: loops, veiled, ifaces, maps, wideKeys, modest, calm, conditions, laid).
  DERIVED. THE GIVEN ROWS OF THIS SEAT. 6 by the template 'for every input the law returns true; each argument reads behind the call as it read before'; 0 by the template 'total and deterministic' (their statements: Qxb6602549aTotals.lean).
  GIVEN WITH THE SEED: the statements are not yours to turn. If you find one false, say at which input.
  Laid BY PROGRAM, IN A SANDBOX (cutbox-rows.mjs): the forced cells as the released guide's own fill.sh prints them over the translation 9e02d58916505403… (all of the seat's roots in one cut). By AI agents, Wed Nov 11 2026. No macro, syntax, notation, axiom, sorry.
-/
import Derived.Test.Qxb6602549aChecked
import GoSem.Claim
import GoSem.ClaimJoined
import GoSem.ClaimMapViews
import Derived.JoinedTies
import Derived.KernelRfl
namespace Go.Proofs.Qxb6602549a
/- THE CELL 'sum', in the pinned program and in every row, IS THE sha256 OF THE DUMP (.gsa) THAT Qxb6602549aProg.lean LOADS. Nothing in Lean hashes anything: it is a label: what it is worth is what the hold of that sum in a sandbox is worth. -/
noncomputable def Try.pinned : Pinned := { name := "qxb6602549a", sum := "9e02d58916505403ad23dd96c0de8315b4e8bceed1ed03afe32209f00d3a2e5f", checked := Try.checked }
namespace Rows
def none {H : Type} : Left H := { results := [], args := [] }

/-- 'zzlaws_internal_history_b1.FnRecoveryMatchesTextbookDefinitions': WHATEVER THE INPUT: true; the input reads as it did. -/
def fnRecoveryMatchesTextbookDefinitionsSpec : ChangeSpec := { name := "fnRecoveryMatchesTextbookDefinitions", fn := fun _ => fun
  | [d1, d2, d3, d4, d5, d6, d7] => { results := [.lit (.bool true)], args := [d1, d2, d3, d4, d5, d6, d7] }
  | _ => none }
def fnRecoveryMatchesTextbookDefinitionsRow : OpenClaim := { program := "qxb6602549a", sum := "9e02d58916505403ad23dd96c0de8315b4e8bceed1ed03afe32209f00d3a2e5f", func := "example.com/lockstep/lockstep/zzlaws_internal_history_b1.FnRecoveryMatchesTextbookDefinitions", spec := "fnRecoveryMatchesTextbookDefinitions", apart := false }
def FnRecoveryMatchesTextbookDefinitionsSaid : Prop := fnRecoveryMatchesTextbookDefinitionsRow.holds Try.pinned (OpenSpec.ofChange fnRecoveryMatchesTextbookDefinitionsSpec)

/-- ITS FALSE NEIGHBOUR: 'it returns false'. Refute it at one input. -/
def fnRecoveryMatchesTextbookDefinitionsWrong : ChangeSpec := { name := "fnRecoveryMatchesTextbookDefinitions", fn := fun _ => fun
  | [d1, d2, d3, d4, d5, d6, d7] => { results := [.lit (.bool false)], args := [d1, d2, d3, d4, d5, d6, d7] }
  | _ => none }
def FnRecoveryMatchesTextbookDefinitionsWrongFalsely : Prop := fnRecoveryMatchesTextbookDefinitionsRow.holds Try.pinned (OpenSpec.ofChange fnRecoveryMatchesTextbookDefinitionsWrong)

/-- 'zzlaws_internal_history_b1.FnRecoveryClassesAreNested': WHATEVER THE INPUT: true; the input reads as it did. -/
def fnRecoveryClassesAreNestedSpec : ChangeSpec := { name := "fnRecoveryClassesAreNested", fn := fun _ => fun
  | [d1, d2, d3, d4, d5, d6, d7] => { results := [.lit (.bool true)], args := [d1, d2, d3, d4, d5, d6, d7] }
  | _ => none }
def fnRecoveryClassesAreNestedRow : OpenClaim := { program := "qxb6602549a", sum := "9e02d58916505403ad23dd96c0de8315b4e8bceed1ed03afe32209f00d3a2e5f", func := "example.com/lockstep/lockstep/zzlaws_internal_history_b1.FnRecoveryClassesAreNested", spec := "fnRecoveryClassesAreNested", apart := false }
def FnRecoveryClassesAreNestedSaid : Prop := fnRecoveryClassesAreNestedRow.holds Try.pinned (OpenSpec.ofChange fnRecoveryClassesAreNestedSpec)

/-- ITS FALSE NEIGHBOUR: 'it returns false'. Refute it at one input. -/
def fnRecoveryClassesAreNestedWrong : ChangeSpec := { name := "fnRecoveryClassesAreNested", fn := fun _ => fun
  | [d1, d2, d3, d4, d5, d6, d7] => { results := [.lit (.bool false)], args := [d1, d2, d3, d4, d5, d6, d7] }
  | _ => none }
def FnRecoveryClassesAreNestedWrongFalsely : Prop := fnRecoveryClassesAreNestedRow.holds Try.pinned (OpenSpec.ofChange fnRecoveryClassesAreNestedWrong)

/-- 'zzlaws_internal_history_b1.FnRecoverySerialHistoryIsRigorous': WHATEVER THE INPUT: true; the input reads as it did. -/
def fnRecoverySerialHistoryIsRigorousSpec : ChangeSpec := { name := "fnRecoverySerialHistoryIsRigorous", fn := fun _ => fun
  | [d1, d2, d3, d4, d5, d6, d7] => { results := [.lit (.bool true)], args := [d1, d2, d3, d4, d5, d6, d7] }
  | _ => none }
def fnRecoverySerialHistoryIsRigorousRow : OpenClaim := { program := "qxb6602549a", sum := "9e02d58916505403ad23dd96c0de8315b4e8bceed1ed03afe32209f00d3a2e5f", func := "example.com/lockstep/lockstep/zzlaws_internal_history_b1.FnRecoverySerialHistoryIsRigorous", spec := "fnRecoverySerialHistoryIsRigorous", apart := false }
def FnRecoverySerialHistoryIsRigorousSaid : Prop := fnRecoverySerialHistoryIsRigorousRow.holds Try.pinned (OpenSpec.ofChange fnRecoverySerialHistoryIsRigorousSpec)

/-- ITS FALSE NEIGHBOUR: 'it returns false'. Refute it at one input. -/
def fnRecoverySerialHistoryIsRigorousWrong : ChangeSpec := { name := "fnRecoverySerialHistoryIsRigorous", fn := fun _ => fun
  | [d1, d2, d3, d4, d5, d6, d7] => { results := [.lit (.bool false)], args := [d1, d2, d3, d4, d5, d6, d7] }
  | _ => none }
def FnRecoverySerialHistoryIsRigorousWrongFalsely : Prop := fnRecoverySerialHistoryIsRigorousRow.holds Try.pinned (OpenSpec.ofChange fnRecoverySerialHistoryIsRigorousWrong)

/-- 'zzlaws_internal_history_b1.FnNewGraphOutHasTheConflictGraphsPaths': WHATEVER THE INPUT: true; the input reads as it did. -/
def fnNewGraphOutHasTheConflictGraphsPathsSpec : ChangeSpec := { name := "fnNewGraphOutHasTheConflictGraphsPaths", fn := fun _ => fun
  | [d1, d2, d3, d4, d5, d6, d7] => { results := [.lit (.bool true)], args := [d1, d2, d3, d4, d5, d6, d7] }
  | _ => none }
def fnNewGraphOutHasTheConflictGraphsPathsRow : OpenClaim := { program := "qxb6602549a", sum := "9e02d58916505403ad23dd96c0de8315b4e8bceed1ed03afe32209f00d3a2e5f", func := "example.com/lockstep/lockstep/zzlaws_internal_history_b1.FnNewGraphOutHasTheConflictGraphsPaths", spec := "fnNewGraphOutHasTheConflictGraphsPaths", apart := false }
def FnNewGraphOutHasTheConflictGraphsPathsSaid : Prop := fnNewGraphOutHasTheConflictGraphsPathsRow.holds Try.pinned (OpenSpec.ofChange fnNewGraphOutHasTheConflictGraphsPathsSpec)

/-- ITS FALSE NEIGHBOUR: 'it returns false'. Refute it at one input. -/
def fnNewGraphOutHasTheConflictGraphsPathsWrong : ChangeSpec := { name := "fnNewGraphOutHasTheConflictGraphsPaths", fn := fun _ => fun
  | [d1, d2, d3, d4, d5, d6, d7] => { results := [.lit (.bool false)], args := [d1, d2, d3, d4, d5, d6, d7] }
  | _ => none }
def FnNewGraphOutHasTheConflictGraphsPathsWrongFalsely : Prop := fnNewGraphOutHasTheConflictGraphsPathsRow.holds Try.pinned (OpenSpec.ofChange fnNewGraphOutHasTheConflictGraphsPathsWrong)

/-- 'zzlaws_internal_history_b1.FnNewGraphTouchRangesAreExactlyTheConflicts': WHATEVER THE INPUT: true; the input reads as it did. -/
def fnNewGraphTouchRangesAreExactlyTheConflictsSpec : ChangeSpec := { name := "fnNewGraphTouchRangesAreExactlyTheConflicts", fn := fun _ => fun
  | [d1, d2, d3, d4, d5, d6, d7] => { results := [.lit (.bool true)], args := [d1, d2, d3, d4, d5, d6, d7] }
  | _ => none }
def fnNewGraphTouchRangesAreExactlyTheConflictsRow : OpenClaim := { program := "qxb6602549a", sum := "9e02d58916505403ad23dd96c0de8315b4e8bceed1ed03afe32209f00d3a2e5f", func := "example.com/lockstep/lockstep/zzlaws_internal_history_b1.FnNewGraphTouchRangesAreExactlyTheConflicts", spec := "fnNewGraphTouchRangesAreExactlyTheConflicts", apart := false }
def FnNewGraphTouchRangesAreExactlyTheConflictsSaid : Prop := fnNewGraphTouchRangesAreExactlyTheConflictsRow.holds Try.pinned (OpenSpec.ofChange fnNewGraphTouchRangesAreExactlyTheConflictsSpec)

/-- ITS FALSE NEIGHBOUR: 'it returns false'. Refute it at one input. -/
def fnNewGraphTouchRangesAreExactlyTheConflictsWrong : ChangeSpec := { name := "fnNewGraphTouchRangesAreExactlyTheConflicts", fn := fun _ => fun
  | [d1, d2, d3, d4, d5, d6, d7] => { results := [.lit (.bool false)], args := [d1, d2, d3, d4, d5, d6, d7] }
  | _ => none }
def FnNewGraphTouchRangesAreExactlyTheConflictsWrongFalsely : Prop := fnNewGraphTouchRangesAreExactlyTheConflictsRow.holds Try.pinned (OpenSpec.ofChange fnNewGraphTouchRangesAreExactlyTheConflictsWrong)

/-- 'zzlaws_internal_history_b1.FnNewGraphMatchesModel': WHATEVER THE INPUT: true; the input reads as it did. -/
def fnNewGraphMatchesModelSpec : ChangeSpec := { name := "fnNewGraphMatchesModel", fn := fun _ => fun
  | [d1, d2, d3, d4, d5, d6, d7] => { results := [.lit (.bool true)], args := [d1, d2, d3, d4, d5, d6, d7] }
  | _ => none }
def fnNewGraphMatchesModelRow : OpenClaim := { program := "qxb6602549a", sum := "9e02d58916505403ad23dd96c0de8315b4e8bceed1ed03afe32209f00d3a2e5f", func := "example.com/lockstep/lockstep/zzlaws_internal_history_b1.FnNewGraphMatchesModel", spec := "fnNewGraphMatchesModel", apart := false }
def FnNewGraphMatchesModelSaid : Prop := fnNewGraphMatchesModelRow.holds Try.pinned (OpenSpec.ofChange fnNewGraphMatchesModelSpec)

/-- ITS FALSE NEIGHBOUR: 'it returns false'. Refute it at one input. -/
def fnNewGraphMatchesModelWrong : ChangeSpec := { name := "fnNewGraphMatchesModel", fn := fun _ => fun
  | [d1, d2, d3, d4, d5, d6, d7] => { results := [.lit (.bool false)], args := [d1, d2, d3, d4, d5, d6, d7] }
  | _ => none }
def FnNewGraphMatchesModelWrongFalsely : Prop := fnNewGraphMatchesModelRow.holds Try.pinned (OpenSpec.ofChange fnNewGraphMatchesModelWrong)

end Rows
end Go.Proofs.Qxb6602549a
