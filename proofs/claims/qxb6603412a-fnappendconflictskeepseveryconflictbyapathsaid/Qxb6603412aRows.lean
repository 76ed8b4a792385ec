/-
  NARROWER THAN 'FOR EVERY INPUT', by the rows' own cells (each row's printed sentence says how): FnAppendConflictsMatchesPairModel: maps · FnAppendConflictsKeepsEveryConflictByAPath: maps.
  DERIVED. THE GIVEN ROWS OF THIS SEAT. 4 by the template 'for every input the law returns true; each argument reads behind the call as it read before'; 0 by the template 'total and deterministic' (their statements: Qxb6603412aTotals.lean).
  GIVEN WITH THE SEED: the statements are not yours to turn. If you find one false, say at which input.
  Laid BY PROGRAM, IN A SANDBOX (cutbox-rows.mjs): the forced cells as the released guide's own fill.sh prints them over the translation a1fc7efdd9aedf6d… (all of the seat's roots in one cut). By AI agents, Wed Nov 11 2026. No macro, syntax, notation, axiom, sorry.
-/
import Derived.Test.Qxb6603412aChecked
import GoSem.Claim
import GoSem.ClaimJoined
import GoSem.ClaimMapViews
import Derived.JoinedTies
import Derived.KernelRfl
namespace Go.Proofs.Qxb6603412a
/- THE CELL 'sum', in the pinned program and in every row, IS THE sha256 OF THE DUMP (.gsa) THAT Qxb6603412aProg.lean LOADS. Nothing in Lean hashes anything: it is a label: what it is worth is what the hold of that sum in a sandbox is worth. -/
noncomputable def Try.pinned : Pinned := { name := "qxb6603412a", sum := "a1fc7efdd9aedf6db2f02e25caea368e2fd0fe015bced2bcb1c5530a71a385dc", checked := Try.checked }
namespace Rows
def none {H : Type} : Left H := { results := [], args := [] }

/-- 'zzlaws_internal_history_b1.FnAppendConflictsMatchesPairModel': WHATEVER THE INPUT: true; the input reads as it did. -/
def fnAppendConflictsMatchesPairModelSpec : ChangeSpec := { name := "fnAppendConflictsMatchesPairModel", fn := fun _ => fun
  | [d1, d2, d3, d4] => { results := [.lit (.bool true)], args := [d1, d2, d3, d4] }
  | _ => none }
def fnAppendConflictsMatchesPairModelRow : OpenClaim := { program := "qxb6603412a", sum := "a1fc7efdd9aedf6db2f02e25caea368e2fd0fe015bced2bcb1c5530a71a385dc", func := "example.com/firmhold/firmhold/zzlaws_internal_history_b1.FnAppendConflictsMatchesPairModel", spec := "fnAppendConflictsMatchesPairModel", maps := true, apart := false }
def FnAppendConflictsMatchesPairModelSaid : Prop := fnAppendConflictsMatchesPairModelRow.holds Try.pinned (OpenSpec.ofChange fnAppendConflictsMatchesPairModelSpec)

/-- ITS FALSE NEIGHBOUR: 'it returns false'. Refute it at one input. -/
def fnAppendConflictsMatchesPairModelWrong : ChangeSpec := { name := "fnAppendConflictsMatchesPairModel", fn := fun _ => fun
  | [d1, d2, d3, d4] => { results := [.lit (.bool false)], args := [d1, d2, d3, d4] }
  | _ => none }
def FnAppendConflictsMatchesPairModelWrongFalsely : Prop := fnAppendConflictsMatchesPairModelRow.holds Try.pinned (OpenSpec.ofChange fnAppendConflictsMatchesPairModelWrong)

/-- 'zzlaws_internal_history_b1.FnAppendConflictsKeepsEveryConflictByAPath': WHATEVER THE INPUT: true; the input reads as it did. -/
def fnAppendConflictsKeepsEveryConflictByAPathSpec : ChangeSpec := { name := "fnAppendConflictsKeepsEveryConflictByAPath", fn := fun _ => fun
  | [d1, d2, d3] => { results := [.lit (.bool true)], args := [d1, d2, d3] }
  | _ => none }
def fnAppendConflictsKeepsEveryConflictByAPathRow : OpenClaim := { program := "qxb6603412a", sum := "a1fc7efdd9aedf6db2f02e25caea368e2fd0fe015bced2bcb1c5530a71a385dc", func := "example.com/firmhold/firmhold/zzlaws_internal_history_b1.FnAppendConflictsKeepsEveryConflictByAPath", spec := "fnAppendConflictsKeepsEveryConflictByAPath", maps := true, apart := false }
def FnAppendConflictsKeepsEveryConflictByAPathSaid : Prop := fnAppendConflictsKeepsEveryConflictByAPathRow.holds Try.pinned (OpenSpec.ofChange fnAppendConflictsKeepsEveryConflictByAPathSpec)

/-- ITS FALSE NEIGHBOUR: 'it returns false'. Refute it at one input. -/
def fnAppendConflictsKeepsEveryConflictByAPathWrong : ChangeSpec := { name := "fnAppendConflictsKeepsEveryConflictByAPath", fn := fun _ => fun
  | [d1, d2, d3] => { results := [.lit (.bool false)], args := [d1, d2, d3] }
  | _ => none }
def FnAppendConflictsKeepsEveryConflictByAPathWrongFalsely : Prop := fnAppendConflictsKeepsEveryConflictByAPathRow.holds Try.pinned (OpenSpec.ofChange fnAppendConflictsKeepsEveryConflictByAPathWrong)

/-- 'zzlaws_internal_history_b1.FnCycleIsAShortestCycleThroughItsStart': WHATEVER THE INPUT: true; the input reads as it did. -/
def fnCycleIsAShortestCycleThroughItsStartSpec : ChangeSpec := { name := "fnCycleIsAShortestCycleThroughItsStart", fn := fun _ => fun
  | [d1, d2, d3] => { results := [.lit (.bool true)], args := [d1, d2, d3] }
  | _ => none }
def fnCycleIsAShortestCycleThroughItsStartRow : OpenClaim := { program := "qxb6603412a", sum := "a1fc7efdd9aedf6db2f02e25caea368e2fd0fe015bced2bcb1c5530a71a385dc", func := "example.com/firmhold/firmhold/zzlaws_internal_history_b1.FnCycleIsAShortestCycleThroughItsStart", spec := "fnCycleIsAShortestCycleThroughItsStart", apart := false }
def FnCycleIsAShortestCycleThroughItsStartSaid : Prop := fnCycleIsAShortestCycleThroughItsStartRow.holds Try.pinned (OpenSpec.ofChange fnCycleIsAShortestCycleThroughItsStartSpec)

/-- ITS FALSE NEIGHBOUR: 'it returns false'. Refute it at one input. -/
def fnCycleIsAShortestCycleThroughItsStartWrong : ChangeSpec := { name := "fnCycleIsAShortestCycleThroughItsStart", fn := fun _ => fun
  | [d1, d2, d3] => { results := [.lit (.bool false)], args := [d1, d2, d3] }
  | _ => none }
def FnCycleIsAShortestCycleThroughItsStartWrongFalsely : Prop := fnCycleIsAShortestCycleThroughItsStartRow.holds Try.pinned (OpenSpec.ofChange fnCycleIsAShortestCycleThroughItsStartWrong)

/-- 'zzlaws_internal_history_b1.FnCycleReadsComponentAsASetAfterItsStart': WHATEVER THE INPUT: true; the input reads as it did. -/
def fnCycleReadsComponentAsASetAfterItsStartSpec : ChangeSpec := { name := "fnCycleReadsComponentAsASetAfterItsStart", fn := fun _ => fun
  | [d1, d2, d3, d4] => { results := [.lit (.bool true)], args := [d1, d2, d3, d4] }
  | _ => none }
def fnCycleReadsComponentAsASetAfterItsStartRow : OpenClaim := { program := "qxb6603412a", sum := "a1fc7efdd9aedf6db2f02e25caea368e2fd0fe015bced2bcb1c5530a71a385dc", func := "example.com/firmhold/firmhold/zzlaws_internal_history_b1.FnCycleReadsComponentAsASetAfterItsStart", spec := "fnCycleReadsComponentAsASetAfterItsStart", apart := false }
def FnCycleReadsComponentAsASetAfterItsStartSaid : Prop := fnCycleReadsComponentAsASetAfterItsStartRow.holds Try.pinned (OpenSpec.ofChange fnCycleReadsComponentAsASetAfterItsStartSpec)

/-- ITS FALSE NEIGHBOUR: 'it returns false'. Refute it at one input. -/
def fnCycleReadsComponentAsASetAfterItsStartWrong : ChangeSpec := { name := "fnCycleReadsComponentAsASetAfterItsStart", fn := fun _ => fun
  | [d1, d2, d3, d4] => { results := [.lit (.bool false)], args := [d1, d2, d3, d4] }
  | _ => none }
def FnCycleReadsComponentAsASetAfterItsStartWrongFalsely : Prop := fnCycleReadsComponentAsASetAfterItsStartRow.holds Try.pinned (OpenSpec.ofChange fnCycleReadsComponentAsASetAfterItsStartWrong)

end Rows
end Go.Proofs.Qxb6603412a
