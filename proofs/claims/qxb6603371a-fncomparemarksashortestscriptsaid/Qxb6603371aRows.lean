/-
  No cell of these rows narrows 'for every input' (looked for: loops, veiled, ifaces, maps, wideKeys, modest, calm, conditions, laid).
  DERIVED. THE GIVEN ROWS OF THIS SEAT. 6 by the template 'for every input the law returns true; each argument reads behind the call as it read before'; 0 by the template 'total and deterministic' (their statements: Qxb6603371aTotals.lean).
  GIVEN WITH THE SEED: the statements are not yours to turn. If you find one false, say at which input.
  Laid BY PROGRAM, IN A SANDBOX (cutbox-rows.mjs): the forced cells as the released guide's own fill.sh prints them over the translation 5fddf625eafda155… (all of the seat's roots in one cut). By AI agents, Wed Nov 11 2026. No macro, syntax, notation, axiom, sorry.
-/
import Derived.Test.Qxb6603371aChecked
import GoSem.Claim
import GoSem.ClaimJoined
import GoSem.ClaimMapViews
import Derived.JoinedTies
import Derived.KernelRfl
namespace Go.Proofs.Qxb6603371a
/- THE CELL 'sum', in the pinned program and in every row, IS THE sha256 OF THE DUMP (.gsa) THAT Qxb6603371aProg.lean LOADS. Nothing in Lean hashes anything: it is a label: what it is worth is what the hold of that sum in a sandbox is worth. -/
noncomputable def Try.pinned : Pinned := { name := "qxb6603371a", sum := "5fddf625eafda155909ccd63e00e44ae23bf19d39a769511e091a5e9c24f1691", checked := Try.checked }
namespace Rows
def none {H : Type} : Left H := { results := [], args := [] }

/-- 'zzlaws_internal_diff_b1.FnGroupIsTheRunsOfCoveredLines': WHATEVER THE INPUT: true; the input reads as it did. -/
def fnGroupIsTheRunsOfCoveredLinesSpec : ChangeSpec := { name := "fnGroupIsTheRunsOfCoveredLines", fn := fun _ => fun
  | [d] => { results := [.lit (.bool true)], args := [d] }
  | _ => none }
def fnGroupIsTheRunsOfCoveredLinesRow : OpenClaim := { program := "qxb6603371a", sum := "5fddf625eafda155909ccd63e00e44ae23bf19d39a769511e091a5e9c24f1691", func := "example.com/revtrail/revtrail/zzlaws_internal_diff_b1.FnGroupIsTheRunsOfCoveredLines", spec := "fnGroupIsTheRunsOfCoveredLines", apart := false }
def FnGroupIsTheRunsOfCoveredLinesSaid : Prop := fnGroupIsTheRunsOfCoveredLinesRow.holds Try.pinned (OpenSpec.ofChange fnGroupIsTheRunsOfCoveredLinesSpec)

/-- ITS FALSE NEIGHBOUR: 'it returns false'. Refute it at one input. -/
def fnGroupIsTheRunsOfCoveredLinesWrong : ChangeSpec := { name := "fnGroupIsTheRunsOfCoveredLines", fn := fun _ => fun
  | [d] => { results := [.lit (.bool false)], args := [d] }
  | _ => none }
def FnGroupIsTheRunsOfCoveredLinesWrongFalsely : Prop := fnGroupIsTheRunsOfCoveredLinesRow.holds Try.pinned (OpenSpec.ofChange fnGroupIsTheRunsOfCoveredLinesWrong)

/-- 'zzlaws_internal_diff_b1.FnGroupHunksAreSeparatedAndHoldEveryChange': WHATEVER THE INPUT: true; the input reads as it did. -/
def fnGroupHunksAreSeparatedAndHoldEveryChangeSpec : ChangeSpec := { name := "fnGroupHunksAreSeparatedAndHoldEveryChange", fn := fun _ => fun
  | [d] => { results := [.lit (.bool true)], args := [d] }
  | _ => none }
def fnGroupHunksAreSeparatedAndHoldEveryChangeRow : OpenClaim := { program := "qxb6603371a", sum := "5fddf625eafda155909ccd63e00e44ae23bf19d39a769511e091a5e9c24f1691", func := "example.com/revtrail/revtrail/zzlaws_internal_diff_b1.FnGroupHunksAreSeparatedAndHoldEveryChange", spec := "fnGroupHunksAreSeparatedAndHoldEveryChange", apart := false }
def FnGroupHunksAreSeparatedAndHoldEveryChangeSaid : Prop := fnGroupHunksAreSeparatedAndHoldEveryChangeRow.holds Try.pinned (OpenSpec.ofChange fnGroupHunksAreSeparatedAndHoldEveryChangeSpec)

/-- ITS FALSE NEIGHBOUR: 'it returns false'. Refute it at one input. -/
def fnGroupHunksAreSeparatedAndHoldEveryChangeWrong : ChangeSpec := { name := "fnGroupHunksAreSeparatedAndHoldEveryChange", fn := fun _ => fun
  | [d] => { results := [.lit (.bool false)], args := [d] }
  | _ => none }
def FnGroupHunksAreSeparatedAndHoldEveryChangeWrongFalsely : Prop := fnGroupHunksAreSeparatedAndHoldEveryChangeRow.holds Try.pinned (OpenSpec.ofChange fnGroupHunksAreSeparatedAndHoldEveryChangeWrong)

/-- 'zzlaws_internal_diff_b1.FnCompareMarksAShortestScript': WHATEVER THE INPUT: true; the input reads as it did. -/
def fnCompareMarksAShortestScriptSpec : ChangeSpec := { name := "fnCompareMarksAShortestScript", fn := fun _ => fun
  | [d1, d2, d3, d4, d5, d6, d7] => { results := [.lit (.bool true)], args := [d1, d2, d3, d4, d5, d6, d7] }
  | _ => none }
def fnCompareMarksAShortestScriptRow : OpenClaim := { program := "qxb6603371a", sum := "5fddf625eafda155909ccd63e00e44ae23bf19d39a769511e091a5e9c24f1691", func := "example.com/revtrail/revtrail/zzlaws_internal_diff_b1.FnCompareMarksAShortestScript", spec := "fnCompareMarksAShortestScript", recurses := true, apart := false }
def FnCompareMarksAShortestScriptSaid : Prop := fnCompareMarksAShortestScriptRow.holds Try.pinned (OpenSpec.ofChange fnCompareMarksAShortestScriptSpec)

/-- ITS FALSE NEIGHBOUR: 'it returns false'. Refute it at one input. -/
def fnCompareMarksAShortestScriptWrong : ChangeSpec := { name := "fnCompareMarksAShortestScript", fn := fun _ => fun
  | [d1, d2, d3, d4, d5, d6, d7] => { results := [.lit (.bool false)], args := [d1, d2, d3, d4, d5, d6, d7] }
  | _ => none }
def FnCompareMarksAShortestScriptWrongFalsely : Prop := fnCompareMarksAShortestScriptRow.holds Try.pinned (OpenSpec.ofChange fnCompareMarksAShortestScriptWrong)

/-- 'zzlaws_internal_diff_b1.FnCompareMarksAValidScriptAtAnyBudget': WHATEVER THE INPUT: true; the input reads as it did. -/
def fnCompareMarksAValidScriptAtAnyBudgetSpec : ChangeSpec := { name := "fnCompareMarksAValidScriptAtAnyBudget", fn := fun _ => fun
  | [d1, d2, d3, d4, d5, d6, d7] => { results := [.lit (.bool true)], args := [d1, d2, d3, d4, d5, d6, d7] }
  | _ => none }
def fnCompareMarksAValidScriptAtAnyBudgetRow : OpenClaim := { program := "qxb6603371a", sum := "5fddf625eafda155909ccd63e00e44ae23bf19d39a769511e091a5e9c24f1691", func := "example.com/revtrail/revtrail/zzlaws_internal_diff_b1.FnCompareMarksAValidScriptAtAnyBudget", spec := "fnCompareMarksAValidScriptAtAnyBudget", recurses := true, apart := false }
def FnCompareMarksAValidScriptAtAnyBudgetSaid : Prop := fnCompareMarksAValidScriptAtAnyBudgetRow.holds Try.pinned (OpenSpec.ofChange fnCompareMarksAValidScriptAtAnyBudgetSpec)

/-- ITS FALSE NEIGHBOUR: 'it returns false'. Refute it at one input. -/
def fnCompareMarksAValidScriptAtAnyBudgetWrong : ChangeSpec := { name := "fnCompareMarksAValidScriptAtAnyBudget", fn := fun _ => fun
  | [d1, d2, d3, d4, d5, d6, d7] => { results := [.lit (.bool false)], args := [d1, d2, d3, d4, d5, d6, d7] }
  | _ => none }
def FnCompareMarksAValidScriptAtAnyBudgetWrongFalsely : Prop := fnCompareMarksAValidScriptAtAnyBudgetRow.holds Try.pinned (OpenSpec.ofChange fnCompareMarksAValidScriptAtAnyBudgetWrong)

/-- 'zzlaws_internal_diff_b1.FnMiddleSplitsAShortestScript': WHATEVER THE INPUT: true; the input reads as it did. -/
def fnMiddleSplitsAShortestScriptSpec : ChangeSpec := { name := "fnMiddleSplitsAShortestScript", fn := fun _ => fun
  | [d1, d2, d3, d4, d5, d6, d7] => { results := [.lit (.bool true)], args := [d1, d2, d3, d4, d5, d6, d7] }
  | _ => none }
def fnMiddleSplitsAShortestScriptRow : OpenClaim := { program := "qxb6603371a", sum := "5fddf625eafda155909ccd63e00e44ae23bf19d39a769511e091a5e9c24f1691", func := "example.com/revtrail/revtrail/zzlaws_internal_diff_b1.FnMiddleSplitsAShortestScript", spec := "fnMiddleSplitsAShortestScript", apart := false }
def FnMiddleSplitsAShortestScriptSaid : Prop := fnMiddleSplitsAShortestScriptRow.holds Try.pinned (OpenSpec.ofChange fnMiddleSplitsAShortestScriptSpec)

/-- ITS FALSE NEIGHBOUR: 'it returns false'. Refute it at one input. -/
def fnMiddleSplitsAShortestScriptWrong : ChangeSpec := { name := "fnMiddleSplitsAShortestScript", fn := fun _ => fun
  | [d1, d2, d3, d4, d5, d6, d7] => { results := [.lit (.bool false)], args := [d1, d2, d3, d4, d5, d6, d7] }
  | _ => none }
def FnMiddleSplitsAShortestScriptWrongFalsely : Prop := fnMiddleSplitsAShortestScriptRow.holds Try.pinned (OpenSpec.ofChange fnMiddleSplitsAShortestScriptWrong)

/-- 'zzlaws_internal_diff_b1.FnMiddleCutShortStaysInsideWithinItsBudget': WHATEVER THE INPUT: true; the input reads as it did. -/
def fnMiddleCutShortStaysInsideWithinItsBudgetSpec : ChangeSpec := { name := "fnMiddleCutShortStaysInsideWithinItsBudget", fn := fun _ => fun
  | [d1, d2, d3, d4, d5, d6, d7] => { results := [.lit (.bool true)], args := [d1, d2, d3, d4, d5, d6, d7] }
  | _ => none }
def fnMiddleCutShortStaysInsideWithinItsBudgetRow : OpenClaim := { program := "qxb6603371a", sum := "5fddf625eafda155909ccd63e00e44ae23bf19d39a769511e091a5e9c24f1691", func := "example.com/revtrail/revtrail/zzlaws_internal_diff_b1.FnMiddleCutShortStaysInsideWithinItsBudget", spec := "fnMiddleCutShortStaysInsideWithinItsBudget", apart := false }
def FnMiddleCutShortStaysInsideWithinItsBudgetSaid : Prop := fnMiddleCutShortStaysInsideWithinItsBudgetRow.holds Try.pinned (OpenSpec.ofChange fnMiddleCutShortStaysInsideWithinItsBudgetSpec)

/-- ITS FALSE NEIGHBOUR: 'it returns false'. Refute it at one input. -/
def fnMiddleCutShortStaysInsideWithinItsBudgetWrong : ChangeSpec := { name := "fnMiddleCutShortStaysInsideWithinItsBudget", fn := fun _ => fun
  | [d1, d2, d3, d4, d5, d6, d7] => { results := [.lit (.bool false)], args := [d1, d2, d3, d4, d5, d6, d7] }
  | _ => none }
def FnMiddleCutShortStaysInsideWithinItsBudgetWrongFalsely : Prop := fnMiddleCutShortStaysInsideWithinItsBudgetRow.holds Try.pinned (OpenSpec.ofChange fnMiddleCutShortStaysInsideWithinItsBudgetWrong)

end Rows
end Go.Proofs.Qxb6603371a
