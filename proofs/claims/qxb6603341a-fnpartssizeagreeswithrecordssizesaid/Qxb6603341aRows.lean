/-
  No cell of these rows narrows 'for every input' (looked for: loops, veiled, ifaces, maps, wideKeys, modest, calm, conditions, laid).
  DERIVED. THE GIVEN ROWS OF THIS SEAT. 3 by the template 'for every input the law returns true; each argument reads behind the call as it read before'; 0 by the template 'total and deterministic' (their statements: Qxb6603341aTotals.lean).
  GIVEN WITH THE SEED: the statements are not yours to turn. If you find one false, say at which input.
  Laid BY PROGRAM, IN A SANDBOX (cutbox-rows.mjs): the forced cells as the released guide's own fill.sh prints them over the translation eab0fa31e2a9dac1… (all of the seat's roots in one cut). By AI agents, Wed Nov 11 2026. No macro, syntax, notation, axiom, sorry.
-/
import Derived.Test.Qxb6603341aChecked
import GoSem.Claim
import GoSem.ClaimJoined
import GoSem.ClaimMapViews
import Derived.JoinedTies
import Derived.KernelRfl
namespace Go.Proofs.Qxb6603341a
/- THE CELL 'sum', in the pinned program and in every row, IS THE sha256 OF THE DUMP (.gsa) THAT Qxb6603341aProg.lean LOADS. Nothing in Lean hashes anything: it is a label: what it is worth is what the hold of that sum in a sandbox is worth. -/
noncomputable def Try.pinned : Pinned := { name := "qxb6603341a", sum := "eab0fa31e2a9dac1819cdf2e96610f85b930d4e8912584209fa5d01e6aa84467", checked := Try.checked }
namespace Rows
def none {H : Type} : Left H := { results := [], args := [] }

/-- 'zzlaws_internal_wire_b1.FnReplyIdempotentAndNeverWithdrawOrStatus': WHATEVER THE INPUT: true; the input reads as it did. -/
def fnReplyIdempotentAndNeverWithdrawOrStatusSpec : ChangeSpec := { name := "fnReplyIdempotentAndNeverWithdrawOrStatus", fn := fun _ => fun
  | [d] => { results := [.lit (.bool true)], args := [d] }
  | _ => none }
def fnReplyIdempotentAndNeverWithdrawOrStatusRow : OpenClaim := { program := "qxb6603341a", sum := "eab0fa31e2a9dac1819cdf2e96610f85b930d4e8912584209fa5d01e6aa84467", func := "example.com/stele/stele/zzlaws_internal_wire_b1.FnReplyIdempotentAndNeverWithdrawOrStatus", spec := "fnReplyIdempotentAndNeverWithdrawOrStatus", apart := false }
def FnReplyIdempotentAndNeverWithdrawOrStatusSaid : Prop := fnReplyIdempotentAndNeverWithdrawOrStatusRow.holds Try.pinned (OpenSpec.ofChange fnReplyIdempotentAndNeverWithdrawOrStatusSpec)

/-- ITS FALSE NEIGHBOUR: 'it returns false'. Refute it at one input. -/
def fnReplyIdempotentAndNeverWithdrawOrStatusWrong : ChangeSpec := { name := "fnReplyIdempotentAndNeverWithdrawOrStatus", fn := fun _ => fun
  | [d] => { results := [.lit (.bool false)], args := [d] }
  | _ => none }
def FnReplyIdempotentAndNeverWithdrawOrStatusWrongFalsely : Prop := fnReplyIdempotentAndNeverWithdrawOrStatusRow.holds Try.pinned (OpenSpec.ofChange fnReplyIdempotentAndNeverWithdrawOrStatusWrong)

/-- 'zzlaws_internal_wire_b1.FnRecordsSizeAdditiveOverConcatenation': WHATEVER THE INPUT: true; the input reads as it did. -/
def fnRecordsSizeAdditiveOverConcatenationSpec : ChangeSpec := { name := "fnRecordsSizeAdditiveOverConcatenation", fn := fun _ => fun
  | [d1, d2] => { results := [.lit (.bool true)], args := [d1, d2] }
  | _ => none }
def fnRecordsSizeAdditiveOverConcatenationRow : OpenClaim := { program := "qxb6603341a", sum := "eab0fa31e2a9dac1819cdf2e96610f85b930d4e8912584209fa5d01e6aa84467", func := "example.com/stele/stele/zzlaws_internal_wire_b1.FnRecordsSizeAdditiveOverConcatenation", spec := "fnRecordsSizeAdditiveOverConcatenation", apart := false }
def FnRecordsSizeAdditiveOverConcatenationSaid : Prop := fnRecordsSizeAdditiveOverConcatenationRow.holds Try.pinned (OpenSpec.ofChange fnRecordsSizeAdditiveOverConcatenationSpec)

/-- ITS FALSE NEIGHBOUR: 'it returns false'. Refute it at one input. -/
def fnRecordsSizeAdditiveOverConcatenationWrong : ChangeSpec := { name := "fnRecordsSizeAdditiveOverConcatenation", fn := fun _ => fun
  | [d1, d2] => { results := [.lit (.bool false)], args := [d1, d2] }
  | _ => none }
def FnRecordsSizeAdditiveOverConcatenationWrongFalsely : Prop := fnRecordsSizeAdditiveOverConcatenationRow.holds Try.pinned (OpenSpec.ofChange fnRecordsSizeAdditiveOverConcatenationWrong)

/-- 'zzlaws_internal_wire_b1.FnPartsSizeAgreesWithRecordsSize': WHATEVER THE INPUT: true; the input reads as it did. -/
def fnPartsSizeAgreesWithRecordsSizeSpec : ChangeSpec := { name := "fnPartsSizeAgreesWithRecordsSize", fn := fun _ => fun
  | [d1, d2, d3, d4] => { results := [.lit (.bool true)], args := [d1, d2, d3, d4] }
  | _ => none }
def fnPartsSizeAgreesWithRecordsSizeRow : OpenClaim := { program := "qxb6603341a", sum := "eab0fa31e2a9dac1819cdf2e96610f85b930d4e8912584209fa5d01e6aa84467", func := "example.com/stele/stele/zzlaws_internal_wire_b1.FnPartsSizeAgreesWithRecordsSize", spec := "fnPartsSizeAgreesWithRecordsSize", apart := false }
def FnPartsSizeAgreesWithRecordsSizeSaid : Prop := fnPartsSizeAgreesWithRecordsSizeRow.holds Try.pinned (OpenSpec.ofChange fnPartsSizeAgreesWithRecordsSizeSpec)

/-- ITS FALSE NEIGHBOUR: 'it returns false'. Refute it at one input. -/
def fnPartsSizeAgreesWithRecordsSizeWrong : ChangeSpec := { name := "fnPartsSizeAgreesWithRecordsSize", fn := fun _ => fun
  | [d1, d2, d3, d4] => { results := [.lit (.bool false)], args := [d1, d2, d3, d4] }
  | _ => none }
def FnPartsSizeAgreesWithRecordsSizeWrongFalsely : Prop := fnPartsSizeAgreesWithRecordsSizeRow.holds Try.pinned (OpenSpec.ofChange fnPartsSizeAgreesWithRecordsSizeWrong)

end Rows
end Go.Proofs.Qxb6603341a
