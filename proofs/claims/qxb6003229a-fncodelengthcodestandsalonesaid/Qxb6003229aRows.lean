/-
  No cell of these rows narrows 'for every input' (looked for: loops, veiled, ifaces, maps, wideKeys, modest, calm, conditions, laid).
  DERIVED. THE GIVEN ROWS OF THIS SEAT. 3 by the template 'for every input the law returns true; each argument reads behind the call as it read before'; 0 by the template 'total and deterministic' (their statements: Qxb6003229aTotals.lean).
  GIVEN WITH THE SEED: the statements are not yours to turn. If you find one false, say at which input.
  Laid BY PROGRAM, IN A SANDBOX (cutbox-rows.mjs): the forced cells as the released guide's own fill.sh prints them over the translation e566009a052733cf… (all of the seat's roots in one cut). By AI agents, Wed Nov 11 2026. No macro, syntax, notation, axiom, sorry.
-/
import Derived.Test.Qxb6003229aChecked
import GoSem.Claim
import GoSem.ClaimJoined
import GoSem.ClaimMapViews
import Derived.JoinedTies
import Derived.KernelRfl
namespace Go.Proofs.Qxb6003229a
/- THE CELL 'sum', in the pinned program and in every row, IS THE sha256 OF THE DUMP (.gsa) THAT Qxb6003229aProg.lean LOADS. Nothing in Lean hashes anything: it is a label: what it is worth is what the hold of that sum in a sandbox is worth. -/
noncomputable def Try.pinned : Pinned := { name := "qxb6003229a", sum := "e566009a052733cf622e2173d72b41e5d338026b8af97b57d5d14b0ab52531b0", checked := Try.checked }
namespace Rows
def none {H : Type} : Left H := { results := [], args := [] }

/-- 'zzlaws_pkg_sheet_b1.FnCodeLengthCodeStandsAlone': WHATEVER THE INPUT: true; the input reads as it did. -/
def fnCodeLengthCodeStandsAloneSpec : ChangeSpec := { name := "fnCodeLengthCodeStandsAlone", fn := fun _ => fun
  | [d] => { results := [.lit (.bool true)], args := [d] }
  | _ => none }
def fnCodeLengthCodeStandsAloneRow : OpenClaim := { program := "qxb6003229a", sum := "e566009a052733cf622e2173d72b41e5d338026b8af97b57d5d14b0ab52531b0", func := "example.com/vestbook/vestbook/zzlaws_pkg_sheet_b1.FnCodeLengthCodeStandsAlone", spec := "fnCodeLengthCodeStandsAlone", apart := false }
def FnCodeLengthCodeStandsAloneSaid : Prop := fnCodeLengthCodeStandsAloneRow.holds Try.pinned (OpenSpec.ofChange fnCodeLengthCodeStandsAloneSpec)

/-- ITS FALSE NEIGHBOUR: 'it returns false'. Refute it at one input. -/
def fnCodeLengthCodeStandsAloneWrong : ChangeSpec := { name := "fnCodeLengthCodeStandsAlone", fn := fun _ => fun
  | [d] => { results := [.lit (.bool false)], args := [d] }
  | _ => none }
def FnCodeLengthCodeStandsAloneWrongFalsely : Prop := fnCodeLengthCodeStandsAloneRow.holds Try.pinned (OpenSpec.ofChange fnCodeLengthCodeStandsAloneWrong)

/-- 'zzlaws_pkg_sheet_b1.FnPrivateUseMatchesAreas': WHATEVER THE INPUT: true; the input reads as it did. -/
def fnPrivateUseMatchesAreasSpec : ChangeSpec := { name := "fnPrivateUseMatchesAreas", fn := fun _ => fun
  | [d] => { results := [.lit (.bool true)], args := [d] }
  | _ => none }
def fnPrivateUseMatchesAreasRow : OpenClaim := { program := "qxb6003229a", sum := "e566009a052733cf622e2173d72b41e5d338026b8af97b57d5d14b0ab52531b0", func := "example.com/vestbook/vestbook/zzlaws_pkg_sheet_b1.FnPrivateUseMatchesAreas", spec := "fnPrivateUseMatchesAreas", apart := false }
def FnPrivateUseMatchesAreasSaid : Prop := fnPrivateUseMatchesAreasRow.holds Try.pinned (OpenSpec.ofChange fnPrivateUseMatchesAreasSpec)

/-- ITS FALSE NEIGHBOUR: 'it returns false'. Refute it at one input. -/
def fnPrivateUseMatchesAreasWrong : ChangeSpec := { name := "fnPrivateUseMatchesAreas", fn := fun _ => fun
  | [d] => { results := [.lit (.bool false)], args := [d] }
  | _ => none }
def FnPrivateUseMatchesAreasWrongFalsely : Prop := fnPrivateUseMatchesAreasRow.holds Try.pinned (OpenSpec.ofChange fnPrivateUseMatchesAreasWrong)

/-- 'zzlaws_pkg_sheet_b1.FnPrivateUseInvertsEncoding': WHATEVER THE INPUT: true; the input reads as it did. -/
def fnPrivateUseInvertsEncodingSpec : ChangeSpec := { name := "fnPrivateUseInvertsEncoding", fn := fun _ => fun
  | [d] => { results := [.lit (.bool true)], args := [d] }
  | _ => none }
def fnPrivateUseInvertsEncodingRow : OpenClaim := { program := "qxb6003229a", sum := "e566009a052733cf622e2173d72b41e5d338026b8af97b57d5d14b0ab52531b0", func := "example.com/vestbook/vestbook/zzlaws_pkg_sheet_b1.FnPrivateUseInvertsEncoding", spec := "fnPrivateUseInvertsEncoding", apart := false }
def FnPrivateUseInvertsEncodingSaid : Prop := fnPrivateUseInvertsEncodingRow.holds Try.pinned (OpenSpec.ofChange fnPrivateUseInvertsEncodingSpec)

/-- ITS FALSE NEIGHBOUR: 'it returns false'. Refute it at one input. -/
def fnPrivateUseInvertsEncodingWrong : ChangeSpec := { name := "fnPrivateUseInvertsEncoding", fn := fun _ => fun
  | [d] => { results := [.lit (.bool false)], args := [d] }
  | _ => none }
def FnPrivateUseInvertsEncodingWrongFalsely : Prop := fnPrivateUseInvertsEncodingRow.holds Try.pinned (OpenSpec.ofChange fnPrivateUseInvertsEncodingWrong)

end Rows
end Go.Proofs.Qxb6003229a
