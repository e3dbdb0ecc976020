/-
  No cell of these rows narrows 'for every input' (looked for: loops, veiled, ifaces, maps, wideKeys, modest, calm, conditions, laid).
  DERIVED. THE GIVEN ROWS OF THIS SEAT. 6 by the template 'for every input the law returns true; each argument reads behind the call as it read before'; 0 by the template 'total and deterministic' (their statements: Qxb6000058aTotals.lean).
  GIVEN WITH THE SEED: the statements are not yours to turn. If you find one false, say at which input.
  Laid BY PROGRAM, IN A SANDBOX (cutbox-rows.mjs): the forced cells as the released guide's own fill.sh prints them over the translation 9954d87a731c0011… (all of the seat's roots in one cut). By AI agents, Wed Nov 11 2026. No macro, syntax, notation, axiom, sorry.
-/
import Derived.Test.Qxb6000058aChecked
import GoSem.Claim
import GoSem.ClaimJoined
import GoSem.ClaimMapViews
import Derived.JoinedTies
import Derived.KernelRfl
namespace Go.Proofs.Qxb6000058a
/- THE CELL 'sum', in the pinned program and in every row, IS THE sha256 OF THE DUMP (.gsa) THAT Qxb6000058aProg.lean LOADS. Nothing in Lean hashes anything: it is a label: what it is worth is what the hold of that sum in a sandbox is worth. -/
noncomputable def Try.pinned : Pinned := { name := "qxb6000058a", sum := "9954d87a731c0011a33706ca04149a8a846f568adc5f249607fe0d3ab86c9c30", checked := Try.checked }
namespace Rows
def none {H : Type} : Left H := { results := [], args := [] }

/-- 'zzlaws_pkg_sheet_b1.FnCodeLengthMatchesShapeSearch': WHATEVER THE INPUT: true; the input reads as it did. -/
def fnCodeLengthMatchesShapeSearchSpec : ChangeSpec := { name := "fnCodeLengthMatchesShapeSearch", fn := fun _ => fun
  | [d] => { results := [.lit (.bool true)], args := [d] }
  | _ => none }
def fnCodeLengthMatchesShapeSearchRow : OpenClaim := { program := "qxb6000058a", sum := "9954d87a731c0011a33706ca04149a8a846f568adc5f249607fe0d3ab86c9c30", func := "example.com/vestbook/vestbook/zzlaws_pkg_sheet_b1.FnCodeLengthMatchesShapeSearch", spec := "fnCodeLengthMatchesShapeSearch", apart := false }
def FnCodeLengthMatchesShapeSearchSaid : Prop := fnCodeLengthMatchesShapeSearchRow.holds Try.pinned (OpenSpec.ofChange fnCodeLengthMatchesShapeSearchSpec)

/-- ITS FALSE NEIGHBOUR: 'it returns false'. Refute it at one input. -/
def fnCodeLengthMatchesShapeSearchWrong : ChangeSpec := { name := "fnCodeLengthMatchesShapeSearch", fn := fun _ => fun
  | [d] => { results := [.lit (.bool false)], args := [d] }
  | _ => none }
def FnCodeLengthMatchesShapeSearchWrongFalsely : Prop := fnCodeLengthMatchesShapeSearchRow.holds Try.pinned (OpenSpec.ofChange fnCodeLengthMatchesShapeSearchWrong)

/-- 'zzlaws_pkg_sheet_b1.FnCodeLengthIsAWholeCodeWithinB': WHATEVER THE INPUT: true; the input reads as it did. -/
def fnCodeLengthIsAWholeCodeWithinBSpec : ChangeSpec := { name := "fnCodeLengthIsAWholeCodeWithinB", fn := fun _ => fun
  | [d] => { results := [.lit (.bool true)], args := [d] }
  | _ => none }
def fnCodeLengthIsAWholeCodeWithinBRow : OpenClaim := { program := "qxb6000058a", sum := "9954d87a731c0011a33706ca04149a8a846f568adc5f249607fe0d3ab86c9c30", func := "example.com/vestbook/vestbook/zzlaws_pkg_sheet_b1.FnCodeLengthIsAWholeCodeWithinB", spec := "fnCodeLengthIsAWholeCodeWithinB", apart := false }
def FnCodeLengthIsAWholeCodeWithinBSaid : Prop := fnCodeLengthIsAWholeCodeWithinBRow.holds Try.pinned (OpenSpec.ofChange fnCodeLengthIsAWholeCodeWithinBSpec)

/-- ITS FALSE NEIGHBOUR: 'it returns false'. Refute it at one input. -/
def fnCodeLengthIsAWholeCodeWithinBWrong : ChangeSpec := { name := "fnCodeLengthIsAWholeCodeWithinB", fn := fun _ => fun
  | [d] => { results := [.lit (.bool false)], args := [d] }
  | _ => none }
def FnCodeLengthIsAWholeCodeWithinBWrongFalsely : Prop := fnCodeLengthIsAWholeCodeWithinBRow.holds Try.pinned (OpenSpec.ofChange fnCodeLengthIsAWholeCodeWithinBWrong)

/-- 'zzlaws_pkg_sheet_b1.FnCodeLengthHangsOnlyOnItsCode': WHATEVER THE INPUT: true; the input reads as it did. -/
def fnCodeLengthHangsOnlyOnItsCodeSpec : ChangeSpec := { name := "fnCodeLengthHangsOnlyOnItsCode", fn := fun _ => fun
  | [d1, d2] => { results := [.lit (.bool true)], args := [d1, d2] }
  | _ => none }
def fnCodeLengthHangsOnlyOnItsCodeRow : OpenClaim := { program := "qxb6000058a", sum := "9954d87a731c0011a33706ca04149a8a846f568adc5f249607fe0d3ab86c9c30", func := "example.com/vestbook/vestbook/zzlaws_pkg_sheet_b1.FnCodeLengthHangsOnlyOnItsCode", spec := "fnCodeLengthHangsOnlyOnItsCode", apart := false }
def FnCodeLengthHangsOnlyOnItsCodeSaid : Prop := fnCodeLengthHangsOnlyOnItsCodeRow.holds Try.pinned (OpenSpec.ofChange fnCodeLengthHangsOnlyOnItsCodeSpec)

/-- ITS FALSE NEIGHBOUR: 'it returns false'. Refute it at one input. -/
def fnCodeLengthHangsOnlyOnItsCodeWrong : ChangeSpec := { name := "fnCodeLengthHangsOnlyOnItsCode", fn := fun _ => fun
  | [d1, d2] => { results := [.lit (.bool false)], args := [d1, d2] }
  | _ => none }
def FnCodeLengthHangsOnlyOnItsCodeWrongFalsely : Prop := fnCodeLengthHangsOnlyOnItsCodeRow.holds Try.pinned (OpenSpec.ofChange fnCodeLengthHangsOnlyOnItsCodeWrong)

/-- 'zzlaws_pkg_sheet_b1.FnPrivateUseMatchesAreaWalk': WHATEVER THE INPUT: true; the input reads as it did. -/
def fnPrivateUseMatchesAreaWalkSpec : ChangeSpec := { name := "fnPrivateUseMatchesAreaWalk", fn := fun _ => fun
  | [d] => { results := [.lit (.bool true)], args := [d] }
  | _ => none }
def fnPrivateUseMatchesAreaWalkRow : OpenClaim := { program := "qxb6000058a", sum := "9954d87a731c0011a33706ca04149a8a846f568adc5f249607fe0d3ab86c9c30", func := "example.com/vestbook/vestbook/zzlaws_pkg_sheet_b1.FnPrivateUseMatchesAreaWalk", spec := "fnPrivateUseMatchesAreaWalk", apart := false }
def FnPrivateUseMatchesAreaWalkSaid : Prop := fnPrivateUseMatchesAreaWalkRow.holds Try.pinned (OpenSpec.ofChange fnPrivateUseMatchesAreaWalkSpec)

/-- ITS FALSE NEIGHBOUR: 'it returns false'. Refute it at one input. -/
def fnPrivateUseMatchesAreaWalkWrong : ChangeSpec := { name := "fnPrivateUseMatchesAreaWalk", fn := fun _ => fun
  | [d] => { results := [.lit (.bool false)], args := [d] }
  | _ => none }
def FnPrivateUseMatchesAreaWalkWrongFalsely : Prop := fnPrivateUseMatchesAreaWalkRow.holds Try.pinned (OpenSpec.ofChange fnPrivateUseMatchesAreaWalkWrong)

/-- 'zzlaws_pkg_sheet_b1.FnPrivateUseStaysInItsRange': WHATEVER THE INPUT: true; the input reads as it did. -/
def fnPrivateUseStaysInItsRangeSpec : ChangeSpec := { name := "fnPrivateUseStaysInItsRange", fn := fun _ => fun
  | [d] => { results := [.lit (.bool true)], args := [d] }
  | _ => none }
def fnPrivateUseStaysInItsRangeRow : OpenClaim := { program := "qxb6000058a", sum := "9954d87a731c0011a33706ca04149a8a846f568adc5f249607fe0d3ab86c9c30", func := "example.com/vestbook/vestbook/zzlaws_pkg_sheet_b1.FnPrivateUseStaysInItsRange", spec := "fnPrivateUseStaysInItsRange", apart := false }
def FnPrivateUseStaysInItsRangeSaid : Prop := fnPrivateUseStaysInItsRangeRow.holds Try.pinned (OpenSpec.ofChange fnPrivateUseStaysInItsRangeSpec)

/-- ITS FALSE NEIGHBOUR: 'it returns false'. Refute it at one input. -/
def fnPrivateUseStaysInItsRangeWrong : ChangeSpec := { name := "fnPrivateUseStaysInItsRange", fn := fun _ => fun
  | [d] => { results := [.lit (.bool false)], args := [d] }
  | _ => none }
def FnPrivateUseStaysInItsRangeWrongFalsely : Prop := fnPrivateUseStaysInItsRangeRow.holds Try.pinned (OpenSpec.ofChange fnPrivateUseStaysInItsRangeWrong)

/-- 'zzlaws_pkg_sheet_b1.FnPrivateUseInvertsAreaIndex': WHATEVER THE INPUT: true; the input reads as it did. -/
def fnPrivateUseInvertsAreaIndexSpec : ChangeSpec := { name := "fnPrivateUseInvertsAreaIndex", fn := fun _ => fun
  | [d] => { results := [.lit (.bool true)], args := [d] }
  | _ => none }
def fnPrivateUseInvertsAreaIndexRow : OpenClaim := { program := "qxb6000058a", sum := "9954d87a731c0011a33706ca04149a8a846f568adc5f249607fe0d3ab86c9c30", func := "example.com/vestbook/vestbook/zzlaws_pkg_sheet_b1.FnPrivateUseInvertsAreaIndex", spec := "fnPrivateUseInvertsAreaIndex", apart := false }
def FnPrivateUseInvertsAreaIndexSaid : Prop := fnPrivateUseInvertsAreaIndexRow.holds Try.pinned (OpenSpec.ofChange fnPrivateUseInvertsAreaIndexSpec)

/-- ITS FALSE NEIGHBOUR: 'it returns false'. Refute it at one input. -/
def fnPrivateUseInvertsAreaIndexWrong : ChangeSpec := { name := "fnPrivateUseInvertsAreaIndex", fn := fun _ => fun
  | [d] => { results := [.lit (.bool false)], args := [d] }
  | _ => none }
def FnPrivateUseInvertsAreaIndexWrongFalsely : Prop := fnPrivateUseInvertsAreaIndexRow.holds Try.pinned (OpenSpec.ofChange fnPrivateUseInvertsAreaIndexWrong)

end Rows
end Go.Proofs.Qxb6000058a
