/-
  No cell of these rows narrows 'for every input' (looked for: loops, veiled, ifaces, maps, wideKeys, modest, calm, conditions, laid).
  DERIVED. THE GIVEN ROWS OF THIS SEAT. 2 by the template 'for every input the law returns true; each argument reads behind the call as it read before'; 0 by the template 'total and deterministic' (their statements: Qxb6000837aTotals.lean).
  GIVEN WITH THE SEED: the statements are not yours to turn. If you find one false, say at which input.
  Laid BY PROGRAM, IN A SANDBOX (cutbox-rows.mjs): the forced cells as the released guide's own fill.sh prints them over the translation 631c4e4ed31ee9b5… (all of the seat's roots in one cut). By AI agents, Wed Nov 11 2026. No macro, syntax, notation, axiom, sorry.
-/
import Derived.Test.Qxb6000837aChecked
import GoSem.Claim
import GoSem.ClaimJoined
import GoSem.ClaimMapViews
import Derived.JoinedTies
import Derived.KernelRfl
namespace Go.Proofs.Qxb6000837a
/- THE CELL 'sum', in the pinned program and in every row, IS THE sha256 OF THE DUMP (.gsa) THAT Qxb6000837aProg.lean LOADS. Nothing in Lean hashes anything: it is a label: what it is worth is what the hold of that sum in a sandbox is worth. -/
noncomputable def Try.pinned : Pinned := { name := "qxb6000837a", sum := "631c4e4ed31ee9b5bc23f292397f72ed0e720823d44b9767672234f247b75b2b", checked := Try.checked }
namespace Rows
def none {H : Type} : Left H := { results := [], args := [] }

/-- 'zzlaws_root_b1.FnIsDigitsExactlyAsciiDigits': WHATEVER THE INPUT: true; the input reads as it did. -/
def fnIsDigitsExactlyAsciiDigitsSpec : ChangeSpec := { name := "fnIsDigitsExactlyAsciiDigits", fn := fun _ => fun
  | [d] => { results := [.lit (.bool true)], args := [d] }
  | _ => none }
def fnIsDigitsExactlyAsciiDigitsRow : OpenClaim := { program := "qxb6000837a", sum := "631c4e4ed31ee9b5bc23f292397f72ed0e720823d44b9767672234f247b75b2b", func := "example.com/vestline/vestline/zzlaws_root_b1.FnIsDigitsExactlyAsciiDigits", spec := "fnIsDigitsExactlyAsciiDigits", apart := false }
def FnIsDigitsExactlyAsciiDigitsSaid : Prop := fnIsDigitsExactlyAsciiDigitsRow.holds Try.pinned (OpenSpec.ofChange fnIsDigitsExactlyAsciiDigitsSpec)

/-- ITS FALSE NEIGHBOUR: 'it returns false'. Refute it at one input. -/
def fnIsDigitsExactlyAsciiDigitsWrong : ChangeSpec := { name := "fnIsDigitsExactlyAsciiDigits", fn := fun _ => fun
  | [d] => { results := [.lit (.bool false)], args := [d] }
  | _ => none }
def FnIsDigitsExactlyAsciiDigitsWrongFalsely : Prop := fnIsDigitsExactlyAsciiDigitsRow.holds Try.pinned (OpenSpec.ofChange fnIsDigitsExactlyAsciiDigitsWrong)

/-- 'zzlaws_root_b1.FnIsDigitsConcat': WHATEVER THE INPUT: true; the input reads as it did. -/
def fnIsDigitsConcatSpec : ChangeSpec := { name := "fnIsDigitsConcat", fn := fun _ => fun
  | [d1, d2] => { results := [.lit (.bool true)], args := [d1, d2] }
  | _ => none }
def fnIsDigitsConcatRow : OpenClaim := { program := "qxb6000837a", sum := "631c4e4ed31ee9b5bc23f292397f72ed0e720823d44b9767672234f247b75b2b", func := "example.com/vestline/vestline/zzlaws_root_b1.FnIsDigitsConcat", spec := "fnIsDigitsConcat", apart := false }
def FnIsDigitsConcatSaid : Prop := fnIsDigitsConcatRow.holds Try.pinned (OpenSpec.ofChange fnIsDigitsConcatSpec)

/-- ITS FALSE NEIGHBOUR: 'it returns false'. Refute it at one input. -/
def fnIsDigitsConcatWrong : ChangeSpec := { name := "fnIsDigitsConcat", fn := fun _ => fun
  | [d1, d2] => { results := [.lit (.bool false)], args := [d1, d2] }
  | _ => none }
def FnIsDigitsConcatWrongFalsely : Prop := fnIsDigitsConcatRow.holds Try.pinned (OpenSpec.ofChange fnIsDigitsConcatWrong)

end Rows
end Go.Proofs.Qxb6000837a
