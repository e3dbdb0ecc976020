/-
  No cell of these rows narrows 'for every input' (looked for: loops, veiled, ifaces, maps, wideKeys, modest, calm, conditions, laid).
  DERIVED. THE GIVEN ROWS OF THIS SEAT. 3 by the template 'for every input the law returns true; each argument reads behind the call as it read before'; 0 by the template 'total and deterministic' (their statements: Qxb6002399aTotals.lean).
  GIVEN WITH THE SEED: the statements are not yours to turn. If you find one false, say at which input.
  Laid BY PROGRAM, IN A SANDBOX (cutbox-rows.mjs): the forced cells as the released guide's own fill.sh prints them over the translation e2fb89c8cd09cbbc… (all of the seat's roots in one cut). By AI agents, Wed Nov 11 2026. No macro, syntax, notation, axiom, sorry.
-/
import Derived.Test.Qxb6002399aChecked
import GoSem.Claim
import GoSem.ClaimJoined
import GoSem.ClaimMapViews
import Derived.JoinedTies
import Derived.KernelRfl
namespace Go.Proofs.Qxb6002399a
/- THE CELL 'sum', in the pinned program and in every row, IS THE sha256 OF THE DUMP (.gsa) THAT Qxb6002399aProg.lean LOADS. Nothing in Lean hashes anything: it is a label: what it is worth is what the hold of that sum in a sandbox is worth. -/
noncomputable def Try.pinned : Pinned := { name := "qxb6002399a", sum := "e2fb89c8cd09cbbc560551ad8e612a8fd0f4f757b25d48b6031533bba0832f8b", checked := Try.checked }
namespace Rows
def none {H : Type} : Left H := { results := [], args := [] }

/-- 'zzlaws_internal_yaml_g1.FnMergeIsDisjointUnion': WHATEVER THE INPUT: true; the input reads as it did. -/
def fnMergeIsDisjointUnionSpec : ChangeSpec := { name := "fnMergeIsDisjointUnion", fn := fun _ => fun
  | [d1, d2] => { results := [.lit (.bool true)], args := [d1, d2] }
  | _ => none }
def fnMergeIsDisjointUnionRow : OpenClaim := { program := "qxb6002399a", sum := "e2fb89c8cd09cbbc560551ad8e612a8fd0f4f757b25d48b6031533bba0832f8b", func := "example.com/oropendola/oropendola/zzlaws_internal_yaml_g1.FnMergeIsDisjointUnion", spec := "fnMergeIsDisjointUnion", apart := false }
def FnMergeIsDisjointUnionSaid : Prop := fnMergeIsDisjointUnionRow.holds Try.pinned (OpenSpec.ofChange fnMergeIsDisjointUnionSpec)

/-- ITS FALSE NEIGHBOUR: 'it returns false'. Refute it at one input. -/
def fnMergeIsDisjointUnionWrong : ChangeSpec := { name := "fnMergeIsDisjointUnion", fn := fun _ => fun
  | [d1, d2] => { results := [.lit (.bool false)], args := [d1, d2] }
  | _ => none }
def FnMergeIsDisjointUnionWrongFalsely : Prop := fnMergeIsDisjointUnionRow.holds Try.pinned (OpenSpec.ofChange fnMergeIsDisjointUnionWrong)

/-- 'zzlaws_internal_yaml_g1.FnMergeCommutes': WHATEVER THE INPUT: true; the input reads as it did. -/
def fnMergeCommutesSpec : ChangeSpec := { name := "fnMergeCommutes", fn := fun _ => fun
  | [d1, d2] => { results := [.lit (.bool true)], args := [d1, d2] }
  | _ => none }
def fnMergeCommutesRow : OpenClaim := { program := "qxb6002399a", sum := "e2fb89c8cd09cbbc560551ad8e612a8fd0f4f757b25d48b6031533bba0832f8b", func := "example.com/oropendola/oropendola/zzlaws_internal_yaml_g1.FnMergeCommutes", spec := "fnMergeCommutes", apart := false }
def FnMergeCommutesSaid : Prop := fnMergeCommutesRow.holds Try.pinned (OpenSpec.ofChange fnMergeCommutesSpec)

/-- ITS FALSE NEIGHBOUR: 'it returns false'. Refute it at one input. -/
def fnMergeCommutesWrong : ChangeSpec := { name := "fnMergeCommutes", fn := fun _ => fun
  | [d1, d2] => { results := [.lit (.bool false)], args := [d1, d2] }
  | _ => none }
def FnMergeCommutesWrongFalsely : Prop := fnMergeCommutesRow.holds Try.pinned (OpenSpec.ofChange fnMergeCommutesWrong)

/-- 'zzlaws_internal_yaml_g1.FnMergeAssociates': WHATEVER THE INPUT: true; the input reads as it did. -/
def fnMergeAssociatesSpec : ChangeSpec := { name := "fnMergeAssociates", fn := fun _ => fun
  | [d1, d2, d3] => { results := [.lit (.bool true)], args := [d1, d2, d3] }
  | _ => none }
def fnMergeAssociatesRow : OpenClaim := { program := "qxb6002399a", sum := "e2fb89c8cd09cbbc560551ad8e612a8fd0f4f757b25d48b6031533bba0832f8b", func := "example.com/oropendola/oropendola/zzlaws_internal_yaml_g1.FnMergeAssociates", spec := "fnMergeAssociates", apart := false }
def FnMergeAssociatesSaid : Prop := fnMergeAssociatesRow.holds Try.pinned (OpenSpec.ofChange fnMergeAssociatesSpec)

/-- ITS FALSE NEIGHBOUR: 'it returns false'. Refute it at one input. -/
def fnMergeAssociatesWrong : ChangeSpec := { name := "fnMergeAssociates", fn := fun _ => fun
  | [d1, d2, d3] => { results := [.lit (.bool false)], args := [d1, d2, d3] }
  | _ => none }
def FnMergeAssociatesWrongFalsely : Prop := fnMergeAssociatesRow.holds Try.pinned (OpenSpec.ofChange fnMergeAssociatesWrong)

end Rows
end Go.Proofs.Qxb6002399a
