/-
  Rows.FnMergeIsDisjointUnionSaid: the frame by the pattern of the kit's shell for a law over slices; the walk lies in Qxb6002399aLaw.
-/
import Derived.Test.Qxb6002399aLaw
import Derived.Test.Qxb6002399aOpen
import Derived.WalkKit
import Derived.ProofKit
import Derived.OpenShut
import Derived.Carry
namespace Go.Proofs.Qxb6002399a.fnMergeIsDisjointUnion
open Go.ChangeShapes Go.WideShapes Go.ChangeAt Go.RowKit
set_option linter.unusedVariables false

theorem own : ownKnob Try.prog.godebug = none := by kernel_rfl
theorem laidOut : laidOutB Try.prog = true := by kernel_rfl

set_option maxRecDepth 100000 in
theorem lifted (os : Os) (started : os.Started) (H : Type) (enc : TypeId × Value → H) :
    ReturnsInHanded {} Try.checked os 3 .any (Rows.fnMergeIsDisjointUnionSpec.pre6 enc Try.prog Try.f3 Rows.fnMergeIsDisjointUnionRow.domain false) (Rows.fnMergeIsDisjointUnionSpec.post enc Try.prog Try.f3 false true false false) := by
  refine returnsInHanded_of_change (C := Try.checked) own started (by kernel_rfl) Try.func3
    (ChangeSpec.witness6 (enc := enc) (C := Try.checked) false ⟨#[], #[.agg #[.bool false, .bool false, .int .i64 0, .int .i64 0, .string ByteArray.empty, .bool false, .string ByteArray.empty, .int .i32 0, .string ByteArray.empty, .bool false], .agg #[.bool false, .bool false, .int .i64 0, .int .i64 0, .string ByteArray.empty, .bool false, .string ByteArray.empty, .int .i32 0, .string ByteArray.empty, .bool false]], []⟩ 8 (by kernel_rfl) (by kernel_rfl) (by kernel_rfl) (by kernel_rfl)) ?_
  intro W base args ds gs before hval0 hW hcnd _
  have hval : ∀ (j : Nat) t v, Try.f3.params[j]? = some t → args[j]? = some v → Value.okWide Try.prog W .any base t v := hval0
  have hW' := hW
  obtain ⟨p, q, hA0, hV, rfl, hfz, hnd⟩ := hW
  have hA : DataW.TrodAll enc Try.prog W 0 (fun _ => true) true Try.f3.params.toList args.toList ds p := hA0
  rw [Try.params3] at hA hval
  obtain ⟨v0, v1, d0, d1, p0, p1, rfl, rfl, rfl, h0, h1⟩ := trodAll_two hA
  obtain ⟨rfl, rfl⟩ := trodVars_none hV
  have k0 := h0
  have lt0 : ∀ x ∈ p0, x.block < W.heap.size := by obtain ⟨m, hm⟩ := k0; exact DataW.trod_lt m _ _ _ hm
  have k1 := h1
  have lt1 : ∀ x ∈ p1, x.block < W.heap.size := by obtain ⟨m, hm⟩ := k1; exact DataW.trod_lt m _ _ _ hm
  obtain ⟨hta, haa, taa, aaa, sfa, hpa, pta, pfa, ana, wna, rfl, s1, s2, s3⟩ := open_props (hval 0 23 v0 rfl rfl) h0
  obtain ⟨htb, hab, tab, aab, sfb, hpb, ptb, pfb, anb, wnb, rfl, s4, s5, s6⟩ := open_props (hval 1 23 v1 rfl rfl) h1
  clear hA0 hval0
  refine (law_any wna hta haa hpa wnb htb hab hpb taa aaa pfa tab aab pfb sfa pta ana sfb ptb anb W s1 s2 s3 s4 s5 s6).mono fun e W' ⟨he, bel⟩ => ?_
  subst he
  exact ⟨_, rfl, _, _, _, [], p0 ++ p1, [], hW', trodAll_mk1 (shut_bool Try.underlying4 _), trodAll_mk2 (Below.trod laidOut (by kernel_rfl) (of_decide_eq_true (by kernel_rfl)) k0 bel lt0) (Below.trod laidOut (by kernel_rfl) (of_decide_eq_true (by kernel_rfl)) k1 bel lt1), rfl, bel.frame _, fun h => by cases h⟩

theorem over : Rows.fnMergeIsDisjointUnionRow.holds Try.pinned (OpenSpec.ofChange Rows.fnMergeIsDisjointUnionSpec) :=
  OpenClaim.holds_of_wide 3 Try.f3 rfl rfl rfl rfl rfl rfl rfl ⟨rfl, rfl, rfl, rfl, rfl⟩ rfl rfl rfl rfl rfl (by kernel_rfl) Try.func3 (by kernel_rfl)
    (of_decide_eq_true (by kernel_rfl)) (by unfold Func.isWrapper; first | (rw [if_pos (by decide +kernel)]; kernel_rfl) | (rw [if_neg (by decide +kernel)]; exact ⟨rfl, rfl⟩))
    (fun os started H enc _ => lifted os started H enc)

/-- ████ THE STATEMENT ████ -/
theorem proved : Rows.FnMergeIsDisjointUnionSaid :=
  over
#print axioms proved
end Go.Proofs.Qxb6002399a.fnMergeIsDisjointUnion
