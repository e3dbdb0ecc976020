/-
  FnIsDigitsAcceptsWrittenIndex: the row (its listed tables a premise), and the tied card.
-/
import Derived.Test.Qxb6000837aDoorIndex
import Derived.Test.Qxb6000837aDoorLaid
import Derived.Test.Qxb6000837aDoorTie
import Derived.Test.Qxb6000837aDoorCards
import Derived.SevenTiedAt
namespace Go.Proofs.Qxb6000837aDoor
namespace index
open Go.ChangeShapes Go.WideShapes Go.ChangeAt Go.RowKit

set_option maxRecDepth 100000 in
theorem lifted (os : Os) (started : os.Started) (H : Type) (enc : TypeId × Value → H) :
    ReturnsInHanded {} Tryd.checked os 3 .any (fun w args => (Rows.fnIsDigitsAcceptsWrittenIndexSpec.pre enc Tryd.prog Tryd.f3 [] false w args ∧ laidMetH Tryd.prog tabs w) ∧ sizedMet enc Tryd.prog Tryd.f3 (OpenSpec.ofChange Rows.fnIsDigitsAcceptsWrittenIndexSpec) false w args)
      (Rows.fnIsDigitsAcceptsWrittenIndexSpec.post enc Tryd.prog Tryd.f3 false true false false) := by
  refine returnsInHanded_of_change_and (C := Tryd.checked) (X := fun w _ => laidMetH Tryd.prog tabs w) (fun _ _ _ hh h => h.of_heap hh) own started (by kernel_rfl) Tryd.func3
    (ChangeSpec.witness_shaped (enc := enc) (C := Tryd.checked) (os := os) (X := fun w _ => laidMetH Tryd.prog tabs w) false (World.doorLaid Tryd.prog 24 os) #[.int .i64 0] 8 rfl (World.shaped_of_RefB (by kernel_rfl) (by kernel_rfl)) (by kernel_rfl) (by kernel_rfl) (by kernel_rfl) (door_met os _)) ?_
  intro W base args ds gs before hval0 hW _ _ hL _
  have hval : ∀ (j : Nat) t v, Tryd.f3.params[j]? = some t → args[j]? = some v → Value.okWide Tryd.prog W .any base t v := hval0
  have hW' := hW
  obtain ⟨p, q, hA0, hV, rfl, hfz, hnd⟩ := hW
  have hA : DataW.TrodAll enc Tryd.prog W 0 (fun _ => true) true Tryd.f3.params.toList args.toList ds p := hA0
  rw [Tryd.params3] at hA hval
  obtain ⟨v0, d0, rfl, rfl, h0⟩ := trodAll_one hA
  obtain ⟨rfl, rfl⟩ := trodVars_none hV
  obtain ⟨a0, rfl, rfl, rfl, w0⟩ := open_int Tryd.underlying3 (hval 0 3 v0 rfl rfl) h0
  have bd := bounds_i64 w0
  have hT := pow_of_laid hL
  clear hA0 hval0
  refine (law_index a0 bd.1 bd.2 W hT).mono fun e W' ⟨he, bel⟩ => ?_
  subst he
  exact ⟨_, rfl, _, _, _, [], [], [], hW', trodAll_mk1 (shut_bool Tryd.underlying4 _), trodAll_mk1 (shut_int Tryd.underlying3 w0), rfl, bel.frame _, fun h => by cases h⟩

theorem row_holds : Rows.FnIsDigitsAcceptsWrittenIndexSaid :=
  OpenClaim.holds_of_wide 3 Tryd.f3 rfl rfl rfl rfl rfl rfl rfl ⟨rfl, rfl, rfl, rfl, rfl⟩ rfl rfl rfl rfl rfl (by kernel_rfl) Tryd.func3 (by kernel_rfl)
    (of_decide_eq_true (by kernel_rfl)) (by unfold Func.isWrapper; first | (rw [if_pos (by decide +kernel)]; kernel_rfl) | (rw [if_neg (by decide +kernel)]; exact ⟨rfl, rfl⟩))
    (fun os started H enc _ => lifted os started H enc)

theorem proved : Rows.FnIsDigitsAcceptsWrittenIndexCardSaid :=
  Claim7.holds_tied_plain_at .later [] [.data, .data, .data] true (true, "f8e19f2247e681f18af1d4d77fc27e92b0a567347984629380b40457c7e67a32") false
    row_holds (fun _ h => by cases h) (by kernel_rfl) (fun _ h => by cases h) fnIsDigitsAcceptsWrittenIndex_row_tie rfl ⟨rfl, rfl⟩ (by kernel_rfl) rfl
    (fun f fn hf hfn => by
      obtain rfl : f = 3 := Option.some.inj ((show Tryd.prog.funcNamed Rows.fnIsDigitsAcceptsWrittenIndexRow.func = some 3 by kernel_rfl).symm.trans hf) |>.symm
      obtain rfl : fn = Tryd.f3 := (Option.some.inj (Tryd.func3.symm.trans hfn)).symm
      exact ⟨by kernel_rfl, fun j t ht => by
        rw [Tryd.params3] at ht
        have hm : t ∈ [3] := by simpa using Array.mem_of_getElem? ht
        have hall : ([3].all fun u => !Tryd.prog.wantsStandIn u) = true := by kernel_rfl
        exact (show Tryd.prog.wantsStandIn t = false by simpa using List.all_eq_true.1 hall t hm)⟩)
    (by kernel_rfl)
#print axioms proved
end index
end Go.Proofs.Qxb6000837aDoor
