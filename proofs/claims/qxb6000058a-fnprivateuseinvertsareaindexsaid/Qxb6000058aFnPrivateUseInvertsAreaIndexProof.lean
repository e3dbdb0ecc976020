/-
  Rows.FnPrivateUseInvertsAreaIndexSaid: the walk over the contracts of Qxb6000058aCalls; the frame is the kit's shell for this function.
-/
import Derived.Test.Qxb6000058aCalls
import Derived.WalkKit
import Derived.ProofKit
import Derived.OpenShut
import Derived.ShutString
namespace Go.Proofs.Qxb6000058a.fnPrivateUseInvertsAreaIndex
open Go.ChangeShapes Go.WideShapes Go.ChangeAt Go.RowKit
open Go.ChangeMaps (open_string shut_string)
set_option linter.unusedVariables false      -- a walk need not use every 'w<i>' (that an integer argument fits its kind)

theorem own : ownKnob Try.prog.godebug = none := by kernel_rfl

theorem grown_drewN {W w' : World} {k : Nat} (h : Grown W w') : Grown W (w'.drewN k) := h

/-! ### STEP 1: THE WALK: the Go text returns true. 'Grown w w'': the world has at most new blocks (Derived/RowKit3.lean). Part the cases AHEAD of 'go_enter' where a test parts the walk; take each callee by a contract of your own. -/
theorem walk (a0 : Int) (w0 : (Lit.int .i32 a0).wf = true) (w : World) :
    Calls Try.prog 8 #[.int .i32 a0] w fun e w' => e = .returned (.bool true) ∧ Grown w w' := by
  by_cases c1 : a0 < 57344
  · go_enter Try.func8, Try.ntmps8
    go_wp2
    go_ret
    exact ⟨rfl, by repeat (first | exact Grown.refl _ | apply Grown.drew | apply Grown.alloc)⟩
  by_cases c2 : 59237 < a0
  · go_enter Try.func8, Try.ntmps8
    go_wp2
    go_ret
    exact ⟨rfl, by repeat (first | exact Grown.refl _ | apply Grown.drew | apply Grown.alloc)⟩
  by_cases c3 : a0 - 57344 < 564
  · have e1 : clen 2 (170 + (a0 - 57344) / 94) (161 + (a0 - 57344) % 94) = 2 := clen_2 (by omega) (by omega) (by omega)
    have e2 : puse (170 + (a0 - 57344) / 94) (161 + (a0 - 57344) % 94) = (a0, true) := by unfold puse; rw [if_pos (by omega)]; exact Prod.ext (by simp only []; omega) rfl
    go_enter Try.func8, Try.ntmps8
    go_wp2_with fail
    refine (zcode_any w.heap.size 0 2 2 (170 + (a0 - 57344) / 94) (161 + (a0 - 57344) % 94) (by omega) (by omega) (by omega) (by omega) (by omega) _ (by simp) (by simp)).mono ?_
    rintro e w' ⟨rfl, rfl⟩
    rw [e1]
    go_wp2_with fail
    refine (zpriv_two w.heap.size 0 2 (170 + (a0 - 57344) / 94) (161 + (a0 - 57344) % 94) (by omega) (by omega) (by omega) (by omega) _ (by simp) (by simp)).mono ?_
    rintro e w' ⟨rfl, k, rfl⟩
    rw [e2]
    go_wp2
    go_ret
    exact ⟨rfl, grown_drewN ((Grown.refl _).alloc _ _)⟩
  by_cases c4 : a0 - 57344 < 1222
  · have e1 : clen 2 (248 + (a0 - 57344 - 564) / 94) (161 + (a0 - 57344 - 564) % 94) = 2 := clen_2 (by omega) (by omega) (by omega)
    have e2 : puse (248 + (a0 - 57344 - 564) / 94) (161 + (a0 - 57344 - 564) % 94) = (a0, true) := by unfold puse; rw [if_neg (by omega), if_pos (by omega)]; exact Prod.ext (by simp only []; omega) rfl
    go_enter Try.func8, Try.ntmps8
    go_wp2_with fail
    refine (zcode_any w.heap.size 0 2 2 (248 + (a0 - 57344 - 564) / 94) (161 + (a0 - 57344 - 564) % 94) (by omega) (by omega) (by omega) (by omega) (by omega) _ (by simp) (by simp)).mono ?_
    rintro e w' ⟨rfl, rfl⟩
    rw [e1]
    go_wp2_with fail
    refine (zpriv_two w.heap.size 0 2 (248 + (a0 - 57344 - 564) / 94) (161 + (a0 - 57344 - 564) % 94) (by omega) (by omega) (by omega) (by omega) _ (by simp) (by simp)).mono ?_
    rintro e w' ⟨rfl, k, rfl⟩
    rw [e2]
    go_wp2
    go_ret
    exact ⟨rfl, grown_drewN ((Grown.refl _).alloc _ _)⟩
  by_cases c5 : 127 ≤ 64 + (a0 - 57344 - 1222) % 96
  · have e1 : clen 2 (161 + (a0 - 57344 - 1222) / 96) (64 + (a0 - 57344 - 1222) % 96 + 1) = 2 := clen_2 (by omega) (by omega) (by omega)
    have e2 : puse (161 + (a0 - 57344 - 1222) / 96) (64 + (a0 - 57344 - 1222) % 96 + 1) = (a0, true) := by unfold puse; rw [if_neg (by omega), if_neg (by omega), if_pos (by omega), if_pos (by omega)]; exact Prod.ext (by simp only []; omega) rfl
    go_enter Try.func8, Try.ntmps8
    go_wp2_with fail
    refine (zcode_any w.heap.size 0 2 2 (161 + (a0 - 57344 - 1222) / 96) (64 + (a0 - 57344 - 1222) % 96 + 1) (by omega) (by omega) (by omega) (by omega) (by omega) _ (by simp) (by simp)).mono ?_
    rintro e w' ⟨rfl, rfl⟩
    rw [e1]
    go_wp2_with fail
    refine (zpriv_two w.heap.size 0 2 (161 + (a0 - 57344 - 1222) / 96) (64 + (a0 - 57344 - 1222) % 96 + 1) (by omega) (by omega) (by omega) (by omega) _ (by simp) (by simp)).mono ?_
    rintro e w' ⟨rfl, k, rfl⟩
    rw [e2]
    go_wp2
    go_ret
    exact ⟨rfl, grown_drewN ((Grown.refl _).alloc _ _)⟩
  have e1 : clen 2 (161 + (a0 - 57344 - 1222) / 96) (64 + (a0 - 57344 - 1222) % 96) = 2 := clen_2 (by omega) (by omega) (by omega)
  have e2 : puse (161 + (a0 - 57344 - 1222) / 96) (64 + (a0 - 57344 - 1222) % 96) = (a0, true) := by unfold puse; rw [if_neg (by omega), if_neg (by omega), if_pos (by omega), if_neg (by omega)]; exact Prod.ext (by simp only []; omega) rfl
  go_enter Try.func8, Try.ntmps8
  go_wp2_with fail
  refine (zcode_any w.heap.size 0 2 2 (161 + (a0 - 57344 - 1222) / 96) (64 + (a0 - 57344 - 1222) % 96) (by omega) (by omega) (by omega) (by omega) (by omega) _ (by simp) (by simp)).mono ?_
  rintro e w' ⟨rfl, rfl⟩
  rw [e1]
  go_wp2_with fail
  refine (zpriv_two w.heap.size 0 2 (161 + (a0 - 57344 - 1222) / 96) (64 + (a0 - 57344 - 1222) % 96) (by omega) (by omega) (by omega) (by omega) _ (by simp) (by simp)).mono ?_
  rintro e w' ⟨rfl, k, rfl⟩
  rw [e2]
  go_wp2
  go_ret
  exact ⟨rfl, grown_drewN ((Grown.refl _).alloc _ _)⟩

/-! ### THE ROW's STEP: WRITTEN OUT: LEAVE IT -/
set_option maxRecDepth 100000 in
theorem lifted (os : Os) (started : os.Started) (H : Type) (enc : TypeId × Value → H) :
    ReturnsInHanded {} Try.checked os 8 .any (Rows.fnPrivateUseInvertsAreaIndexSpec.pre6 enc Try.prog Try.f8 Rows.fnPrivateUseInvertsAreaIndexRow.domain false) (Rows.fnPrivateUseInvertsAreaIndexSpec.post enc Try.prog Try.f8 false true false false) := by
  refine returnsInHanded_of_change (C := Try.checked) own started (by kernel_rfl) Try.func8
    (ChangeSpec.witness6 (enc := enc) (C := Try.checked) false ⟨#[], #[.int .i32 0], []⟩ 8 (by kernel_rfl) (by kernel_rfl) (by kernel_rfl) (by kernel_rfl)) ?_
  intro W base args ds gs before hval0 hW hcnd _
  have hval : ∀ (j : Nat) t v, Try.f8.params[j]? = some t → args[j]? = some v → Value.okWide Try.prog W .any base t v := hval0
  have hW' := hW
  obtain ⟨p, q, hA0, hV, rfl, hfz, hnd⟩ := hW
  have hA : DataW.TrodAll enc Try.prog W 0 (fun _ => true) true Try.f8.params.toList args.toList ds p := hA0
  rw [Try.params8] at hA hval
  obtain ⟨v0, vs0, d0, ds0, p0, q0, hargs, rfl, rfl, h0, r0⟩ := trodAll_cons hA
  obtain ⟨rfl, rfl, rfl⟩ := trodAll_nil r0
  obtain rfl : args = #[v0] := by cases args; simp_all
  obtain ⟨rfl, rfl⟩ := trodVars_none hV
  obtain ⟨a0, rfl, rfl, rfl, w0⟩ := open_int Try.underlying21 (hval 0 21 v0 rfl rfl) h0
  clear hA0 hval0
  simp only [List.append_nil] at hW'
  refine (walk a0 w0 W).mono fun e W' ⟨he, hg⟩ => ?_
  subst he
  exact ⟨_, rfl, post_of_same (pa := []) (pv := []) hW' (fun _ _ _ => (trodAll_cons_mk (shut_bool Try.underlying4 _) trodAll_mk0)) (fun sp _ => (trodAll_cons_mk (shut_int Try.underlying21 w0) trodAll_mk0)) (fun _ _ => rfl) rfl
    (hg.frame _) hg.2.1 (ok_one (by kernel_rfl) rfl (okWide_bool_mk Try.underlying4 _))⟩

theorem over : Rows.fnPrivateUseInvertsAreaIndexRow.holds Try.pinned (OpenSpec.ofChange Rows.fnPrivateUseInvertsAreaIndexSpec) :=
  OpenClaim.holds_of_wide 8 Try.f8 rfl rfl rfl rfl rfl rfl rfl ⟨rfl, rfl, rfl, rfl, rfl⟩ rfl rfl rfl rfl rfl (by kernel_rfl) Try.func8 (by kernel_rfl)
    (of_decide_eq_true (by kernel_rfl)) (by unfold Func.isWrapper; first | (rw [if_pos (by decide +kernel)]; kernel_rfl) | (rw [if_neg (by decide +kernel)]; exact ⟨rfl, rfl⟩))
    (fun os started H enc _ => lifted os started H enc)

/-- ████ THE STATEMENT ████ -/
theorem proved : Rows.FnPrivateUseInvertsAreaIndexSaid :=
  over
#print axioms proved
end Go.Proofs.Qxb6000058a.fnPrivateUseInvertsAreaIndex
