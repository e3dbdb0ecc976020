/-
  The walk of FnPrivateUseMatchesAreaWalk over the contracts.
-/
import Derived.Test.Qxb6000058aModel
import Derived.Test.Qxb6000058aCopy
import Derived.WalkKit
import Derived.ProofKit
import Derived.OpenShut
import Derived.ShutString
import Derived.ChangeOld
import Derived.Below
namespace Go.Proofs.Qxb6000058a.fnPrivateUseMatchesAreaWalk
open Go.ChangeShapes Go.WideShapes Go.ChangeAt Go.RowKit
open Go.ChangeMaps (open_string shut_string)
set_option linter.unusedVariables false

/-- WHAT THE WALK IS TOLD OF A SLICE OF INTEGERS THAT CAME IN: it is nil; or it leads to a row of 'cap' cells, the numbers 'zs' (the first 'len' are its elements, the rest its spare room), each fitting its kind. -/
def IsRow (k : IntKind) (w : World) (a : Option Addr) (len cap : Nat) (zs : List Int) : Prop :=
  (a = none ∧ len = 0 ∧ cap = 0 ∧ zs = []) ∨
  ∃ x, a = some x ∧ len ≤ cap ∧ cap ≤ maxLen ∧ zs.length = cap ∧ (∀ i, i < zs.length → w.cell? (x.add i) = some (.int k (zs.getD i 0))) ∧ ∀ n ∈ zs, (Lit.int k n).wf = true

theorem onward {w w' w2 : World} {k b : Nat} {X Y : Int} (h : w2 = w'.drewN k) (g0 : w'.cell? ⟨b, 0, none⟩ = some (.int .u8 X)) (g1 : w'.cell? ⟨b, 1, none⟩ = some (.int .u8 Y)) (HB : Hid (Below w.heap.size w w')) :
    w2.cell? ⟨b, 0, none⟩ = some (.int .u8 X) ∧ w2.cell? ⟨b, 1, none⟩ = some (.int .u8 Y) ∧ Hid (Below w.heap.size w w2) := by
  subst h
  exact ⟨g0, g1, ⟨HB.out.os, HB.out.tape, HB.out.output, HB.out.size, HB.out.block⟩⟩

/-! ### STEP 1: THE WALK: the Go text returns true, AND WRITES NOTHING THAT WAS THERE: 'Below w.heap.size w w'' (Derived/Below.lean: '.refl', '.alloc', '.drew', '.setCell' at a new block, '.trans'). Open each 'IsRow' by 'rcases' AHEAD of 'go_enter'; part every test ahead of the walk. -/
theorem walk (a0 : Option Addr) (len0 cap0 : Nat) (z0 : List Int) (w : World) (w0 : IsRow .u8 w a0 len0 cap0 z0) :
    Calls Try.prog 6 #[.slice a0 len0 cap0] w fun e w' => e = .returned (.bool true) ∧ Below w.heap.size w w' := by
  by_cases hbig : 1048576 < len0
  · go_enter Try.func6, Try.ntmps6
    go_wp2_with (go_at_call 15; refine (bytes15_no a0 len0 cap0 hbig _).mono ?_; rintro e w' ⟨rfl, rfl⟩)
    go_ret
    exact ⟨rfl, Below.refl _ _⟩
  have hbig' : ¬ (1048576 : Int) < (len0 : Int) := by omega
  rcases w0 with ⟨rfl, rfl, rfl, rfl⟩ | ⟨x, rfl, hl, hm, hz, hcell, hwz⟩
  · go_enter Try.func6, Try.ntmps6
    go_wp2_with (first | (go_at_call 15; refine (bytes15_yes none 0 0 (by omega) _).mono ?_; rintro e w' ⟨rfl, rfl⟩) | (go_at_call 10; refine (copy_nil _).mono ?_; rintro e w' ⟨rfl, rfl⟩) | (go_at_call 16; refine (zpriv_no none 0 0 (by omega) _).mono ?_; rintro e w' ⟨rfl, rfl⟩))
    go_ret
    exact ⟨rfl, Below.refl _ _⟩
  have hcp := copy_any x len0 cap0 (fun i => z0.getD i 0) w (by omega) (fun i hi => hcell i (by omega))
  have HC := Lib.hid hcp
  clear hcp hcell
  by_cases h2 : len0 = 2
  · subst h2
    obtain ⟨X, hX⟩ : ∃ X, X = z0.getD 0 0 := ⟨_, rfl⟩
    obtain ⟨Y, hY⟩ : ∃ Y, Y = z0.getD 1 0 := ⟨_, rfl⟩
    have rg := range_u8 hwz
    have hx0 : 0 ≤ X := by rw [hX, List.getD_eq_getElem?_getD]; exact (rg 0).1
    have hx1 : X ≤ 255 := by rw [hX, List.getD_eq_getElem?_getD]; exact (rg 0).2
    have hy0 : 0 ≤ Y := by rw [hY, List.getD_eq_getElem?_getD]; exact (rg 1).1
    have hy1 : Y ≤ 255 := by rw [hY, List.getD_eq_getElem?_getD]; exact (rg 1).2
    have HX := Lib.hid hX
    have HY := Lib.hid hY
    clear hX hY rg hwz hl hm hz
    go_enter Try.func6, Try.ntmps6
    go_wp2_with (first | (go_at_call 15; refine (bytes15_yes (some x) 2 cap0 (by omega) _).mono ?_; rintro e w ⟨rfl, rfl⟩) | (go_at_call 10; refine HC.out.mono ?_; rintro e w' ⟨rfl, hr, hb⟩; refine Hid.out ?_))
    refine Lib.hid ?_
    have g0 : w'.cell? ⟨w.heap.size, 0, none⟩ = some (.int .u8 X) := by rw [HX.out]; exact hr.cell (i := 0) (by omega)
    have g1 : w'.cell? ⟨w.heap.size, 1, none⟩ = some (.int .u8 Y) := by rw [HY.out]; exact hr.cell (i := 1) (by omega)
    have HB := Lib.hid hb
    clear hr hb
    by_cases hc : clen 2 X Y = 2
    · have hcl : X ≥ 129 ∧ X ≤ 254 ∧ 64 ≤ Y ∧ Y ≤ 254 ∧ Y ≠ 127 := by
        unfold clen at hc
        split at hc
        · omega
        · split at hc
          · omega
          · split at hc
            · omega
            · split at hc <;> omega
      obtain ⟨q0, q1, q2, q3, q4⟩ := hcl
      have H4 := Lib.hid q4
      have HCL := Lib.hid hc
      clear q4 hc
      go_wp2_with (first | (go_at_call 11; refine (zcode_any w.heap.size 0 2 2 X Y hx0 hx1 hy0 hy1 (by omega) _ (by assumption) (fun _ => by assumption)).mono ?_; rintro e w' ⟨rfl, rfl⟩; rw [HCL.out]) | (go_at_call 16; refine (zpriv_two w.heap.size 0 2 X Y hx0 hx1 hy0 hy1 _ (by assumption) (by assumption)).mono ?_; rintro e w2 ⟨rfl, k, hw2⟩; obtain ⟨g2, g3, HB2⟩ := onward hw2 g0 g1 HB; clear hw2 g0 g1 HB))
      go_quiet ((go_at_call 17; exact Calls.quiet_of_same (model_any X Y q0 q1 q2 q3 H4.out _)))
      go_wp2
      go_ret
      exact ⟨rfl, ⟨HB2.out.os, HB2.out.tape, HB2.out.output, HB2.out.size, HB2.out.block⟩⟩
    · have hc' : (clen 2 X Y != 2) = true := by simpa using hc
      clear hc
      go_wp2_with (go_at_call 11; refine (zcode_any w.heap.size 0 2 2 X Y hx0 hx1 hy0 hy1 (by omega) _ (by assumption) (fun _ => by assumption)).mono ?_; rintro e w' ⟨rfl, rfl⟩)
      go_ret
      exact ⟨rfl, HB.out⟩
  · have h2' : ((len0 : Int) != 2) = true := by simp; omega
    go_enter Try.func6, Try.ntmps6
    go_wp2_with (first | (go_at_call 15; refine (bytes15_yes (some x) len0 cap0 (by omega) _).mono ?_; rintro e w' ⟨rfl, rfl⟩) | (go_at_call 10; refine HC.out.mono ?_; rintro e w' ⟨rfl, hr, hb⟩) | (go_at_call 16; refine (zpriv_no _ len0 len0 h2 _).mono ?_; rintro e w' ⟨rfl, rfl⟩))
    go_ret
    exact ⟨rfl, hb⟩

end Go.Proofs.Qxb6000058a.fnPrivateUseMatchesAreaWalk
