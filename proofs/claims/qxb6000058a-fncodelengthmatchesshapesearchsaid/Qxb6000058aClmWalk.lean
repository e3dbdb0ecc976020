/-
  The walk of FnCodeLengthMatchesShapeSearch over the contracts.
-/
import Derived.Test.Qxb6000058aShape
import Derived.Test.Qxb6000058aCopy
import Derived.WalkKit
import Derived.ProofKit
import Derived.OpenShut
import Derived.ShutString
import Derived.ChangeOld
import Derived.Below
namespace Go.Proofs.Qxb6000058a.fnCodeLengthMatchesShapeSearch
open Go.ChangeShapes Go.WideShapes Go.ChangeAt Go.RowKit
open Go.ChangeMaps (open_string shut_string)
set_option linter.unusedVariables false

/-- WHAT THE WALK IS TOLD OF A SLICE OF INTEGERS THAT CAME IN: it is nil; or it leads to a row of 'cap' cells, the numbers 'zs' (the first 'len' are its elements, the rest its spare room), each fitting its kind. -/
def IsRow (k : IntKind) (w : World) (a : Option Addr) (len cap : Nat) (zs : List Int) : Prop :=
  (a = none ∧ len = 0 ∧ cap = 0 ∧ zs = []) ∨
  ∃ x, a = some x ∧ len ≤ cap ∧ cap ≤ maxLen ∧ zs.length = cap ∧ (∀ i, i < zs.length → w.cell? (x.add i) = some (.int k (zs.getD i 0))) ∧ ∀ n ∈ zs, (Lit.int k n).wf = true

/-! ### STEP 1: THE WALK: the Go text returns true, AND WRITES NOTHING THAT WAS THERE: 'Below w.heap.size w w'' (Derived/Below.lean: '.refl', '.alloc', '.drew', '.setCell' at a new block, '.trans'). Open each 'IsRow' by 'rcases' AHEAD of 'go_enter'; part every test ahead of the walk. -/
theorem walk (a0 : Option Addr) (len0 cap0 : Nat) (z0 : List Int) (w : World) (w0 : IsRow .u8 w a0 len0 cap0 z0) :
    Calls Try.prog 3 #[.slice a0 len0 cap0] w fun e w' => e = .returned (.bool true) ∧ Below w.heap.size w w' := by
  by_cases hbig : 1048576 < len0
  · go_enter Try.func3, Try.ntmps3
    go_wp2_with (go_at_call 9; refine (bytes9_no a0 len0 cap0 hbig _).mono ?_; rintro e w' ⟨rfl, rfl⟩)
    go_ret
    exact ⟨rfl, Below.refl _ _⟩
  have hbig' : ¬ (1048576 : Int) < (len0 : Int) := by omega
  by_cases hz0 : len0 = 0
  · have h0 : ((len0 : Int) == 0) = true := by simp; omega
    clear hz0
    go_enter Try.func3, Try.ntmps3
    go_wp2_with (go_at_call 9; refine (bytes9_yes a0 len0 cap0 (by omega) _).mono ?_; rintro e w' ⟨rfl, rfl⟩)
    go_ret
    exact ⟨rfl, Below.refl _ _⟩
  have h0 : ((len0 : Int) == 0) = false := by simp; omega
  have hpos : 1 ≤ len0 := by omega
  clear hz0
  rcases w0 with ⟨rfl, rfl, rfl, rfl⟩ | ⟨x, rfl, hl, hm, hz, hcell, hwz⟩
  · omega
  have hcp := copy_any x len0 cap0 (fun i => z0.getD i 0) w (by omega) (fun i hi => hcell i (by omega))
  have HC := Lib.hid hcp
  clear hcp hcell
  obtain ⟨X, hX⟩ : ∃ X, X = z0.getD 0 0 := ⟨_, rfl⟩
  obtain ⟨Y, hY⟩ : ∃ Y, Y = z0.getD 1 0 := ⟨_, rfl⟩
  have rg := range_u8 hwz
  have hx0 : 0 ≤ X := by rw [hX, List.getD_eq_getElem?_getD]; exact (rg 0).1
  have hx1 : X ≤ 255 := by rw [hX, List.getD_eq_getElem?_getD]; exact (rg 0).2
  have hy0 : 0 ≤ Y := by rw [hY, List.getD_eq_getElem?_getD]; exact (rg 1).1
  have hy1 : Y ≤ 255 := by rw [hY, List.getD_eq_getElem?_getD]; exact (rg 1).2
  have HX := Lib.hid hX
  have HY := Lib.hid hY
  clear hX hY rg hwz hl hm hz
  go_enter Try.func3, Try.ntmps3
  go_wp2_with (first | (go_at_call 9; refine (bytes9_yes (some x) len0 cap0 (by omega) _).mono ?_; rintro e w ⟨rfl, rfl⟩) | (go_at_call 10; refine HC.out.mono ?_; rintro e w' ⟨rfl, hr, hb⟩; refine Hid.out ?_))
  refine Lib.hid ?_
  have g0 : w'.cell? ⟨w.heap.size, 0, none⟩ = some (.int .u8 X) := by rw [HX.out]; exact hr.cell (i := 0) (by omega)
  have g1 : 2 ≤ len0 → w'.cell? ⟨w.heap.size, 0 + 1, none⟩ = some (.int .u8 Y) := fun h => by rw [HY.out]; exact hr.cell (i := 1) (by omega)
  have HB := Lib.hid hb
  have K1 := Lib.hid (zcode_any w.heap.size 0 len0 len0 X Y hx0 hx1 hy0 hy1 hpos w' g0 g1)
  have K2 := Lib.hid (search_any w.heap.size 0 len0 len0 X Y hx0 hx1 hy0 hy1 hpos w' g0 g1)
  clear hr hb g0 g1
  go_wp2_with (first | (go_at_call 11; refine K1.out.mono ?_; rintro e w' ⟨rfl, rfl⟩) | (go_at_call 12; refine K2.out.mono ?_; rintro e w' ⟨rfl, rfl⟩))
  go_ret
  exact ⟨rfl, HB.out⟩
end Go.Proofs.Qxb6000058a.fnCodeLengthMatchesShapeSearch
