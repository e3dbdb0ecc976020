/-
  From the rows' condition on the listed tables to what the walks ask; a start that meets it (the heap that the door's own run leaves).
-/
import Derived.Test.Qxb6000837aDoorRows
import Derived.Test.Qxb6000837aDoorShelf
import Derived.ProofKit
import Derived.LaidMore
import Derived.Lib.LaidTab
import Derived.OpenShut
import Derived.Stop.Joined
namespace Go.Proofs.Qxb6000837aDoor
open Go.ChangeShapes Go.WideShapes Go.ChangeAt Go.RowKit

theorem own : ownKnob Tryd.prog.godebug = none := by kernel_rfl
theorem laidOut : laidOutB Tryd.prog = true := by kernel_rfl
/-- The three listed tables. -/
def tabs : List (String × DataW Unit) := Rows.fnIsDigitsAcceptsWrittenIndexRow.laid
theorem gPow : Tryd.prog.globalNamed powName = some 0 := by kernel_rfl
theorem tPow : (Tryd.prog.globals[0]?).map (·.type) = some 54 := by kernel_rfl
theorem cells27 : Tryd.prog.cellsOf 27 = 1 := by kernel_rfl
theorem cells54 : Tryd.prog.cellsOf 54 = 20 := by kernel_rfl

/-- The door's own heap meets the condition. -/
theorem door_met (os : Os) (args : Array Value) : laidMetH Tryd.prog tabs ((World.doorLaid Tryd.prog 24 os).forCall (fun _ _ => 0) ⟨#[], args, []⟩).memory :=
  laidMetH_of_parts3 (fuel := 8) (laidMet_of_run' 8 (by kernel_rfl) (by kernel_rfl)) (by kernel_rfl) (by kernel_rfl)

/-- WHAT THE CONDITION GIVES THE WALKS: the table of powers. -/
theorem pow_of_laid {W : World} (h : laidMetH Tryd.prog tabs W) : Lib.TabIs Tryd.prog W powName .u64 Lib.pow10Tab := by
  rw [MakeChecks.laidMetH_plain _ _ _ (by kernel_rfl)] at h
  obtain ⟨ps, ⟨g0, t0, cs0, f0, p0, q0, hg0, ht0, hv0, hd0, ⟨g1, t1, cs1, f1, p1, q1, hg1, ht1, hv1, hd1, ⟨g2, t2, cs2, f2, p2, q2, hg2, ht2, hv2, hd2, _, _⟩, _⟩, _⟩, _, _⟩ := h
  obtain rfl := Option.some.inj (gPow.symm.trans hg2)
  obtain rfl := Option.some.inj (tPow.symm.trans ht2)
  have e : (Rows.laid_internal_strconv_uint64pow10 : DataW Unit) = Lib.tabData .u64 Lib.pow10Tab := by kernel_rfl
  rw [e] at hd2
  have hc := Lib.cells_of_tab Tryd.underlying54 Tryd.underlying27 cells27 cells54 hd2
  show W.var? Tryd.prog powName = _
  rw [← hc, Array.toArray_toList]
  exact hv2
end Go.Proofs.Qxb6000837aDoor
