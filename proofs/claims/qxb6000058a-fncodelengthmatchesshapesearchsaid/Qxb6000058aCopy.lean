/-
  The contract of zzB1Copy: nil stays nil; else a new row with the same bytes. The contracts of the two bounds on the length.
-/
import Derived.Test.Qxb6000058aCalls
import Derived.LoopTactic
import Derived.Deep.OwnRows
import Derived.Lib.SliceRun
import Derived.WideShapes
namespace Go.Proofs.Qxb6000058a
open Go.RowKit
set_option linter.unusedVariables false

theorem infoByte : (Try.prog.info? 5).map (fun i => (i.zero, i.size, i.bytes)) = some (some (.int .u8 0), 1, 1) := by kernel_rfl

/-- What the new row holds after k rounds. -/
def half (Z : Nat → Int) (k j : Nat) : Value := if j < k then .int .u8 (Z j) else .int .u8 0
theorem half_step {w : World} {b t n k : Nat} {Z : Nat → Int} (h : w.rowIs b t n (half Z k)) : (w.setCell ⟨b, k, none⟩ (.int .u8 (Z k))).rowIs b t n (half Z (k + 1)) := by
  refine (h.set k _).congr fun i _ => ?_
  unfold half
  by_cases e : i = k
  · subst e; simp
  · rw [if_neg e]
    by_cases hlt : i < k
    · rw [if_pos hlt, if_pos (by omega)]
    · rw [if_neg hlt, if_neg (by omega)]

theorem eqNil (w : World) (a : Option Addr) (n c n' c' : Nat) : (binOp .eql 22 (.slice a n c) (.slice none n' c')).run Try.prog w = .ok (.bool a.isNone) w := Lib.run_eql_slice_nil (P := Try.prog) w 22 5 a n c n' c' Try.underlying22

theorem copy_nil (w : World) : Calls Try.prog 10 #[.slice none 0 0] w fun e w' => e = .returned (.slice none 0 0) ∧ w' = w := by
  have hq := eqNil
  go_enter Try.func10, Try.ntmps10
  go_wp2
  go_ret
  exact ⟨rfl, rfl⟩

set_option maxHeartbeats 1000000 in
theorem copy_zero (x : Addr) (n c : Nat) (hn : n ≤ 0) (Z : Nat → Int) (w : World) :
    Calls Try.prog 10 #[.slice (some x) n c] w fun e w' => e = .returned (.slice (some ⟨w.heap.size, 0, none⟩) n n) ∧ w'.rowIs w.heap.size 5 n (fun i => .int .u8 (Z i)) ∧ Below w.heap.size w w' := by
  have hmk := run_make_row' (P := Try.prog) 22 5 (.int .u8 0) 1 Try.underlying22 infoByte rfl .i64 .i64 n (by omega) (by omega)
  have HR : Hid ((w.alloc (.cells (madeCells #[.int .u8 0] n) 5)).rowIs w.heap.size 5 n (fun i => .int .u8 (Z i))) := (World.rowIs_made w (.int .u8 0) n 5).congr fun i hi => absurd hi (by omega)
  have hq := eqNil
  go_enter Try.func10, Try.ntmps10
  go_wp2
  go_loop [4] (fun i => i = .int .i64 0) (fun _ => 0)
  case atStart => exact rfl
  case round =>
    subst hrel
    have hge : ¬ (0 : Int) < (n : Int) := by omega
    go_wp2
    go_ret
    exact ⟨rfl, HR.out, (Below.refl _ _).alloc (Nat.le_refl _) _⟩

set_option maxHeartbeats 1000000 in
theorem copy_row (b off n c : Nat) (Z : Nat → Int) (w : World) (hn : n ≤ 1048576) (hcell : ∀ i, i < n → w.cell? ⟨b, off + i, none⟩ = some (.int .u8 (Z i))) :
    Calls Try.prog 10 #[.slice (some ⟨b, off, none⟩) n c] w fun e w' => e = .returned (.slice (some ⟨w.heap.size, 0, none⟩) n n) ∧ w'.rowIs w.heap.size 5 n (fun i => .int .u8 (Z i)) ∧ Below w.heap.size w w' := by
  have hmk := run_make_row' (P := Try.prog) 22 5 (.int .u8 0) 1 Try.underlying22 infoByte rfl .i64 .i64 n (by omega) (by omega)
  have HR : Hid ((w.alloc (.cells (madeCells #[.int .u8 0] n) 5)).rowIs w.heap.size 5 n (half Z 0)) := (World.rowIs_made w (.int .u8 0) n 5).congr fun i hi => by simp [half]
  have HC : Hid (∀ i, i < n → w.cell? ⟨b, off + i, none⟩ = some (.int .u8 (Z i)) ∧ b < w.heap.size) := fun i hi => ⟨hcell i hi, World.block_lt_of_cell? _ _ (hcell i hi)⟩
  clear hcell
  have hq := eqNil
  go_enter Try.func10, Try.ntmps10
  go_wp2
  go_loopw [4] (fun i wr => ∃ k : Nat, k ≤ n ∧ i = .int .i64 k ∧ Below w.heap.size w wr ∧ wr.rowIs w.heap.size 5 n (half Z k)) (fun i _ => n - (intOf i).toNat)
  case atStart => exact ⟨0, Nat.zero_le _, rfl, (Below.refl _ _).alloc (Nat.le_refl _) _, HR.out⟩
  case round =>
    obtain ⟨k, hk, rfl, hb, hr⟩ := hrel
    clear hmk HR hq
    by_cases hlt : k < n
    · obtain ⟨hc, hbw⟩ := HC.out k hlt
      have g1 : wr.cell? ⟨b, off + k, none⟩ = some (.int .u8 (Z k)) := by rw [hb.cell (p := ⟨b, off + k, none⟩) hbw]; exact hc
      have g2 := hr.cell hlt
      have g3 := hr.frozen k
      have HB : Hid (Below w.heap.size w (wr.setCell ⟨w.heap.size, k, none⟩ (.int .u8 (Z k)))) := hb.setCell (Nat.le_refl _) _
      have HR : Hid ((wr.setCell ⟨w.heap.size, k, none⟩ (.int .u8 (Z k))).rowIs w.heap.size 5 n (half Z (k + 1))) := half_step hr
      clear hb hr hc
      go_wp2
      go_roundw
      case rel => exact ⟨k + 1, by omega, by go_num, HB.out, HR.out⟩
      case measure => simp [intOf]; omega
    · have ek : k = n := by omega
      subst ek
      have HR : Hid (wr.rowIs w.heap.size 5 k (fun i => .int .u8 (Z i))) := hr.congr fun i hi => by simp [half, hi]
      have HB : Hid (Below w.heap.size w wr) := hb
      clear hb hr
      go_wp2
      go_ret
      exact ⟨rfl, HR.out, HB.out⟩

/-- Every slice that is not nil: the new row holds the same bytes. -/
theorem copy_any (x : Addr) (n c : Nat) (Z : Nat → Int) (w : World) (hn : n ≤ 1048576) (hcell : ∀ i, i < n → w.cell? (x.add i) = some (.int .u8 (Z i))) :
    Calls Try.prog 10 #[.slice (some x) n c] w fun e w' => e = .returned (.slice (some ⟨w.heap.size, 0, none⟩) n n) ∧ w'.rowIs w.heap.size 5 n (fun i => .int .u8 (Z i)) ∧ Below w.heap.size w w' := by
  rcases Nat.eq_zero_or_pos n with h0 | h0
  · exact copy_zero x n c (by omega) Z w
  · obtain ⟨b, off, spot⟩ := x
    have hspot : spot = none := by simpa [Addr.add] using World.cell?_spot (hcell 0 h0)
    subst hspot
    exact copy_row b off n c Z w hn (fun i hi => by rw [← WideShapes.add_plain]; exact hcell i hi)

/-! ### The bounds on the length -/
theorem bytes15_no (a : Option Addr) (n c : Nat) (h : 1048576 < n) (w : World) : Calls Try.prog 15 #[.slice a n c] w fun e w' => e = .returned (.bool false) ∧ w' = w := by
  have h' : (1048576 : Int) < (n : Int) := by omega
  go_enter Try.func15, Try.ntmps15
  go_wp2
  go_ret
  exact ⟨rfl, rfl⟩
theorem bytes15_yes (a : Option Addr) (n c : Nat) (h : n ≤ 1048576) (w : World) : Calls Try.prog 15 #[.slice a n c] w fun e w' => e = .returned (.bool true) ∧ w' = w := by
  have h' : ¬ (1048576 : Int) < (n : Int) := by omega
  go_enter Try.func15, Try.ntmps15
  go_wp2
  go_ret
  exact ⟨rfl, rfl⟩
theorem bytes9_no (a : Option Addr) (n c : Nat) (h : 1048576 < n) (w : World) : Calls Try.prog 9 #[.slice a n c] w fun e w' => e = .returned (.bool false) ∧ w' = w := by
  have h' : (1048576 : Int) < (n : Int) := by omega
  go_enter Try.func9, Try.ntmps9
  go_wp2
  go_ret
  exact ⟨rfl, rfl⟩
theorem bytes9_yes (a : Option Addr) (n c : Nat) (h : n ≤ 1048576) (w : World) : Calls Try.prog 9 #[.slice a n c] w fun e w' => e = .returned (.bool true) ∧ w' = w := by
  have h' : ¬ (1048576 : Int) < (n : Int) := by omega
  go_enter Try.func9, Try.ntmps9
  go_wp2
  go_ret
  exact ⟨rfl, rfl⟩
end Go.Proofs.Qxb6000058a
