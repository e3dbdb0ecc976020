/-
  The contracts of codeLength, ZZcodeLength, privateUse and ZZprivateUse: each computes a plain function of the first two bytes and the length.
-/
import Derived.Test.Qxb6000058aRows
import Derived.WalkKit
import Derived.Outline
import Derived.Deep.QuietTactic
import Derived.BigQuiet
namespace Go.Proofs.Qxb6000058a
open Go.RowKit
set_option linter.unusedVariables false

/-! ### The plain functions -/
def clen (n : Nat) (x y : Int) : Int :=
  if x < 128 then 1 else if x = 128 ∨ x = 255 ∨ n < 2 then 0 else if 64 ≤ y ∧ y ≤ 254 ∧ y ≠ 127 then 2 else if 4 ≤ n ∧ 48 ≤ y ∧ y ≤ 57 then 4 else 0

theorem clen_1 {n : Nat} {x y : Int} (h : x < 128) : clen n x y = 1 := by simp [clen, h]
theorem clen_0 {n : Nat} {x y : Int} (h : ¬ x < 128) (h2 : x = 128 ∨ x = 255 ∨ n < 2) : clen n x y = 0 := by simp [clen, h, h2]
theorem clen_2 {n : Nat} {x y : Int} (h : ¬ x < 128) (h2 : ¬ (x = 128 ∨ x = 255 ∨ n < 2)) (h3 : 64 ≤ y ∧ y ≤ 254 ∧ y ≠ 127) : clen n x y = 2 := by
  unfold clen; rw [if_neg h, if_neg h2, if_pos h3]
theorem clen_4 {n : Nat} {x y : Int} (h : ¬ x < 128) (h2 : ¬ (x = 128 ∨ x = 255 ∨ n < 2)) (h3 : ¬ (64 ≤ y ∧ y ≤ 254 ∧ y ≠ 127)) (h4 : 4 ≤ n ∧ 48 ≤ y ∧ y ≤ 57) : clen n x y = 4 := by
  unfold clen; rw [if_neg h, if_neg h2, if_neg h3, if_pos h4]
theorem clen_5 {n : Nat} {x y : Int} (h : ¬ x < 128) (h2 : ¬ (x = 128 ∨ x = 255 ∨ n < 2)) (h3 : ¬ (64 ≤ y ∧ y ≤ 254 ∧ y ≠ 127)) (h4 : ¬ (4 ≤ n ∧ 48 ≤ y ∧ y ≤ 57)) : clen n x y = 0 := by
  unfold clen; rw [if_neg h, if_neg h2, if_neg h3, if_neg h4]
theorem ret_int {k : IntKind} {a b : Int} (h : a = b) : Ending.returned (.int k a) = .returned (.int k b) := by rw [h]

/-- codeLength, at a slice of at least one byte. -/
theorem code_any (b off n c : Nat) (x y : Int) (hx0 : 0 ≤ x) (hx1 : x ≤ 255) (hy0 : 0 ≤ y) (hy1 : y ≤ 255) (hn : 1 ≤ n) (w : World) (h0 : w.cell? ⟨b, off, none⟩ = some (.int .u8 x)) (h1 : 2 ≤ n → w.cell? ⟨b, off + 1, none⟩ = some (.int .u8 y)) :
    Calls Try.prog 19 #[.slice (some ⟨b, off, none⟩) n c] w fun e w' => e = .returned (.int .i64 (clen n x y)) ∧ w' = w := by
  have hl0 : (0 : Int) < (n : Int) := by omega
  by_cases c1 : x < 128
  · go_enter Try.func19, Try.ntmps19
    go_wp2
    go_ret
    exact ⟨ret_int (clen_1 c1).symm, rfl⟩
  by_cases c2 : x = 128 ∨ x = 255 ∨ n < 2
  · have r := ret_int (k := .i64) (clen_0 (n := n) (y := y) c1 c2).symm
    by_cases d1 : x = 128
    · have e2 : (x == 128) = true := by simp [d1]
      clear d1 c2
      go_enter Try.func19, Try.ntmps19
      go_wp2
      go_ret
      exact ⟨r, rfl⟩
    have e2 : (x == 128) = false := by simp [d1]
    by_cases d2 : x = 255
    · have e3 : (x == 255) = true := by simp [d2]
      clear d1 d2 c2
      go_enter Try.func19, Try.ntmps19
      go_wp2
      go_ret
      exact ⟨r, rfl⟩
    have e3 : (x == 255) = false := by simp [d2]
    have d3 : (n : Int) < 2 := by omega
    clear d1 d2 c2
    go_enter Try.func19, Try.ntmps19
    go_wp2
    go_ret
    exact ⟨r, rfl⟩
  have e2 : (x == 128) = false := by simp; omega
  have e3 : (x == 255) = false := by simp; omega
  have d3 : ¬ (n : Int) < 2 := by omega
  have hl1 : (1 : Int) < (n : Int) := by omega
  replace h1 := h1 (by omega)
  by_cases c3 : 64 ≤ y ∧ y ≤ 254 ∧ y ≠ 127
  · have r := ret_int (k := .i64) (clen_2 c1 c2 c3).symm
    obtain ⟨f1, f2, f3⟩ := c3
    have f4 : (y != 127) = true := by simpa using f3
    clear f3
    go_enter Try.func19, Try.ntmps19
    go_wp2
    go_ret
    exact ⟨r, rfl⟩
  by_cases c4 : 4 ≤ n ∧ 48 ≤ y ∧ y ≤ 57
  · have r := ret_int (k := .i64) (clen_4 c1 c2 c3 c4).symm
    obtain ⟨g1, g2, g3⟩ := c4
    have g4 : (4 : Int) ≤ n := by omega
    have f1 : ¬ 64 ≤ y := by omega
    go_enter Try.func19, Try.ntmps19
    go_wp2
    go_ret
    exact ⟨r, rfl⟩
  have r := ret_int (k := .i64) (clen_5 c1 c2 c3 c4).symm
  go_enter Try.func19, Try.ntmps19
  go_wp2
  all_goals
    go_ret
    exact ⟨r, rfl⟩

/-- ZZcodeLength hands on. -/
theorem zcode_any (b off n c : Nat) (x y : Int) (hx0 : 0 ≤ x) (hx1 : x ≤ 255) (hy0 : 0 ≤ y) (hy1 : y ≤ 255) (hn : 1 ≤ n) (w : World) (h0 : w.cell? ⟨b, off, none⟩ = some (.int .u8 x)) (h1 : 2 ≤ n → w.cell? ⟨b, off + 1, none⟩ = some (.int .u8 y)) :
    Calls Try.prog 11 #[.slice (some ⟨b, off, none⟩) n c] w fun e w' => e = .returned (.int .i64 (clen n x y)) ∧ w' = w := by
  go_enter Try.func11, Try.ntmps11
  go_wp2_with (go_at_call 19; refine (code_any b off n c x y hx0 hx1 hy0 hy1 hn _ h0 h1).mono ?_; rintro e w' ⟨rfl, rfl⟩)
  go_ret
  exact ⟨rfl, rfl⟩

/-! ### privateUse -/
def puse (x y : Int) : Int × Bool :=
  if 170 ≤ x ∧ x ≤ 175 ∧ 161 ≤ y then (57344 + (x - 170) * 94 + y - 161, true)
  else if 248 ≤ x ∧ 161 ≤ y then (57908 + (x - 248) * 94 + y - 161, true)
  else if 161 ≤ x ∧ x ≤ 167 ∧ y ≤ 160 then (58566 + (x - 161) * 96 + (if 127 < y then y - 64 - 1 else y - 64), true)
  else (0, false)
theorem puse_1 {x y : Int} (h : 170 ≤ x ∧ x ≤ 175 ∧ 161 ≤ y) : puse x y = (57344 + (x - 170) * 94 + y - 161, true) := by
  unfold puse; rw [if_pos h]
theorem puse_2 {x y : Int} (h : ¬ (170 ≤ x ∧ x ≤ 175 ∧ 161 ≤ y)) (h2 : 248 ≤ x ∧ 161 ≤ y) : puse x y = (57908 + (x - 248) * 94 + y - 161, true) := by
  unfold puse; rw [if_neg h, if_pos h2]
theorem puse_3 {x y : Int} (h : ¬ (170 ≤ x ∧ x ≤ 175 ∧ 161 ≤ y)) (h2 : ¬ (248 ≤ x ∧ 161 ≤ y)) (h3 : 161 ≤ x ∧ x ≤ 167 ∧ y ≤ 160) : puse x y = (58566 + (x - 161) * 96 + (if 127 < y then y - 64 - 1 else y - 64), true) := by
  unfold puse; rw [if_neg h, if_neg h2, if_pos h3]
theorem puse_4 {x y : Int} (h : ¬ (170 ≤ x ∧ x ≤ 175 ∧ 161 ≤ y)) (h2 : ¬ (248 ≤ x ∧ 161 ≤ y)) (h3 : ¬ (161 ≤ x ∧ x ≤ 167 ∧ y ≤ 160)) : puse x y = (0, false) := by
  unfold puse; rw [if_neg h, if_neg h2, if_neg h3]
theorem ret_two {k : IntKind} {a : Int} {p : Int × Bool} {v : Bool} (h : p = (a, v)) : Ending.returned (.tuple #[.int k a, .bool v]) = .returned (.tuple #[.int k p.1, .bool p.2]) := by rw [h]

theorem priv_no (a : Option Addr) (n c : Nat) (hn : n ≠ 2) (w : World) :
    Calls Try.prog 21 #[.slice a n c] w fun e w' => e = .returned (.tuple #[.int .i32 0, .bool false]) ∧ w' = w := by
  have hl : ((n : Int) != 2) = true := by simp; omega
  go_enter Try.func21, Try.ntmps21
  go_wp2
  go_ret2
  exact ⟨rfl, rfl⟩

theorem priv_two (b off c : Nat) (x y : Int) (hx0 : 0 ≤ x) (hx1 : x ≤ 255) (hy0 : 0 ≤ y) (hy1 : y ≤ 255) (w : World) (h0 : w.cell? ⟨b, off, none⟩ = some (.int .u8 x)) (h1 : w.cell? ⟨b, off + 1, none⟩ = some (.int .u8 y)) :
    Calls Try.prog 21 #[.slice (some ⟨b, off, none⟩) 2 c] w fun e w' => e = .returned (.tuple #[.int .i32 (puse x y).1, .bool (puse x y).2]) ∧ ∃ n, w' = w.drewN n := by
  by_cases c1 : 170 ≤ x ∧ x ≤ 175 ∧ 161 ≤ y
  · have r := ret_two (k := .i32) (puse_1 c1)
    obtain ⟨d1, d2, d3⟩ := c1
    go_enter Try.func21, Try.ntmps21
    go_wp2
    go_quiet (fail)
    go_wp2
    go_ret2
    exact ⟨r, _, rfl⟩
  by_cases c2 : 248 ≤ x ∧ 161 ≤ y
  · have r := ret_two (k := .i32) (puse_2 c1 c2)
    obtain ⟨d1, d3⟩ := c2
    have d2 : ¬ x ≤ 175 := by omega
    go_enter Try.func21, Try.ntmps21
    go_wp2
    go_quiet (fail)
    go_wp2
    go_ret2
    exact ⟨r, _, rfl⟩
  by_cases c3 : 161 ≤ x ∧ x ≤ 167 ∧ y ≤ 160
  · have r := ret_two (k := .i32) (puse_3 c1 c2 c3)
    obtain ⟨d1, d2, d3⟩ := c3
    have d4 : ¬ 170 ≤ x := by omega
    have d5 : ¬ 248 ≤ x := by omega
    have d6 : ¬ 161 ≤ y := by omega
    by_cases c4 : 127 < y
    · rw [if_pos c4] at r
      go_enter Try.func21, Try.ntmps21
      go_wp2
      go_quiet (fail)
      go_wp2
      go_ret2
      exact ⟨r, _, rfl⟩
    · rw [if_neg c4] at r
      go_enter Try.func21, Try.ntmps21
      go_wp2
      go_quiet (fail)
      go_wp2
      go_ret2
      exact ⟨r, _, rfl⟩
  have r := ret_two (k := .i32) (puse_4 c1 c2 c3)
  go_enter Try.func21, Try.ntmps21
  go_wp2
  go_quiet (fail)
  go_wp2
  all_goals
    go_ret2
    exact ⟨r, _, rfl⟩

theorem zpriv_no (a : Option Addr) (n c : Nat) (hn : n ≠ 2) (w : World) :
    Calls Try.prog 16 #[.slice a n c] w fun e w' => e = .returned (.tuple #[.int .i32 0, .bool false]) ∧ w' = w := by
  go_enter Try.func16, Try.ntmps16
  go_wp2_with (go_at_call 21; refine (priv_no a n c hn _).mono ?_; rintro e w' ⟨rfl, rfl⟩)
  go_ret2
  exact ⟨rfl, rfl⟩

theorem zpriv_two (b off c : Nat) (x y : Int) (hx0 : 0 ≤ x) (hx1 : x ≤ 255) (hy0 : 0 ≤ y) (hy1 : y ≤ 255) (w : World) (h0 : w.cell? ⟨b, off, none⟩ = some (.int .u8 x)) (h1 : w.cell? ⟨b, off + 1, none⟩ = some (.int .u8 y)) :
    Calls Try.prog 16 #[.slice (some ⟨b, off, none⟩) 2 c] w fun e w' => e = .returned (.tuple #[.int .i32 (puse x y).1, .bool (puse x y).2]) ∧ ∃ n, w' = w.drewN n := by
  go_enter Try.func16, Try.ntmps16
  go_wp2_with (go_at_call 21; refine (priv_two b off c x y hx0 hx1 hy0 hy1 _ h0 h1).mono ?_; rintro e w' ⟨rfl, k, rfl⟩)
  go_ret2
  exact ⟨rfl, k, rfl⟩
end Go.Proofs.Qxb6000058a
