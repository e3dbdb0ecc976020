/-
  The contract of zzB1ModelPrivateUse: at a code that codeLength reads as a two-byte code it answers what privateUse answers.
-/
import Derived.Test.Qxb6000058aArea
import Derived.Lib.Hide
namespace Go.Proofs.Qxb6000058a
open Go.RowKit
set_option linter.unusedVariables false

theorem nx1 : nxt 57344 170 (col 161 (254 + 1)) (175 + 1) = 57908 := by decide
theorem nx2 : nxt 57908 248 (col 161 (254 + 1)) (254 + 1) = 58566 := by decide
theorem w94 : col 161 (254 + 1) = 94 := by decide
theorem w96 : col 64 (160 + 1) = 96 := by decide
theorem at1 (x y : Int) : nxt 57344 170 (col 161 (254 + 1)) x + col 161 y = 57344 + (x - 170) * 94 + y - 161 := by
  rw [w94]; unfold nxt col; split <;> omega
theorem at2 (x y : Int) : nxt 57908 248 (col 161 (254 + 1)) x + col 161 y = 57908 + (x - 248) * 94 + y - 161 := by
  rw [w94]; unfold nxt col; split <;> omega
theorem at3 (x y : Int) : nxt 58566 161 (col 64 (160 + 1)) x + col 64 y = 58566 + (x - 161) * 96 + (if 127 < y then y - 64 - 1 else y - 64) := by
  rw [w96]; unfold nxt col; split <;> split <;> omega

set_option maxHeartbeats 1000000 in
theorem model_any (x y : Int) (hx0 : 129 ≤ x) (hx1 : x ≤ 254) (hy0 : 64 ≤ y) (hy1 : y ≤ 254) (hy : y ≠ 127) (w : World) :
    Calls Try.prog 17 #[.int .i64 x, .int .i64 y] w fun e w' => e = .returned (.tuple #[.int .i32 (puse x y).1, .bool (puse x y).2]) ∧ w' = w := by
  by_cases c1 : 170 ≤ x ∧ x ≤ 175 ∧ 161 ≤ y
  · have r := ret_two (k := .i32) (puse_1 c1)
    have h1 := area_hit x y 170 175 161 254 57344 (by omega) (by omega) (by omega) (by omega) (by omega) (by omega) (by omega) (by omega) (by omega) (by omega) (by omega) (by omega) (by omega) w
    rw [at1] at h1
    have H1 := Lib.hid h1
    clear h1
    go_enter Try.func17, Try.ntmps17
    go_wp2_with fail
    refine H1.out.mono ?_
    rintro e w' ⟨rfl, rfl⟩
    go_wp2
    go_ret2
    exact ⟨r, rfl⟩
  have h1 := area_miss x y 170 175 161 254 57344 (by omega) (by omega) (by omega) (by omega) (by omega) (by omega) (by omega) (by omega) (by omega) w
  rw [nx1] at h1
  have H1 := Lib.hid h1
  clear h1
  by_cases c2 : 248 ≤ x ∧ 161 ≤ y
  · have r := ret_two (k := .i32) (puse_2 c1 c2)
    have h2 := area_hit x y 248 254 161 254 57908 (by omega) (by omega) (by omega) (by omega) (by omega) (by omega) (by omega) (by omega) (by omega) (by omega) (by omega) (by omega) (by omega) w
    rw [at2] at h2
    have H2 := Lib.hid h2
    clear h2
    go_enter Try.func17, Try.ntmps17
    go_wp2_with fail
    refine H1.out.mono ?_
    rintro e w' ⟨rfl, rfl⟩
    go_wp2_with fail
    refine H2.out.mono ?_
    rintro e w' ⟨rfl, rfl⟩
    go_wp2
    go_ret2
    exact ⟨r, rfl⟩
  have h2 := area_miss x y 248 254 161 254 57908 (by omega) (by omega) (by omega) (by omega) (by omega) (by omega) (by omega) (by omega) (by omega) w
  rw [nx2] at h2
  have H2 := Lib.hid h2
  clear h2
  by_cases c3 : 161 ≤ x ∧ x ≤ 167 ∧ y ≤ 160
  · have r := ret_two (k := .i32) (puse_3 c1 c2 c3)
    have h3 := area_hit x y 161 167 64 160 58566 (by omega) (by omega) (by omega) (by omega) (by omega) (by omega) (by omega) (by omega) (by omega) (by omega) (by omega) (by omega) (by omega) w
    rw [← at3] at r
    have H3 := Lib.hid h3
    clear h3
    go_enter Try.func17, Try.ntmps17
    go_wp2_with fail
    refine H1.out.mono ?_
    rintro e w' ⟨rfl, rfl⟩
    go_wp2_with fail
    refine H2.out.mono ?_
    rintro e w' ⟨rfl, rfl⟩
    go_wp2_with fail
    refine H3.out.mono ?_
    rintro e w' ⟨rfl, rfl⟩
    go_wp2
    go_ret2
    exact ⟨r, rfl⟩
  have h3 := area_miss x y 161 167 64 160 58566 (by omega) (by omega) (by omega) (by omega) (by omega) (by omega) (by omega) (by omega) (by omega) w
  have r := ret_two (k := .i32) (puse_4 c1 c2 c3)
  have H3 := Lib.hid h3
  clear h3
  go_enter Try.func17, Try.ntmps17
  go_wp2_with fail
  refine H1.out.mono ?_
  rintro e w' ⟨rfl, rfl⟩
  go_wp2_with fail
  refine H2.out.mono ?_
  rintro e w' ⟨rfl, rfl⟩
  go_wp2_with fail
  refine H3.out.mono ?_
  rintro e w' ⟨rfl, rfl⟩
  go_wp2
  go_ret2
  exact ⟨r, rfl⟩
end Go.Proofs.Qxb6000058a
