/-
  The contracts of zzB1IsLead, zzB1IsTrail2, zzB1IsDigit, zzB1ShapeFits and zzB1ModelCodeLength: the search over the shapes finds codeLength's answer.
-/
import Derived.Test.Qxb6000058aCalls
import Derived.LoopTactic
import Derived.Lib.Hide
namespace Go.Proofs.Qxb6000058a
open Go.RowKit
set_option linter.unusedVariables false

def leadB (x : Int) : Bool := decide (129 ≤ x ∧ x ≤ 254)
def trailB (y : Int) : Bool := decide (64 ≤ y ∧ y ≤ 254 ∧ y ≠ 127)
def digB (y : Int) : Bool := decide (48 ≤ y ∧ y ≤ 57)
theorem ret_bool {a b : Bool} (h : a = b) : Ending.returned (.bool a) = .returned (.bool b) := by rw [h]

theorem lead_any (x : Int) (hx0 : 0 ≤ x) (hx1 : x ≤ 255) (w : World) : Calls Try.prog 23 #[.int .u8 x] w fun e w' => e = .returned (.bool (leadB x)) ∧ w' = w := by
  by_cases h : 129 ≤ x ∧ x ≤ 254
  · have r : leadB x = true := by simp [leadB, h]
    obtain ⟨h1, h2⟩ := h
    have R := Lib.hid r
    clear r
    go_enter Try.func23, Try.ntmps23
    go_wp2
    go_ret
    exact ⟨ret_bool R.out.symm, rfl⟩
  · have r : leadB x = false := by simp only [leadB, decide_eq_false_iff_not]; exact h
    have R := Lib.hid r
    clear r
    by_cases h1 : 129 ≤ x
    · have h2 : ¬ x ≤ 254 := by omega
      go_enter Try.func23, Try.ntmps23
      go_wp2
      go_ret
      exact ⟨ret_bool R.out.symm, rfl⟩
    · go_enter Try.func23, Try.ntmps23
      go_wp2
      go_ret
      exact ⟨ret_bool R.out.symm, rfl⟩

theorem trail_any (x : Int) (hx0 : 0 ≤ x) (hx1 : x ≤ 255) (w : World) : Calls Try.prog 24 #[.int .u8 x] w fun e w' => e = .returned (.bool (trailB x)) ∧ w' = w := by
  by_cases h : 64 ≤ x ∧ x ≤ 254 ∧ x ≠ 127
  · have r : trailB x = true := by simp only [trailB, decide_eq_true_eq]; exact h
    obtain ⟨h1, h2, h3⟩ := h
    have h4 : (x != 127) = true := by simpa using h3
    have R := Lib.hid r
    clear r h3
    go_enter Try.func24, Try.ntmps24
    go_wp2
    go_ret
    exact ⟨ret_bool R.out.symm, rfl⟩
  · have r : trailB x = false := by simp only [trailB, decide_eq_false_iff_not]; exact h
    have R := Lib.hid r
    clear r
    by_cases h7 : x = 127
    · subst h7
      go_enter Try.func24, Try.ntmps24
      go_wp2
      go_ret
      exact ⟨ret_bool R.out.symm, rfl⟩
    · have h8 : (x != 127) = true := by simpa using h7
      clear h7
      have h9 : ¬ 64 ≤ x ∨ ¬ x ≤ 254 := by simp only [bne_iff_ne] at h8; omega
      rcases h9 with h9 | h9
      · go_enter Try.func24, Try.ntmps24
        go_wp2
        go_ret
        exact ⟨ret_bool R.out.symm, rfl⟩
      · have h10 : 64 ≤ x := by omega
        go_enter Try.func24, Try.ntmps24
        go_wp2
        go_ret
        exact ⟨ret_bool R.out.symm, rfl⟩

theorem dig_any (x : Int) (hx0 : 0 ≤ x) (hx1 : x ≤ 255) (w : World) : Calls Try.prog 25 #[.int .u8 x] w fun e w' => e = .returned (.bool (digB x)) ∧ w' = w := by
  by_cases h : 48 ≤ x ∧ x ≤ 57
  · have r : digB x = true := by simp [digB, h]
    obtain ⟨h1, h2⟩ := h
    have R := Lib.hid r
    clear r
    go_enter Try.func25, Try.ntmps25
    go_wp2
    go_ret
    exact ⟨ret_bool R.out.symm, rfl⟩
  · have r : digB x = false := by simp only [digB, decide_eq_false_iff_not]; exact h
    have R := Lib.hid r
    clear r
    by_cases h1 : 48 ≤ x
    · have h2 : ¬ x ≤ 57 := by omega
      go_enter Try.func25, Try.ntmps25
      go_wp2
      go_ret
      exact ⟨ret_bool R.out.symm, rfl⟩
    · go_enter Try.func25, Try.ntmps25
      go_wp2
      go_ret
      exact ⟨ret_bool R.out.symm, rfl⟩

/-! ### zzB1ShapeFits at 1, 2 and 4 -/
theorem fit_1 (b off n c : Nat) (x : Int) (hx0 : 0 ≤ x) (hx1 : x ≤ 255) (hn : 1 ≤ n) (w : World) (h0 : w.cell? ⟨b, off, none⟩ = some (.int .u8 x)) :
    Calls Try.prog 20 #[.slice (some ⟨b, off, none⟩) n c, .int .i64 1] w fun e w' => e = .returned (.bool (decide (x < 128))) ∧ w' = w := by
  have hl0 : (0 : Int) < (n : Int) := by omega
  have hl1 : ¬ (n : Int) < 1 := by omega
  go_enter Try.func20, Try.ntmps20
  go_wp2
  go_ret
  exact ⟨rfl, rfl⟩

def fit2 (n : Nat) (x y : Int) : Bool := decide (2 ≤ n) && (leadB x && trailB y)
def fit4 (n : Nat) (x y : Int) : Bool := decide (4 ≤ n) && (leadB x && digB y)

theorem fit_2 (b off n c : Nat) (x y : Int) (hx0 : 0 ≤ x) (hx1 : x ≤ 255) (hy0 : 0 ≤ y) (hy1 : y ≤ 255) (hn : 1 ≤ n) (w : World) (h0 : w.cell? ⟨b, off, none⟩ = some (.int .u8 x)) (h1 : 2 ≤ n → w.cell? ⟨b, off + 1, none⟩ = some (.int .u8 y)) :
    Calls Try.prog 20 #[.slice (some ⟨b, off, none⟩) n c, .int .i64 2] w fun e w' => e = .returned (.bool (fit2 n x y)) ∧ w' = w := by
  have hl0 : (0 : Int) < (n : Int) := by omega
  by_cases h2 : 2 ≤ n
  · have hl1 : ¬ (n : Int) < 2 := by omega
    have hl2 : (1 : Int) < (n : Int) := by omega
    replace h1 := h1 h2
    by_cases hL : leadB x = true
    · have R : Hid (fit2 n x y = trailB y) := by show _ = _; simp [fit2, h2, hL]
      go_enter Try.func20, Try.ntmps20
      go_wp2_with (first | (go_at_call 23; refine (lead_any x hx0 hx1 _).mono ?_; rintro e w' ⟨rfl, rfl⟩; rw [hL]) | (go_at_call 24; refine (trail_any y hy0 hy1 _).mono ?_; rintro e w' ⟨rfl, rfl⟩))
      go_ret
      exact ⟨ret_bool R.out.symm, rfl⟩
    · have hL' : leadB x = false := by simpa using hL
      have R : Hid (fit2 n x y = false) := by show _ = _; simp [fit2, hL']
      clear hL
      go_enter Try.func20, Try.ntmps20
      go_wp2_with (first | (go_at_call 23; refine (lead_any x hx0 hx1 _).mono ?_; rintro e w' ⟨rfl, rfl⟩; rw [hL']))
      go_ret
      exact ⟨ret_bool R.out.symm, rfl⟩
  · have hl1 : (n : Int) < 2 := by omega
    have R : Hid (fit2 n x y = false) := by show _ = _; simp [fit2]; omega
    go_enter Try.func20, Try.ntmps20
    go_wp2
    go_ret
    exact ⟨ret_bool R.out.symm, rfl⟩

theorem fit_4 (b off n c : Nat) (x y : Int) (hx0 : 0 ≤ x) (hx1 : x ≤ 255) (hy0 : 0 ≤ y) (hy1 : y ≤ 255) (hn : 1 ≤ n) (w : World) (h0 : w.cell? ⟨b, off, none⟩ = some (.int .u8 x)) (h1 : 2 ≤ n → w.cell? ⟨b, off + 1, none⟩ = some (.int .u8 y)) :
    Calls Try.prog 20 #[.slice (some ⟨b, off, none⟩) n c, .int .i64 4] w fun e w' => e = .returned (.bool (fit4 n x y)) ∧ w' = w := by
  have hl0 : (0 : Int) < (n : Int) := by omega
  by_cases h2 : 4 ≤ n
  · have hl1 : ¬ (n : Int) < 4 := by omega
    have hl2 : (1 : Int) < (n : Int) := by omega
    replace h1 := h1 (by omega)
    by_cases hL : leadB x = true
    · have R : Hid (fit4 n x y = digB y) := by show _ = _; simp [fit4, h2, hL]
      go_enter Try.func20, Try.ntmps20
      go_wp2_with (first | (go_at_call 23; refine (lead_any x hx0 hx1 _).mono ?_; rintro e w' ⟨rfl, rfl⟩; rw [hL]) | (go_at_call 25; refine (dig_any y hy0 hy1 _).mono ?_; rintro e w' ⟨rfl, rfl⟩))
      go_ret
      exact ⟨ret_bool R.out.symm, rfl⟩
    · have hL' : leadB x = false := by simpa using hL
      have R : Hid (fit4 n x y = false) := by show _ = _; simp [fit4, hL']
      clear hL
      go_enter Try.func20, Try.ntmps20
      go_wp2_with (first | (go_at_call 23; refine (lead_any x hx0 hx1 _).mono ?_; rintro e w' ⟨rfl, rfl⟩; rw [hL']))
      go_ret
      exact ⟨ret_bool R.out.symm, rfl⟩
  · have hl1 : (n : Int) < 4 := by omega
    have R : Hid (fit4 n x y = false) := by show _ = _; simp [fit4]; omega
    go_enter Try.func20, Try.ntmps20
    go_wp2
    go_ret
    exact ⟨ret_bool R.out.symm, rfl⟩

/-! ### The plain law: the search comes to codeLength's answer -/
theorem leadB_true {x : Int} (h : leadB x = true) : 129 ≤ x ∧ x ≤ 254 := by simpa [leadB] using h
theorem leadB_false {x : Int} (h : leadB x = false) : ¬ (129 ≤ x ∧ x ≤ 254) := by simpa only [leadB, decide_eq_false_iff_not] using h
theorem fin1 {n : Nat} {x y : Int} (h : decide (x < 128) = true) : clen n x y = 1 := clen_1 (by simpa using h)
theorem fin2 {n : Nat} {x y : Int} (h : fit2 n x y = true) : clen n x y = 2 := by
  simp only [fit2, leadB, trailB, Bool.and_eq_true, decide_eq_true_eq] at h
  exact clen_2 (by omega) (by omega) (by omega)
theorem fin4 {n : Nat} {x y : Int} (h2 : fit2 n x y = false) (h : fit4 n x y = true) : clen n x y = 4 := by
  simp only [fit4, leadB, digB, Bool.and_eq_true, decide_eq_true_eq] at h
  exact clen_4 (by omega) (by omega) (by omega) (by omega)
theorem fin0 {n : Nat} {x y : Int} (hx0 : 0 ≤ x) (hx1 : x ≤ 255) (h1 : decide (x < 128) = false) (h2 : fit2 n x y = false) (h4 : fit4 n x y = false) : clen n x y = 0 := by
  simp only [decide_eq_false_iff_not] at h1
  by_cases c2 : x = 128 ∨ x = 255 ∨ n < 2
  · exact clen_0 h1 c2
  have hl : leadB x = true := by simp only [leadB, decide_eq_true_eq]; omega
  simp only [fit2, fit4, hl, trailB, digB, Bool.true_and, Bool.and_eq_false_iff, decide_eq_false_iff_not] at h2 h4
  exact clen_5 h1 c2 (by omega) (by omega)

set_option maxHeartbeats 1000000 in
/-- zzB1ModelCodeLength. -/
theorem search_any (b off n c : Nat) (x y : Int) (hx0 : 0 ≤ x) (hx1 : x ≤ 255) (hy0 : 0 ≤ y) (hy1 : y ≤ 255) (hn : 1 ≤ n) (w : World) (h0 : w.cell? ⟨b, off, none⟩ = some (.int .u8 x)) (h1 : 2 ≤ n → w.cell? ⟨b, off + 1, none⟩ = some (.int .u8 y)) :
    Calls Try.prog 12 #[.slice (some ⟨b, off, none⟩) n c] w fun e w' => e = .returned (.int .i64 (clen n x y)) ∧ w' = w := by
  have C1 := Lib.hid (fit_1 b off n c x hx0 hx1 hn w h0)
  have C2 := Lib.hid (fit_2 b off n c x y hx0 hx1 hy0 hy1 hn w h0 h1)
  have C4 := Lib.hid (fit_4 b off n c x y hx0 hx1 hy0 hy1 hn w h0 h1)
  clear h0 h1
  go_enter Try.func12, Try.ntmps12
  go_wp2
  go_loop [3] (fun i => ∃ k : Nat, 1 ≤ k ∧ k ≤ 5 ∧ i = .int .i64 k ∧ (1 < k → decide (x < 128) = false) ∧ (2 < k → fit2 n x y = false) ∧ (4 < k → fit4 n x y = false)) (fun i => 5 - (intOf i).toNat)
  case atStart => exact ⟨1, by omega, by omega, rfl, by omega, by omega, by omega⟩
  case round =>
    obtain ⟨k, hk1, hk5, rfl, e1, e2, e4⟩ := hrel
    have E1 := Lib.hid e1
    have E2 := Lib.hid e2
    have E4 := Lib.hid e4
    clear e1 e2 e4
    obtain rfl | rfl | rfl | rfl | rfl : k = 1 ∨ k = 2 ∨ k = 3 ∨ k = 4 ∨ k = 5 := by omega
    · rcases Bool.eq_false_or_eq_true (decide (x < 128)) with hf | hf
      rotate_left
      · have HF := Lib.hid hf
        clear hf
        go_wp2_with (go_at_call 20; refine C1.out.mono ?_; rintro e w' ⟨rfl, rfl⟩; rw [HF.out])
        go_round
        case rel => exact ⟨2, by omega, by omega, rfl, fun _ => HF.out, by omega, by omega⟩
        case measure => simp [intOf]
      · have HF := Lib.hid hf
        clear hf
        go_wp2_with (go_at_call 20; refine C1.out.mono ?_; rintro e w' ⟨rfl, rfl⟩; rw [HF.out])
        go_ret
        exact ⟨ret_int (fin1 HF.out).symm, rfl⟩
    · rcases Bool.eq_false_or_eq_true (fit2 n x y) with hf | hf
      rotate_left
      · have HF := Lib.hid hf
        clear hf
        go_wp2_with (go_at_call 20; refine C2.out.mono ?_; rintro e w' ⟨rfl, rfl⟩; rw [HF.out])
        go_round
        case rel => exact ⟨3, by omega, by omega, rfl, fun _ => E1.out (by omega), fun _ => HF.out, by omega⟩
        case measure => simp [intOf]
      · have HF := Lib.hid hf
        clear hf
        go_wp2_with (go_at_call 20; refine C2.out.mono ?_; rintro e w' ⟨rfl, rfl⟩; rw [HF.out])
        go_ret
        exact ⟨ret_int (fin2 HF.out).symm, rfl⟩
    · go_wp2
      go_round
      case rel => exact ⟨4, by omega, by omega, rfl, fun _ => E1.out (by omega), fun _ => E2.out (by omega), by omega⟩
      case measure => simp [intOf]
    · rcases Bool.eq_false_or_eq_true (fit4 n x y) with hf | hf
      rotate_left
      · have HF := Lib.hid hf
        clear hf
        go_wp2_with (go_at_call 20; refine C4.out.mono ?_; rintro e w' ⟨rfl, rfl⟩; rw [HF.out])
        go_round
        case rel => exact ⟨5, by omega, by omega, rfl, fun _ => E1.out (by omega), fun _ => E2.out (by omega), fun _ => HF.out⟩
        case measure => simp [intOf]
      · have HF := Lib.hid hf
        clear hf
        go_wp2_with (go_at_call 20; refine C4.out.mono ?_; rintro e w' ⟨rfl, rfl⟩; rw [HF.out])
        go_ret
        exact ⟨ret_int (fin4 (E2.out (by omega)) HF.out).symm, rfl⟩
    · go_wp2
      go_ret
      exact ⟨ret_int (fin0 hx0 hx1 (E1.out (by omega)) (E2.out (by omega)) (E4.out (by omega))).symm, rfl⟩
end Go.Proofs.Qxb6000058a
