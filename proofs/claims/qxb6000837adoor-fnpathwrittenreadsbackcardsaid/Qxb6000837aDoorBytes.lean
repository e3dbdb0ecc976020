/-
  The two bounds on the total length (zzBytes_..), zzStepBytes.
-/
import Derived.Test.Qxb6000837aDoorArgs
import Derived.LoopTactic
namespace Go.Proofs.Qxb6000837aDoor
open Go.RowKit
set_option linter.unusedVariables false

/-- The sizes of the first k names, added up. -/
def sumS (S : Nat → ByteArray) : Nat → Nat
  | 0 => 0
  | k + 1 => sumS S k + (S k).size
theorem sumS_succ (S : Nat → ByteArray) (k : Nat) : sumS S (k + 1) = sumS S k + (S k).size := rfl
theorem sumS_mono (S : Nat → ByteArray) {j k : Nat} (h : j ≤ k) : sumS S j ≤ sumS S k := by
  induction k with
  | zero => obtain rfl : j = 0 := by omega
            exact Nat.le_refl _
  | succ k ih =>
    rcases Nat.lt_or_ge j (k + 1) with h' | h'
    · have := ih (by omega); rw [sumS_succ]; omega
    · obtain rfl : j = k + 1 := by omega
      exact Nat.le_refl _
/-- A bool comes back; where it is true, q holds. -/
def Answers (q : Prop) (e : Ending) : Prop := ∃ r, e = .returned (.bool r) ∧ (r = true → q)
theorem Answers.no {q : Prop} : Answers q (.returned (.bool false)) := ⟨false, rfl, fun h => by cases h⟩
theorem Answers.yes {q : Prop} (h : q) : Answers q (.returned (.bool true)) := ⟨true, rfl, fun _ => h⟩
theorem ret_bool' {a b : Bool} (h : a = b) : Ending.returned (.bool a) = .returned (.bool b) := by rw [h]

set_option maxHeartbeats 1000000 in
theorem bytes15 (a0 a1 a2 : Option Addr) (n0 n1 n2 c0 c1 c2 : Nat) (S : Nat → ByteArray) (w : World) (h0 : n0 ≤ 9223372036854775807) (h1 : n1 ≤ 9223372036854775807) (h2 : n2 ≤ 9223372036854775807)
    (hrow : RowOf w a1 n1 (fun i => .string (S i))) :
    Calls Tryd.prog 15 #[.slice a0 n0 c0, .slice a1 n1 c1, .slice a2 n2 c2] w fun e w' => Answers (n0 + n1 + sumS S n1 + n2 ≤ 1048576) e ∧ w' = w := by
  by_cases b0 : 1048576 < n0
  · have b0' : (1048576 : Int) < (n0 : Int) := by omega
    clear hrow
    go_enter Tryd.func15, Tryd.ntmps15
    go_wp2
    go_ret
    exact ⟨Answers.no, rfl⟩
  have b0' : ¬ (1048576 : Int) < (n0 : Int) := by omega
  by_cases b1 : 1048576 < n1
  · have b1' : (1048576 : Int) < (n1 : Int) := by omega
    clear hrow
    go_enter Tryd.func15, Tryd.ntmps15
    go_wp2
    go_ret
    exact ⟨Answers.no, rfl⟩
  have b1' : ¬ (1048576 : Int) < (n1 : Int) := by omega
  by_cases b2 : 1048576 < n0 + n1
  · have b2' : (1048576 : Int) < (n0 : Int) + (n1 : Int) := by omega
    clear hrow
    go_enter Tryd.func15, Tryd.ntmps15
    go_wp2
    go_ret
    exact ⟨Answers.no, rfl⟩
  have b2' : ¬ (1048576 : Int) < (n0 : Int) + (n1 : Int) := by omega
  have HR := Lib.hid hrow
  clear hrow
  go_enter Tryd.func15, Tryd.ntmps15
  go_wp2
  go_loop [7, 8] (fun t i => ∃ k : Nat, k ≤ n1 ∧ i = .int .i64 k ∧ n0 + n1 + sumS S k ≤ 1048576 ∧ t = .int .i64 ((n0 : Int) + n1 + sumS S k)) (fun _ i => n1 - (intOf i).toNat)
  case atStart => exact ⟨0, Nat.zero_le _, rfl, by simp [sumS]; omega, by simp [sumS]⟩
  case round =>
    obtain ⟨k, hk, rfl, hle, rfl⟩ := hrel
    by_cases hlt : k < n1
    · obtain ⟨b, off, ha, -, hc⟩ := HR.out k hlt
      subst ha
      obtain ⟨s, hs⟩ : ∃ s, s = S k := ⟨_, rfl⟩
      have hc' : w.cell? ⟨b, off + k, none⟩ = some (.string s) := by rw [hs]; exact hc
      have HS : Hid (sumS S (k + 1) = sumS S k + s.size) := by show _ = _; rw [hs]; rfl
      clear hs hc
      by_cases d1 : 1048576 < s.size
      · have d1' : (1048576 : Int) < (s.size : Int) := by omega
        go_wp2
        go_ret
        exact ⟨Answers.no, rfl⟩
      have d1' : ¬ (1048576 : Int) < (s.size : Int) := by omega
      by_cases d2 : 1048576 < n0 + n1 + sumS S k + s.size
      · have d2' : (1048576 : Int) < (n0 : Int) + n1 + sumS S k + s.size := by omega
        go_wp2
        go_ret
        exact ⟨Answers.no, rfl⟩
      have d2' : ¬ (1048576 : Int) < (n0 : Int) + n1 + sumS S k + s.size := by omega
      go_wp2
      go_round
      case rel => exact ⟨k + 1, by omega, by go_num, by rw [HS.out]; omega, by rw [HS.out]; go_num⟩
      case measure => simp [intOf]; omega
    · have ek : k = n1 := by omega
      subst ek
      by_cases d3 : 1048576 < n2
      · have d3' : (1048576 : Int) < (n2 : Int) := by omega
        go_wp2
        go_ret
        exact ⟨Answers.no, rfl⟩
      have d3' : ¬ (1048576 : Int) < (n2 : Int) := by omega
      by_cases d4 : 1048576 < n0 + k + sumS S k + n2
      · have d4' : (1048576 : Int) < (n0 : Int) + k + sumS S k + n2 := by omega
        go_wp2
        go_ret
        exact ⟨Answers.no, rfl⟩
      have d4' : ¬ (1048576 : Int) < (n0 : Int) + k + sumS S k + n2 := by omega
      go_wp2
      go_ret
      exact ⟨Answers.yes (by omega), rfl⟩
set_option maxHeartbeats 1000000 in
theorem bytes9 (a1 a2 : Option Addr) (n1 n2 c1 c2 : Nat) (S : Nat → ByteArray) (w : World) (h1 : n1 ≤ 9223372036854775807) (h2 : n2 ≤ 9223372036854775807)
    (hrow : RowOf w a1 n1 (fun i => .string (S i))) :
    Calls Tryd.prog 9 #[.slice a1 n1 c1, .slice a2 n2 c2] w fun e w' => Answers (n1 + sumS S n1 + n2 ≤ 1048576) e ∧ w' = w := by
  by_cases b1 : 1048576 < n1
  · have b1' : (1048576 : Int) < (n1 : Int) := by omega
    clear hrow
    go_enter Tryd.func9, Tryd.ntmps9
    go_wp2
    go_ret
    exact ⟨Answers.no, rfl⟩
  have b1' : ¬ (1048576 : Int) < (n1 : Int) := by omega
  have HR := Lib.hid hrow
  clear hrow
  go_enter Tryd.func9, Tryd.ntmps9
  go_wp2
  go_loop [5, 6] (fun t i => ∃ k : Nat, k ≤ n1 ∧ i = .int .i64 k ∧ n1 + sumS S k ≤ 1048576 ∧ t = .int .i64 ((n1 : Int) + sumS S k)) (fun _ i => n1 - (intOf i).toNat)
  case atStart => exact ⟨0, Nat.zero_le _, rfl, by simp [sumS]; omega, by simp [sumS]⟩
  case round =>
    obtain ⟨k, hk, rfl, hle, rfl⟩ := hrel
    by_cases hlt : k < n1
    · obtain ⟨b, off, ha, -, hc⟩ := HR.out k hlt
      subst ha
      obtain ⟨s, hs⟩ : ∃ s, s = S k := ⟨_, rfl⟩
      have hc' : w.cell? ⟨b, off + k, none⟩ = some (.string s) := by rw [hs]; exact hc
      have HS : Hid (sumS S (k + 1) = sumS S k + s.size) := by show _ = _; rw [hs]; rfl
      clear hs hc
      by_cases d1 : 1048576 < s.size
      · have d1' : (1048576 : Int) < (s.size : Int) := by omega
        go_wp2
        go_ret
        exact ⟨Answers.no, rfl⟩
      have d1' : ¬ (1048576 : Int) < (s.size : Int) := by omega
      by_cases d2 : 1048576 < n1 + sumS S k + s.size
      · have d2' : (1048576 : Int) < (n1 : Int) + sumS S k + s.size := by omega
        go_wp2
        go_ret
        exact ⟨Answers.no, rfl⟩
      have d2' : ¬ (1048576 : Int) < (n1 : Int) + sumS S k + s.size := by omega
      go_wp2
      go_round
      case rel => exact ⟨k + 1, by omega, by go_num, by rw [HS.out]; omega, by rw [HS.out]; go_num⟩
      case measure => simp [intOf]; omega
    · have ek : k = n1 := by omega
      subst ek
      by_cases d3 : 1048576 < n2
      · have d3' : (1048576 : Int) < (n2 : Int) := by omega
        go_wp2
        go_ret
        exact ⟨Answers.no, rfl⟩
      have d3' : ¬ (1048576 : Int) < (n2 : Int) := by omega
      by_cases d4 : 1048576 < k + sumS S k + n2
      · have d4' : (1048576 : Int) < (k : Int) + sumS S k + n2 := by omega
        go_wp2
        go_ret
        exact ⟨Answers.no, rfl⟩
      have d4' : ¬ (1048576 : Int) < (k : Int) + sumS S k + n2 := by omega
      go_wp2
      go_ret
      exact ⟨Answers.yes (by omega), rfl⟩

/-- An int comes back, from 0 to 2^41. -/
def Counts (e : Ending) : Prop := ∃ T : Int, e = .returned (.int .i64 T) ∧ 0 ≤ T ∧ T ≤ 2199023255552
theorem Counts.mk' {T : Int} (h0 : 0 ≤ T) (h1 : T ≤ 2199023255552) : Counts (.returned (.int .i64 T)) := ⟨T, rfl, h0, h1⟩

set_option maxHeartbeats 1000000 in
theorem steps_any (a1 a2 : Option Addr) (n1 n2 c1 c2 : Nat) (S : Nat → ByteArray) (w : World) (h1 : n1 ≤ 1048576) (h2 : n2 ≤ 1048576) (hs : sumS S n1 ≤ 1048576)
    (hrow : RowOf w a1 n1 (fun i => .string (S i))) :
    Calls Tryd.prog 10 #[.slice a1 n1 c1, .slice a2 n2 c2] w fun e w' => Counts e ∧ w' = w := by
  have HR := Lib.hid hrow
  clear hrow
  go_enter Tryd.func10, Tryd.ntmps10
  go_wp2
  go_loop [5, 6] (fun t i => ∃ k : Nat, k ≤ n1 ∧ i = .int .i64 k ∧ t = .int .i64 (16 * (n1 : Int) + 8 * (n2 : Int) + sumS S k)) (fun _ i => n1 - (intOf i).toNat)
  case atStart => exact ⟨0, Nat.zero_le _, rfl, by simp [sumS]⟩
  case round =>
    obtain ⟨k, hk, rfl, rfl⟩ := hrel
    have hm := sumS_mono S hk
    by_cases hlt : k < n1
    · obtain ⟨b, off, ha, -, hc⟩ := HR.out k hlt
      subst ha
      obtain ⟨s, hs'⟩ : ∃ s, s = S k := ⟨_, rfl⟩
      have hc' : w.cell? ⟨b, off + k, none⟩ = some (.string s) := by rw [hs']; exact hc
      have HS : Hid (sumS S (k + 1) = sumS S k + s.size) := by show _ = _; rw [hs']; rfl
      have hm2 : sumS S k + s.size ≤ 1048576 := by have := sumS_mono S (show k + 1 ≤ n1 by omega); rw [HS.out] at this; omega
      clear hs' hc
      by_cases d2 : 1048576 < 16 * (n1 : Int) + 8 * (n2 : Int) + sumS S k + s.size
      · go_wp2
        go_ret
        exact ⟨Counts.mk' (by omega) (by omega), rfl⟩
      · go_wp2
        go_round
        case rel => exact ⟨k + 1, by omega, by go_num, by rw [HS.out]; go_num⟩
        case measure => simp [intOf]; omega
    · go_wp2
      go_ret
      exact ⟨Counts.mk' (by omega) (by omega), rfl⟩
end Go.Proofs.Qxb6000837aDoor
