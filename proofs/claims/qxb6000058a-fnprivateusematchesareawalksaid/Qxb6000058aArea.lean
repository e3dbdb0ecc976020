/-
  The contracts of zzB1WalkArea and zzB1ModelPrivateUse: the walk over an area gives the code point by division into rows.
-/
import Derived.Test.Qxb6000058aCalls
import Derived.LoopTactic
namespace Go.Proofs.Qxb6000058a
open Go.RowKit
set_option linter.unusedVariables false

/-! ### The plain functions: how many columns lie ahead of s; the point at which row f begins -/
def col (sLo s : Int) : Int := if sLo ≤ 127 ∧ 127 < s then s - sLo - 1 else s - sLo
def nxt (start fLo W f : Int) : Int := start + (f - fLo) * W
theorem col_start (sLo : Int) : col sLo sLo = 0 := by unfold col; split <;> omega
theorem col_succ (sLo s : Int) (h : s ≠ 127) : col sLo (s + 1) = col sLo s + 1 := by unfold col; split <;> split <;> omega
theorem col_gap (sLo : Int) (h : sLo ≤ 127) : col sLo (127 + 1) = col sLo 127 := by unfold col; split <;> split <;> omega
theorem col_bd (sLo s : Int) (h0 : 0 ≤ sLo) (h : sLo ≤ s) (h1 : s ≤ 256) : 0 ≤ col sLo s ∧ col sLo s ≤ 256 := by unfold col; split <;> omega
theorem nxt_start (start fLo W : Int) : nxt start fLo W fLo = start := by unfold nxt; rw [Int.sub_self, Int.zero_mul]; omega
theorem nxt_succ (start fLo W f : Int) : nxt start fLo W (f + 1) = nxt start fLo W f + W := by
  unfold nxt
  have : f + 1 - fLo = (f - fLo) + 1 := by omega
  rw [this, Int.add_mul, Int.one_mul]; omega
theorem nxt_bd (start fLo W f : Int) (h0 : 0 ≤ fLo) (h : fLo ≤ f) (h1 : f ≤ 256) (hW : 0 ≤ W) (hW1 : W ≤ 256) : start ≤ nxt start fLo W f ∧ nxt start fLo W f ≤ start + 65536 := by
  unfold nxt
  have a1 : 0 ≤ (f - fLo) * W := Int.mul_nonneg (by omega) hW
  have a2 : (f - fLo) * W ≤ 256 * 256 := Int.mul_le_mul (by omega) hW1 hW (by omega)
  omega

theorem ret_three {a b : Int} (h : a = b) (v : Bool) (c d : Int) (h2 : c = d) : Ending.returned (.tuple #[.int .i32 a, .bool v, .int .i32 c]) = .returned (.tuple #[.int .i32 b, .bool v, .int .i32 d]) := by rw [h, h2]

set_option maxHeartbeats 1000000 in
/-- The code lies in no cell of the area: (0, false, the next free point). -/
theorem area_miss (x y fLo fHi sLo sHi start : Int) (f0 : 0 ≤ fLo) (f1 : fLo ≤ fHi) (f2 : fHi ≤ 255) (s0 : 0 ≤ sLo) (s1 : sLo ≤ sHi) (s2 : sHi ≤ 255) (t0 : 0 ≤ start) (t1 : start ≤ 100000)
    (hm : ¬ (fLo ≤ x ∧ x ≤ fHi ∧ sLo ≤ y ∧ y ≤ sHi ∧ y ≠ 127)) (w : World) :
    Calls Try.prog 22 #[.int .i64 x, .int .i64 y, .int .i64 fLo, .int .i64 fHi, .int .i64 sLo, .int .i64 sHi, .int .i32 start] w
      fun e w' => e = .returned (.tuple #[.int .i32 0, .bool false, .int .i32 (nxt start fLo (col sLo (sHi + 1)) (fHi + 1))]) ∧ w' = w := by
  have Hm : Hid (¬ (fLo ≤ x ∧ x ≤ fHi ∧ sLo ≤ y ∧ y ≤ sHi ∧ y ≠ 127)) := hm
  clear hm
  have wb := col_bd sLo (sHi + 1) s0 (by omega) (by omega)
  obtain ⟨wb0, wb1⟩ := wb
  go_enter Try.func22, Try.ntmps22
  go_wp2
  go_loop [17, 18] (fun t u => ∃ f : Int, fLo ≤ f ∧ f ≤ fHi + 1 ∧ u = .int .i64 f ∧ t = .int .i32 (nxt start fLo (col sLo (sHi + 1)) f)) (fun _ u => (fHi + 1 - intOf u).toNat)
  case atStart => exact ⟨fLo, by omega, by omega, rfl, by rw [nxt_start]⟩
  case round =>
    obtain ⟨f, hf0, hf1, rfl, rfl⟩ := hrel
    have nb := nxt_bd start fLo (col sLo (sHi + 1)) f f0 hf0 (by omega) wb0 wb1
    obtain ⟨nb0, nb1⟩ := nb
    by_cases hlt : f ≤ fHi
    · go_wp2
      go_loop [17, 19] (fun t u => ∃ s : Int, sLo ≤ s ∧ s ≤ sHi + 1 ∧ u = .int .i64 s ∧ t = .int .i32 (nxt start fLo (col sLo (sHi + 1)) f + col sLo s)) (fun _ u => (sHi + 1 - intOf u).toNat)
      case atStart => exact ⟨sLo, by omega, by omega, rfl, by rw [col_start, Int.add_zero]⟩
      case round =>
        obtain ⟨s, hs0, hs1, rfl, rfl⟩ := hrel
        have cb := col_bd sLo s s0 hs0 (by omega)
        obtain ⟨cb0, cb1⟩ := cb
        by_cases hst : s ≤ sHi
        · by_cases h7 : s = 127
          · subst h7
            have E : Hid (col sLo (127 + 1) = col sLo 127) := col_gap sLo hs0
            go_wp2
            go_round
            case rel => exact ⟨127 + 1, by omega, by omega, rfl, by rw [E.out]⟩
            case measure => simp [intOf]; omega
          · have h7' : (s != 127) = true := by simpa using h7
            have E : Hid (col sLo (s + 1) = col sLo s + 1) := col_succ sLo s h7
            by_cases hx : f = x
            · have hx' : (f == x) = true := by simpa using hx
              have hy' : (s == y) = false := by
                have := Hm.out
                simp only [beq_eq_false_iff_ne]; omega
              clear hx h7
              go_wp2
              go_round
              case rel => exact ⟨s + 1, by omega, by omega, rfl, by rw [E.out]; go_num⟩
              case measure => simp [intOf]; omega
            · have hx' : (f == x) = false := by simpa using hx
              clear hx h7
              go_wp2
              go_round
              case rel => exact ⟨s + 1, by omega, by omega, rfl, by rw [E.out]; go_num⟩
              case measure => simp [intOf]; omega
        · have es : s = sHi + 1 := by omega
          subst es
          have E : Hid (nxt start fLo (col sLo (sHi + 1)) (f + 1) = nxt start fLo (col sLo (sHi + 1)) f + col sLo (sHi + 1)) := nxt_succ _ _ _ _
          go_wp2
          go_round
          case rel => exact ⟨f + 1, by omega, by omega, rfl, by rw [E.out]⟩
          case measure => simp [intOf]; omega
    · have ef : f = fHi + 1 := by omega
      subst ef
      go_wp2
      go_ret3
      exact ⟨rfl, rfl⟩

set_option maxHeartbeats 1000000 in
/-- The code lies in the area. -/
theorem area_hit (x y fLo fHi sLo sHi start : Int) (f0 : 0 ≤ fLo) (f1 : fLo ≤ fHi) (f2 : fHi ≤ 255) (s0 : 0 ≤ sLo) (s1 : sLo ≤ sHi) (s2 : sHi ≤ 255) (t0 : 0 ≤ start) (t1 : start ≤ 100000)
    (x0 : fLo ≤ x) (x1 : x ≤ fHi) (y0 : sLo ≤ y) (y1 : y ≤ sHi) (y2 : y ≠ 127) (w : World) :
    Calls Try.prog 22 #[.int .i64 x, .int .i64 y, .int .i64 fLo, .int .i64 fHi, .int .i64 sLo, .int .i64 sHi, .int .i32 start] w
      fun e w' => e = .returned (.tuple #[.int .i32 (nxt start fLo (col sLo (sHi + 1)) x + col sLo y), .bool true, .int .i32 (nxt start fLo (col sLo (sHi + 1)) x + col sLo y)]) ∧ w' = w := by
  have Hy : Hid (y ≠ 127) := y2
  clear y2
  have wb := col_bd sLo (sHi + 1) s0 (by omega) (by omega)
  obtain ⟨wb0, wb1⟩ := wb
  go_enter Try.func22, Try.ntmps22
  go_wp2
  go_loop [17, 18] (fun t u => ∃ f : Int, fLo ≤ f ∧ f ≤ x ∧ u = .int .i64 f ∧ t = .int .i32 (nxt start fLo (col sLo (sHi + 1)) f)) (fun _ u => (fHi + 1 - intOf u).toNat)
  case atStart => exact ⟨fLo, by omega, by omega, rfl, by rw [nxt_start]⟩
  case round =>
    obtain ⟨f, hf0, hf1, rfl, rfl⟩ := hrel
    have nb := nxt_bd start fLo (col sLo (sHi + 1)) f f0 hf0 (by omega) wb0 wb1
    obtain ⟨nb0, nb1⟩ := nb
    have hlt : f ≤ fHi := by omega
    go_wp2
    go_loop [17, 19] (fun t u => ∃ s : Int, sLo ≤ s ∧ s ≤ sHi + 1 ∧ (f < x ∨ s ≤ y) ∧ u = .int .i64 s ∧ t = .int .i32 (nxt start fLo (col sLo (sHi + 1)) f + col sLo s)) (fun _ u => (sHi + 1 - intOf u).toNat)
    case atStart => exact ⟨sLo, by omega, by omega, by omega, rfl, by rw [col_start, Int.add_zero]⟩
    case round =>
      obtain ⟨s, hs0, hs1, hsy, rfl, rfl⟩ := hrel
      have cb := col_bd sLo s s0 hs0 (by omega)
      obtain ⟨cb0, cb1⟩ := cb
      by_cases hst : s ≤ sHi
      · by_cases h7 : s = 127
        · subst h7
          have hy := Hy.out
          have hsy2 : f < x ∨ 127 + 1 ≤ y := by omega
          have E : Hid (col sLo (127 + 1) = col sLo 127) := col_gap sLo hs0
          clear hy hsy
          have H2 : Hid (f < x ∨ 127 + 1 ≤ y) := hsy2
          clear hsy2
          go_wp2
          go_round
          case rel => exact ⟨127 + 1, by omega, by omega, H2.out, rfl, by rw [E.out]⟩
          case measure => simp [intOf]; omega
        · have h7' : (s != 127) = true := by simpa using h7
          have E : Hid (col sLo (s + 1) = col sLo s + 1) := col_succ sLo s h7
          by_cases hx : f = x
          · by_cases hsy3 : s = y
            · subst hx; subst hsy3
              clear hsy h7
              go_wp2
              go_ret3
              exact ⟨rfl, rfl⟩
            · have hx' : (f == x) = true := by simpa using hx
              have hy' : (s == y) = false := by simpa using hsy3
              have H2 : Hid (f < x ∨ s + 1 ≤ y) := by show _ ∨ _; omega
              clear hx h7 hsy hsy3
              go_wp2
              go_round
              case rel => exact ⟨s + 1, by omega, by omega, H2.out, rfl, by rw [E.out]; go_num⟩
              case measure => simp [intOf]; omega
          · have hx' : (f == x) = false := by simpa using hx
            have H2 : Hid (f < x ∨ s + 1 ≤ y) := by show _ ∨ _; omega
            clear hx h7 hsy
            go_wp2
            go_round
            case rel => exact ⟨s + 1, by omega, by omega, H2.out, rfl, by rw [E.out]; go_num⟩
            case measure => simp [intOf]; omega
      · have es : s = sHi + 1 := by omega
        subst es
        have hfx : f < x := by omega
        have E : Hid (nxt start fLo (col sLo (sHi + 1)) (f + 1) = nxt start fLo (col sLo (sHi + 1)) f + col sLo (sHi + 1)) := nxt_succ _ _ _ _
        clear hsy
        go_wp2
        go_round
        case rel => exact ⟨f + 1, by omega, by omega, rfl, by rw [E.out]⟩
        case measure => simp [intOf]; omega
end Go.Proofs.Qxb6000058a
