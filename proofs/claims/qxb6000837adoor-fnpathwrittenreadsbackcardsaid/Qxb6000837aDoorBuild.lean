/-
  zzBuildPath: a new block a step.
-/
import Derived.Test.Qxb6000837aDoorArgs
import Derived.LoopTactic
import Derived.Deep.RegionWith
import Derived.BigRegion
namespace Go.Proofs.Qxb6000837aDoor
open Go.RowKit
set_option linter.unusedVariables false

/-- The first k steps, the last ahead. -/
def stepsTo (S : Nat → ByteArray) (Ix : Nat → Int) : Nat → Steps
  | 0 => []
  | k + 1 => (S k, Ix k) :: stepsTo S Ix k

theorem PathAt.form {w : World} {B : Nat} : ∀ {l : Steps} {p : Value}, PathAt w B l p → p = .pointer none ∨ ∃ k, p = .pointer (some ⟨k, 0, none⟩)
  | [], _, h => .inl h
  | _ :: _, _, ⟨k, _, h, _⟩ => .inr ⟨k, h⟩

/-- A step more, in a new block. -/
theorem PathAt.node {w W : World} {l : Steps} {p : Value} {s : ByteArray} {ix : Int} (h : PathAt w w.heap.size l p) (hr : -9223372036854775808 ≤ ix ∧ ix ≤ 9223372036854775807)
    (hh : W.heap = (w.alloc (.cells #[p, .string s, .int .i64 ix] 41)).heap) (ho : W.os = w.os) (ht : W.tape = w.tape) (hu : W.output = w.output) :
    PathAt W W.heap.size ((s, ix) :: l) (.pointer (some ⟨w.heap.size, 0, none⟩)) ∧ Below w.heap.size w W := by
  have hb0 : Below w.heap.size w (w.alloc (.cells #[p, .string s, .int .i64 ix] 41)) := (Below.refl _ _).alloc (Nat.le_refl _) _
  have hb : Below w.heap.size w W := ⟨ho, ht, hu, by rw [hh]; exact hb0.size, fun k hk => by rw [hh]; exact hb0.block k hk⟩
  have hs2 : W.heap.size = w.heap.size + 1 := by rw [hh]; simp
  have hc : ∀ x : Addr, W.cell? x = (w.alloc (.cells #[p, .string s, .int .i64 ix] 41)).cell? x := fun x => by simp only [World.cell?, hh]
  refine ⟨?_, hb⟩
  rw [hs2]
  exact ⟨w.heap.size, p, rfl, by omega, by rw [hc]; simp, by rw [hc]; simp, by rw [hc]; simp, hr, (h.on (Nat.le_refl _) hb).up (by omega)⟩

set_option maxHeartbeats 1600000 in
theorem build_any (a1 a2 : Option Addr) (n1 n2 c1 c2 n : Nat) (S : Nat → ByteArray) (Ix : Nat → Int) (w : World) (hn1 : n ≤ n1) (hn2 : n ≤ n2) (h1 : n1 ≤ 1048576) (h2 : n2 ≤ 1048576)
    (hrS : RowOf w a1 n1 (fun i => .string (S i))) (hrI : RowOf w a2 n2 (fun i => .int .i64 (Ix i))) (hix : ∀ i, i < n → -9223372036854775808 ≤ Ix i ∧ Ix i ≤ 9223372036854775807) :
    Calls Tryd.prog 13 #[.slice a1 n1 c1, .slice a2 n2 c2, .int .i64 n] w fun e w' => ∃ p, e = .returned p ∧ PathAt w' w'.heap.size (stepsTo S Ix n) p ∧ Below w.heap.size w w' := by
  have H1 := Lib.hid hrS
  have H2 := Lib.hid hrI
  have H3 := Lib.hid hix
  clear hrS hrI hix
  go_enter Tryd.func13, Tryd.ntmps13
  go_wp2
  go_loopw [7, 8] (fun p i wr => ∃ k : Nat, k ≤ n ∧ i = .int .i64 k ∧ PathAt wr wr.heap.size (stepsTo S Ix k) p ∧ Below w.heap.size w wr) (fun _ i _ => n - (intOf i).toNat)
  case atStart => exact ⟨0, Nat.zero_le _, rfl, rfl, Below.refl _ _⟩
  case round =>
    obtain ⟨k, hk, rfl, hp, hb⟩ := hrel
    by_cases hlt : k < n
    · obtain ⟨b1, o1, ha1, hl1, hc1⟩ := H1.out k (by omega)
      obtain ⟨b2, o2, ha2, hl2, hc2⟩ := H2.out k (by omega)
      have e1 : wr.cell? ⟨b1, o1 + k, none⟩ = some (.string (S k)) := (hb.cell (p := ⟨b1, o1 + k, none⟩) hl1).trans hc1
      have e2 : wr.cell? ⟨b2, o2 + k, none⟩ = some (.int .i64 (Ix k)) := (hb.cell (p := ⟨b2, o2 + k, none⟩) hl2).trans hc2
      subst ha1
      subst ha2
      have k1 : (k : Int) < (n1 : Int) := by omega
      have k2 : (k : Int) < (n2 : Int) := by omega
      have HP := Lib.hid hp
      have HB := Lib.hid hb
      clear hp hb hc1 hc2
      go_wp2
      go_region_with (go_at_call 7; refine (new_any _ _ _ _ HP.out.form).mono ?_; rintro e w1 ⟨rfl, rfl⟩)
      all_goals
        go_wp2
        go_roundw
        case rel =>
          obtain ⟨q1, q2⟩ := PathAt.node (s := S k) HP.out (H3.out k hlt) (W := (wr.alloc (.cells #[_, .string (S k), .int .i64 (Ix k)] 41)).drew) rfl rfl rfl rfl
          exact ⟨k + 1, by omega, by go_num, q1, HB.out.trans (q2.mono HB.out.size)⟩
        case measure => simp [intOf]; omega
    · have ek : k = n := by omega
      subst ek
      have HP := Lib.hid hp
      have HB := Lib.hid hb
      clear hp hb
      go_wp2
      go_ret
      exact ⟨_, rfl, HP.out, HB.out⟩
end Go.Proofs.Qxb6000837aDoor
