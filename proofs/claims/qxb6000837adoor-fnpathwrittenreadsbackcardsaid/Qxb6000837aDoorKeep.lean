/-
  The plain law: a path written behind bs is bs, a point where the path opens with a member, and the path as written on its own. No Go in sight.
-/
import Derived.Test.Qxb6000837aDoorBuild
import Derived.Test.Qxb6000837aDoorBytes
namespace Go.Proofs.Qxb6000837aDoor

/-- What stands between. -/
def sepB (bs : List UInt8) (Ix : Nat → Int) (n : Nat) : List UInt8 := if bs ≠ [] ∧ 0 < n ∧ Ix 0 < 0 then [46] else []

theorem memB_pre {pre Y : List UInt8} (hY : Y ≠ []) (nm : List UInt8) : memB (pre ++ Y) nm = pre ++ memB Y nm := by
  simp [memB, hY]

theorem keep_aux (bs : List UInt8) (S : Nat → ByteArray) (Ix : Nat → Int) (hbs : bs ≠ []) (h0 : Ix 0 < 0 → (S 0).data.toList ≠ []) :
    ∀ k, wrt [] (stepsTo S Ix (k + 1)) ≠ [] ∧ wrt bs (stepsTo S Ix (k + 1)) = (bs ++ sepB bs Ix 1) ++ wrt [] (stepsTo S Ix (k + 1))
  | 0 => by
    by_cases h : Ix 0 < 0
    · have hs := h0 h
      simp [stepsTo, wrt, h, memB, hbs, sepB]
      simpa using hs
    · simp [stepsTo, wrt, h, elemB, hbs, sepB]
  | k + 1 => by
    obtain ⟨h1, h2⟩ := keep_aux bs S Ix hbs h0 k
    have e : stepsTo S Ix (k + 1 + 1) = (S (k + 1), Ix (k + 1)) :: stepsTo S Ix (k + 1) := rfl
    rw [e]
    by_cases h : Ix (k + 1) < 0
    · simp only [wrt, h, if_true]
      rw [h2, memB_pre h1]
      exact ⟨by simp [memB, h1], rfl⟩
    · simp only [wrt, h, if_false]
      rw [h2]
      exact ⟨by simp [elemB], by simp⟩

theorem keep (bs : List UInt8) (S : Nat → ByteArray) (Ix : Nat → Int) (n : Nat) (h : ¬ (bs ≠ [] ∧ 0 < n ∧ Ix 0 < 0 ∧ (S 0).data.toList = [])) :
    wrt bs (stepsTo S Ix n) = bs ++ (sepB bs Ix n ++ wrt [] (stepsTo S Ix n)) := by
  by_cases hbs : bs = []
  · subst hbs; simp [sepB]
  · cases n with
    | zero => simp [stepsTo, wrt, sepB]
    | succ k =>
      have := (keep_aux bs S Ix hbs (fun hx hs => h ⟨hbs, by omega, hx, hs⟩) k).2
      rw [this, List.append_assoc]
      simp [sepB, hbs]

theorem cost_steps (S : Nat → ByteArray) (Ix : Nat → Int) : ∀ n, cost (stepsTo S Ix n) = sumS S n + 24 * n
  | 0 => rfl
  | k + 1 => by simp only [stepsTo, cost, sumS, cost_steps S Ix k]; omega

theorem getD_left {a b : List UInt8} {i : Nat} (h : i < a.length) : (a ++ b).getD i 0 = a.getD i 0 := by
  rw [List.getD_eq_getElem?_getD, List.getElem?_append_left h, ← List.getD_eq_getElem?_getD]
theorem getD_right {a b : List UInt8} {i : Nat} : (a ++ b).getD (a.length + i) 0 = b.getD i 0 := by
  rw [List.getD_eq_getElem?_getD, List.getElem?_append_right (by omega), ← List.getD_eq_getElem?_getD]
  congr 1; omega

open Go.RowKit in
/-- What is owned, as a row. -/
theorem owns_rowOf {w : World} {B n : Nat} {v : Value} {bs : List UInt8} (h : w.ownsRow B 5 1 v n (Lib.byteCells bs)) :
    bs.length = n ∧ ∃ a c, v = .slice a n c ∧ (a = none → n = 0 ∧ c = 0) ∧ RowOf w a n (byteAt bs) := by
  have hl : bs.length = n := by have := h.1; simpa [Lib.byteCells] using this
  refine ⟨hl, ?_⟩
  have hc := h
  rcases h.2 with ⟨rfl, rfl⟩ | ⟨g, cap, cur, rfl, hg, hh, _⟩
  · exact ⟨none, 0, rfl, fun _ => ⟨rfl, rfl⟩, fun i hi => by omega⟩
  · refine ⟨_, cap, rfl, (fun h => by cases h), fun i hi => ⟨g, 0, rfl, (Array.getElem?_eq_some_iff.1 hh).1, ?_⟩⟩
    have := hc.cells (g := g) rfl i (byteAt bs i) (byteCells_at bs (by omega))
    rwa [WideShapes.add_plain] at this

/-- Nothing but draws has been made. -/
def Same (w w' : World) : Prop := w'.heap = w.heap ∧ w'.os = w.os ∧ w'.tape = w.tape ∧ w'.output = w.output
theorem Same.refl (w : World) : Same w w := ⟨rfl, rfl, rfl, rfl⟩
theorem Same.drewN {w w' : World} (h : Same w w') (n : Nat) : Same w (w'.drewN n) := h
theorem Same.cell {w w' : World} (h : Same w w') (a : Addr) : w'.cell? a = w.cell? a := by simp only [World.cell?, h.1]
open Go.RowKit in
theorem Same.below {w w' : World} (h : Same w w') (B : Nat) : Below B w w' := ⟨h.2.1, h.2.2.1, h.2.2.2, by rw [h.1]; exact Nat.le_refl _, fun k _ => by rw [h.1]⟩
end Go.Proofs.Qxb6000837aDoor
