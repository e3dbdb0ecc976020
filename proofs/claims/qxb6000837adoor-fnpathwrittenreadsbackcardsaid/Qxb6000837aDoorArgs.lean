/-
  Rows that came in, as functions of the index; zzMinLen, zzCloneBytes.
-/
import Derived.Test.Qxb6000837aDoorPath
import Derived.Lib.SliceRun
import Derived.Laws.CopyOwn
import Derived.Deep.OwnRows
import Derived.WideShapes
namespace Go.Proofs.Qxb6000837aDoor
open Go.RowKit
set_option linter.unusedVariables false

/-- The first n cells of a slice hold f 0, f 1, ..; (of a slice without elements nothing is said). -/
def RowOf (w : World) (a : Option Addr) (n : Nat) (f : Nat → Value) : Prop :=
  ∀ i, i < n → ∃ b off, a = some ⟨b, off, none⟩ ∧ b < w.heap.size ∧ w.cell? ⟨b, off + i, none⟩ = some (f i)

theorem RowOf.on {w w' : World} {a : Option Addr} {n : Nat} {f : Nat → Value} (h : RowOf w a n f) (hb : Below w.heap.size w w') : RowOf w' a n f := fun i hi => by
  obtain ⟨b, off, ha, hlt, hc⟩ := h i hi
  exact ⟨b, off, ha, by have := hb.size; omega, (hb.cell (p := ⟨b, off + i, none⟩) hlt).trans hc⟩

theorem RowOf.pos {w : World} {a : Option Addr} {n : Nat} {f : Nat → Value} (h : RowOf w a n f) (hn : 0 < n) : ∃ b off, a = some ⟨b, off, none⟩ ∧ b < w.heap.size ∧ ∀ i, i < n → w.cell? ⟨b, off + i, none⟩ = some (f i) := by
  obtain ⟨b, off, ha, hlt, _⟩ := h 0 hn
  refine ⟨b, off, ha, hlt, fun i hi => ?_⟩
  obtain ⟨b', off', ha', _, hc⟩ := h i hi
  rw [ha] at ha'
  obtain ⟨rfl, rfl⟩ : b = b' ∧ off = off' := by simpa using ha'
  exact hc

/-- A byte as a cell. -/
def byteAt (bs : List UInt8) (i : Nat) : Value := .int .u8 ((bs.getD i 0).toNat : Int)
theorem byteCells_at (bs : List UInt8) {i : Nat} (h : i < bs.length) : (Lib.byteCells bs)[i]? = some (byteAt bs i) := by
  rw [Lib.byteCells, List.getElem?_map, List.getElem?_eq_getElem h, byteAt, List.getD_eq_getElem?_getD, List.getElem?_eq_getElem h]; rfl

/-- What is owned is such a row. -/
theorem owns_row {w : World} {B n : Nat} {v : Value} {bs : List UInt8} (h : w.ownsRow B 5 1 v n (Lib.byteCells bs)) : bs.length = n ∧ ∃ a c, v = .slice a n c ∧ (n = 0 ∨ ∃ g, a = some ⟨g, 0, none⟩ ∧ B ≤ g ∧ g < w.heap.size ∧ ∀ i, i < n → w.cell? ⟨g, i, none⟩ = some (byteAt bs i)) := by
  have hl : bs.length = n := by have := h.1; simpa [Lib.byteCells] using this
  refine ⟨hl, ?_⟩
  have hc := h
  rcases h.2 with ⟨rfl, rfl⟩ | ⟨g, cap, cur, rfl, hg, hh, _⟩
  · exact ⟨none, 0, rfl, .inl rfl⟩
  · refine ⟨_, cap, rfl, .inr ⟨g, rfl, hg, (Array.getElem?_eq_some_iff.1 hh).1, fun i hi => ?_⟩⟩
    have := hc.cells (g := g) rfl i (byteAt bs i) (byteCells_at bs (by omega))
    rwa [WideShapes.add_plain, Nat.zero_add] at this

theorem min_any (a b : Int) (w : World) : Calls Tryd.prog 11 #[.int .i64 a, .int .i64 b] w fun e w' => e = .returned (.int .i64 (if a < b then a else b)) ∧ w' = w := by
  by_cases h : a < b
  · rw [if_pos h]
    go_enter Tryd.func11, Tryd.ntmps11
    go_wp2
    go_ret
    exact ⟨rfl, rfl⟩
  · rw [if_neg h]
    go_enter Tryd.func11, Tryd.ntmps11
    go_wp2
    go_ret
    exact ⟨rfl, rfl⟩

theorem eqNil (w : World) (a : Option Addr) (n c n' c' : Nat) : (binOp .eql 22 (.slice a n c) (.slice none n' c')).run Tryd.prog w = .ok (.bool a.isNone) w := Lib.run_eql_slice_nil (P := Tryd.prog) w 22 5 a n c n' c' Tryd.underlying22
theorem sizeByte : (Tryd.prog.info? 5).map (·.size) = some 1 := by kernel_rfl

theorem made_list (n : Nat) : madeCells #[Value.int .u8 0] n = (List.replicate n (Value.int .u8 0)).toArray := by
  apply Array.ext
  · simp [size_madeCells]
  · intro i h1 h2
    simp [madeCells, Nat.mod_one]

theorem clone_owns {w w' : World} {n : Nat} {bs : List UInt8} (hl : bs.length = n) (hn : n ≤ 1048576) (hh : w'.heap[w.heap.size]? = some (.cells (Lib.byteCells bs).toArray 5 (0, 0))) :
    w'.ownsRow w.heap.size 5 1 (.slice (some ⟨w.heap.size, 0, none⟩) n n) n (Lib.byteCells bs) := by
  refine ⟨by simp [Lib.byteCells, hl], .inr ⟨w.heap.size, n, _, rfl, Nat.le_refl _, hh, Nat.le_refl _, by unfold maxLen; omega, by simp [Lib.byteCells, hl], ?_⟩⟩
  rw [List.take_of_length_le (by simp [Lib.byteCells, hl])]

/-- copy(c, b) into the row just made. -/
theorem copy_run (x : Addr) (n c : Nat) (bs : List UInt8) (w : World) (hl : bs.length = n) (hrow : RowOf w (some x) n (byteAt bs)) :
    ∃ w2, (Builtin.copy_ #[22, 22] 3 #[.slice (some ⟨w.heap.size, 0, none⟩) n n, .slice (some x) n c]).run Tryd.prog (w.alloc (.cells (madeCells #[.int .u8 0] n) 5)) = .ok (goInt n) w2 ∧
      w2.heap[w.heap.size]? = some (.cells (Lib.byteCells bs).toArray 5 (0, 0)) ∧ Below w.heap.size w w2 := by
  have hb0 : Below w.heap.size w (w.alloc (.cells (madeCells #[.int .u8 0] n) 5)) := (Below.refl _ _).alloc (Nat.le_refl _) _
  have hg : (w.alloc (.cells (madeCells #[.int .u8 0] n) 5)).heap[w.heap.size]? = some (.cells (List.replicate n (Value.int .u8 0)).toArray 5 (0, 0)) := by
    rw [← made_list]
    show (w.heap.push _)[w.heap.size]? = _
    simp
  have hbl : (Lib.byteCells bs).length = n := by simp [Lib.byteCells, hl]
  have hsrc : ∀ j v, (Lib.byteCells bs)[j]? = some v → (w.alloc (.cells (madeCells #[.int .u8 0] n) 5)).cell? (x.add j) = some v := fun j v hv => by
    have hj : j < bs.length := by have := (List.getElem?_eq_some_iff.1 hv).1; simpa [Lib.byteCells] using this
    rw [byteCells_at bs hj] at hv
    obtain ⟨b, off, ha, hlt, hc⟩ := hrow j (by omega)
    obtain rfl := Option.some.inj ha
    rw [WideShapes.add_plain, ← Option.some.inj hv, ← hc]
    exact hb0.cell (p := ⟨b, off + j, none⟩) hlt
  have hr := run_copy_row (P := Tryd.prog) (w.alloc (.cells (madeCells #[.int .u8 0] n) 5)) 22 22 3 5 w.heap.size 0 n n x n c _ 5 (Lib.byteCells bs) Tryd.underlying22 sizeByte hg (by rw [hbl]; exact (Nat.min_self n).symm) hsrc (by rw [hbl]; simp) (Lib.byteCells_one _)
  rw [hbl] at hr
  refine ⟨_, hr, ?_, below_setRow hb0 (Nat.le_refl _) _⟩
  rw [setRow_heap _ _ _ _ _ _ hg]
  simp

set_option maxHeartbeats 1000000 in
theorem clone_any (a : Option Addr) (n c : Nat) (bs : List UInt8) (w : World) (hnil : a = none → n = 0 ∧ c = 0) (hn : n ≤ 1048576) (hl : bs.length = n) (hrow : RowOf w a n (byteAt bs)) :
    Calls Tryd.prog 16 #[.slice a n c] w fun e w' => ∃ v', e = .returned v' ∧ w'.ownsRow w.heap.size 5 1 v' n (Lib.byteCells bs) ∧ Below w.heap.size w w' := by
  have hq := eqNil
  cases a with
  | none =>
    obtain ⟨rfl, rfl⟩ := hnil rfl
    have hb : bs = [] := List.eq_nil_of_length_eq_zero hl
    subst hb
    clear hrow hnil hl
    go_enter Tryd.func16, Tryd.ntmps16
    go_wp2
    go_ret
    exact ⟨_, rfl, World.ownsRow_nil _ _ _ _, Below.refl _ _⟩
  | some x =>
    have hmk := run_make_row' (P := Tryd.prog) 22 5 (.int .u8 0) 1 Tryd.underlying22 infoByte rfl .i64 .i64 n (by omega) (by omega)
    obtain ⟨w2, hcp, hg2, hb2⟩ := copy_run x n c bs w hl hrow
    have HO := Lib.hid (clone_owns hl hn hg2)
    have HB := Lib.hid hb2
    clear hnil hl hrow hg2 hb2
    go_enter Tryd.func16, Tryd.ntmps16
    go_wp2
    go_ret
    exact ⟨_, rfl, HO.out, HB.out⟩
end Go.Proofs.Qxb6000837aDoor
