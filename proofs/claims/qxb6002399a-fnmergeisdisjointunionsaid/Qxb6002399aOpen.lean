/-
  From the reading of a PropsIn argument to its value, field by field.
-/
import Derived.Test.Qxb6002399aRows
import Derived.ProofKit
import Derived.OpenShut
namespace Go.Proofs.Qxb6002399a
open Go.ChangeShapes Go.WideShapes Go.ChangeAt Go.RowKit

theorem cells23 : Try.prog.cellsOf 23 = 10 := by kernel_rfl
theorem cells4 : Try.prog.cellsOf 4 = 1 := by kernel_rfl
theorem cells3 : Try.prog.cellsOf 3 = 1 := by kernel_rfl
theorem cells9 : Try.prog.cellsOf 9 = 1 := by kernel_rfl
theorem cells21 : Try.prog.cellsOf 21 = 1 := by kernel_rfl

theorem open_props {H : Type} {enc : TypeId × Value → H} {W : World} {base : Nat} {v : Value} {d : DataW H} {p : List MemPlace} (hv : Value.okWide Try.prog W .any base 23 v) (h : DataW.Trod enc Try.prog W 0 (fun _ => true) true 23 v d p) :
    ∃ (ht ha : Bool) (ta aa : Int) (sf : ByteArray) (hp : Bool) (pt : ByteArray) (pf : Int) (an : ByteArray) (wn : Bool),
      v = .agg #[.bool ht, .bool ha, .int .i64 ta, .int .i64 aa, .string sf, .bool hp, .string pt, .int .i32 pf, .string an, .bool wn] ∧ sf.size ≤ 9223372036854775807 ∧ pt.size ≤ 9223372036854775807 ∧ an.size ≤ 9223372036854775807 := by
  obtain ⟨cs, rfl, hsz⟩ := okWide_struct Try.underlying23 hv
  rw [cells23] at hsz
  obtain ⟨l⟩ := cs
  obtain ⟨fuel, hf⟩ := h
  obtain ⟨xs, n, _, _, _, hlen, hg⟩ := DataW.trod_struct Try.underlying23 hf
  have hx : ∀ i, i < 10 → ∃ x, xs[i]? = some x := fun i hi => ⟨_, List.getElem?_eq_getElem (by rw [hlen]; exact hi)⟩
  match l, hsz with
  | [c0, c1, c2, c3, c4, c5, c6, c7, c8, c9], _ =>
    obtain ⟨x0, e0⟩ := hx 0 (by omega)
    obtain ⟨x1, e1⟩ := hx 1 (by omega)
    obtain ⟨x2, e2⟩ := hx 2 (by omega)
    obtain ⟨x3, e3⟩ := hx 3 (by omega)
    obtain ⟨x4, e4⟩ := hx 4 (by omega)
    obtain ⟨x5, e5⟩ := hx 5 (by omega)
    obtain ⟨x6, e6⟩ := hx 6 (by omega)
    obtain ⟨x7, e7⟩ := hx 7 (by omega)
    obtain ⟨x8, e8⟩ := hx 8 (by omega)
    obtain ⟨x9, e9⟩ := hx 9 (by omega)
    obtain ⟨b0, q0, _⟩ := DataW.trod_bool Try.underlying4 ((hg 0 _ rfl).trans e0)
    obtain ⟨b1, q1, _⟩ := DataW.trod_bool Try.underlying4 ((hg 1 _ rfl).trans e1)
    obtain ⟨b2, q2, _⟩ := DataW.trod_int Try.underlying3 ((hg 2 _ rfl).trans e2)
    obtain ⟨b3, q3, _⟩ := DataW.trod_int Try.underlying3 ((hg 3 _ rfl).trans e3)
    obtain ⟨b4, q4, _, s4⟩ := DataW.trod_string Try.underlying9 ((hg 4 _ rfl).trans e4)
    obtain ⟨b5, q5, _⟩ := DataW.trod_bool Try.underlying4 ((hg 5 _ rfl).trans e5)
    obtain ⟨b6, q6, _, s6⟩ := DataW.trod_string Try.underlying9 ((hg 6 _ rfl).trans e6)
    obtain ⟨b7, q7, _⟩ := DataW.trod_int Try.underlying21 ((hg 7 _ rfl).trans e7)
    obtain ⟨b8, q8, _, s8⟩ := DataW.trod_string Try.underlying9 ((hg 8 _ rfl).trans e8)
    obtain ⟨b9, q9, _⟩ := DataW.trod_bool Try.underlying4 ((hg 9 _ rfl).trans e9)
    simp [Value.cells, cells4, cells3, cells9, cells21] at q0 q1 q2 q3 q4 q5 q6 q7 q8 q9
    subst q0 q1 q2 q3 q4 q5 q6 q7 q8 q9
    unfold maxLen at s4 s6 s8
    exact ⟨b0, b1, b2, b3, b4, b5, b6, b7, b8, b9, rfl, by omega, by omega, by omega⟩
end Go.Proofs.Qxb6002399a
