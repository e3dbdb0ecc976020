/-
  From the reading of an argument to what the walks ask of it: slices of integers, bytes, strings.
-/
import Derived.Test.Qxb6000837aDoorArgs
import Derived.Test.Qxb6000837aDoorLaid
import Derived.SliceStrings
namespace Go.Proofs.Qxb6000837aDoor
open Go.ChangeShapes Go.WideShapes Go.ChangeAt Go.RowKit

theorem row_of_cells {w : World} {x : Addr} {n m : Nat} {f : Nat → Value} (hm : n ≤ m) (h : ∀ i, i < m → w.cell? (x.add i) = some (f i)) : RowOf w (some x) n f := fun i hi => by
  obtain ⟨b, off, spot⟩ := x
  have hspot : spot = none := by simpa [Addr.add] using World.cell?_spot (h 0 (by omega))
  subst hspot
  have hc := h i (by omega)
  rw [add_plain] at hc
  exact ⟨b, off, rfl, World.block_lt_of_cell? _ _ hc, hc⟩

/-- A slice of integers that came in. -/
theorem open_row_ints {H : Type} {enc : TypeId × Value → H} {W : World} {t e : TypeId} {k : IntKind} {fuel : Nat} {a : Option Addr} {n c : Nat} {x : DataW H × List MemPlace} (ht : Tryd.prog.underlying t = some (.slice e)) (he : Tryd.prog.underlying e = some (.int k)) (hc : Tryd.prog.cellsOf e = 1)
    (h : DataW.trod enc Tryd.prog W 0 (fun _ => true) true fuel t (Value.cells (.slice a n c)).toList = some x) :
    ∃ zs : List Int, (a = none → n = 0 ∧ c = 0) ∧ n ≤ 9223372036854775807 ∧ RowOf W a n (fun i => .int k (zs.getD i 0)) ∧ n ≤ zs.length ∧ ∀ z ∈ zs, (Lit.int k z).wf = true := by
  rcases open_ints ht he hc h with ⟨hcs, _⟩ | ⟨y, l, c', zs, hcs, _, hl, hm, hz, _, hcell, hwz⟩
  · simp [Value.cells] at hcs
    obtain ⟨rfl, rfl, rfl⟩ := hcs
    exact ⟨[], fun _ => ⟨rfl, rfl⟩, by omega, fun i hi => by omega, by simp, fun z hz => by cases hz⟩
  · simp [Value.cells] at hcs
    obtain ⟨rfl, rfl, rfl⟩ := hcs
    simp only [if_true] at hz
    unfold maxLen at hm
    exact ⟨zs, (fun h => by cases h), by omega, row_of_cells (by omega) hcell, by omega, hwz⟩

/-- A slice of strings that came in. -/
theorem open_row_strings {H : Type} {enc : TypeId × Value → H} {W : World} {t e : TypeId} {fuel : Nat} {a : Option Addr} {n c : Nat} {x : DataW H × List MemPlace} (ht : Tryd.prog.underlying t = some (.slice e)) (he : Tryd.prog.underlying e = some .string) (hc : Tryd.prog.cellsOf e = 1)
    (h : DataW.trod enc Tryd.prog W 0 (fun _ => true) true fuel t (Value.cells (.slice a n c)).toList = some x) :
    ∃ S : Nat → ByteArray, n ≤ 9223372036854775807 ∧ RowOf W a n (fun i => .string (S i)) := by
  rcases open_strings ht he hc h with ⟨hcs, _⟩ | ⟨y, l, c', ss, hcs, _, hl, hm, hz, _, hcell, hws⟩
  · simp [Value.cells] at hcs
    obtain ⟨rfl, rfl, rfl⟩ := hcs
    exact ⟨fun _ => ByteArray.empty, by omega, fun i hi => by omega⟩
  · simp [Value.cells] at hcs
    obtain ⟨rfl, rfl, rfl⟩ := hcs
    simp only [if_true] at hz
    unfold maxLen at hm
    exact ⟨fun i => ss.getD i ByteArray.empty, by omega, row_of_cells (by omega) hcell⟩

/-- Bytes out of a row of numbers that fit a byte. -/
theorem bytes_of {W : World} {a : Option Addr} {n : Nat} {zs : List Int} (hr : RowOf W a n (fun i => .int .u8 (zs.getD i 0))) (hl : n ≤ zs.length) (hw : ∀ z ∈ zs, (Lit.int .u8 z).wf = true) :
    ∃ bs : List UInt8, bs.length = n ∧ RowOf W a n (byteAt bs) := by
  refine ⟨(zs.take n).map (fun z => UInt8.ofNat z.toNat), by simp; omega, fun i hi => ?_⟩
  obtain ⟨b, off, ha, hlt, hc⟩ := hr i hi
  refine ⟨b, off, ha, hlt, ?_⟩
  rw [hc]
  have hb := bounds_u8 (hw zs[i] (List.getElem_mem (by omega)))
  have e1 : zs.getD i 0 = zs[i] := by rw [List.getD_eq_getElem?_getD, List.getElem?_eq_getElem (by omega)]; rfl
  have e2 : ((zs.take n).map (fun z => UInt8.ofNat z.toNat)).getD i 0 = UInt8.ofNat zs[i].toNat := by
    rw [List.getD_eq_getElem?_getD, List.getElem?_map, List.getElem?_take, if_pos hi, List.getElem?_eq_getElem (by omega)]; rfl
  show some (Value.int .u8 (zs.getD i 0)) = _
  rw [e1, byteAt, e2]
  have e3 : ((UInt8.ofNat zs[i].toNat).toNat : Int) = zs[i] := by rw [UInt8.toNat_ofNat']; omega
  rw [e3]

theorem range_i64 {zs : List Int} {n : Nat} (hl : n ≤ zs.length) (hw : ∀ z ∈ zs, (Lit.int .i64 z).wf = true) : ∀ i, i < n → -9223372036854775808 ≤ zs.getD i 0 ∧ zs.getD i 0 ≤ 9223372036854775807 := fun i hi => by
  have hb := bounds_i64 (hw zs[i] (List.getElem_mem (by omega)))
  have e1 : zs.getD i 0 = zs[i] := by rw [List.getD_eq_getElem?_getD, List.getElem?_eq_getElem (by omega)]; rfl
  rw [e1]; exact hb
theorem cells5 : Tryd.prog.cellsOf 5 = 1 := by kernel_rfl
theorem cells3 : Tryd.prog.cellsOf 3 = 1 := by kernel_rfl
theorem cells9 : Tryd.prog.cellsOf 9 = 1 := by kernel_rfl
end Go.Proofs.Qxb6000837aDoor
