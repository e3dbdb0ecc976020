/-
  (*jsonPath).appendTo: by recursion over the steps (the last step ahead). ZZAppendTo, ZZNewJSONPath.
-/
import Derived.Test.Qxb6000837aDoorAppend
namespace Go.Proofs.Qxb6000837aDoor
open Go.RowKit
set_option linter.unusedVariables false

/-- A path as data: its steps, THE LAST AHEAD; a step: the name and the index. -/
abbrev Steps := List (ByteArray × Int)
/-- What appendTo leaves behind acc. -/
def wrt (acc : List UInt8) : Steps → List UInt8
  | [] => acc
  | s :: rest => if s.2 < 0 then memB (wrt acc rest) s.1.data.toList else wrt acc rest ++ elemB s.2
/-- A bound on what the steps write. -/
def cost : Steps → Nat
  | [] => 0
  | s :: rest => s.1.size + 24 + cost rest
/-- The pointer leads to these steps, in blocks below B. -/
def PathAt (w : World) (B : Nat) : Steps → Value → Prop
  | [], p => p = .pointer none
  | s :: rest, p => ∃ (k : Nat) (parent : Value), p = .pointer (some ⟨k, 0, none⟩) ∧ k < B ∧ w.cell? ⟨k, 0, none⟩ = some parent ∧ w.cell? ⟨k, 1, none⟩ = some (.string s.1) ∧ w.cell? ⟨k, 2, none⟩ = some (.int .i64 s.2) ∧
      (-9223372036854775808 ≤ s.2 ∧ s.2 ≤ 9223372036854775807) ∧ PathAt w B rest parent

theorem memB_length (acc name : List UInt8) : (memB acc name).length ≤ acc.length + 1 + name.length := by
  unfold memB; split <;> simp <;> omega
/-- Every index fits. -/
def Fits (l : Steps) : Prop := ∀ s ∈ l, -9223372036854775808 ≤ s.2 ∧ s.2 ≤ 9223372036854775807
theorem wrt_length (acc : List UInt8) : ∀ (l : Steps), Fits l → (wrt acc l).length ≤ acc.length + cost l
  | [], _ => by simp [wrt, cost]
  | s :: rest, h => by
    have ih := wrt_length acc rest (fun x hx => h x (List.mem_cons_of_mem _ hx))
    have hs := h s List.mem_cons_self
    simp only [wrt, cost]
    split
    · have := memB_length (wrt acc rest) s.1.data.toList
      have e : s.1.data.toList.length = s.1.size := by simp
      omega
    · have := elemB_length hs.1 hs.2
      rw [List.length_append]; omega
theorem PathAt.fits {w : World} {B : Nat} : ∀ {l : Steps} {p : Value}, PathAt w B l p → Fits l
  | [], _, _ => fun s hs => by cases hs
  | s :: rest, p, ⟨_, _, _, _, _, _, _, hr, ht⟩ => fun x hx => by
    rcases List.mem_cons.1 hx with rfl | hx
    · exact hr
    · exact ht.fits x hx
theorem PathAt.on {w w' : World} {B C : Nat} (hC : C ≤ B) (hb : Below B w w') : ∀ {l : Steps} {p : Value}, PathAt w C l p → PathAt w' C l p
  | [], _, h => h
  | s :: rest, p, ⟨k, q, h1, h2, h3, h4, h5, hr, ht⟩ => by
    have hk : k < B := by omega
    exact ⟨k, q, h1, h2, (hb.cell (p := ⟨k, 0, none⟩) hk).trans h3, (hb.cell (p := ⟨k, 1, none⟩) hk).trans h4, (hb.cell (p := ⟨k, 2, none⟩) hk).trans h5, hr, ht.on hC hb⟩
theorem PathAt.up {w : World} {B C : Nat} (hC : B ≤ C) : ∀ {l : Steps} {p : Value}, PathAt w B l p → PathAt w C l p
  | [], _, h => h
  | s :: rest, p, ⟨k, q, h1, h2, h3, h4, h5, hr, ht⟩ => ⟨k, q, h1, by omega, h3, h4, h5, hr, ht.up hC⟩

set_option maxHeartbeats 3200000 in
set_option maxRecDepth 100000 in
theorem to_any (B : Nat) : ∀ (l : Steps) (p : Value) (acc : List UInt8) (sv : Value) (w : World) (hp : PathAt w B l p) (hown : w.ownsRow B 5 1 sv acc.length (Lib.byteCells acc)) (hBw : B ≤ w.heap.size) (hlim : acc.length + cost l ≤ 140737488350000)
    (hT : Lib.TabBelow Tryd.prog B w powName .u64 Lib.pow10Tab),
    Calls Tryd.prog 17 #[p, sv] w fun e w' => ∃ v', e = .returned v' ∧ w'.ownsRow B 5 1 v' (wrt acc l).length (Lib.byteCells (wrt acc l)) ∧ Below B w w'
  | [], p, acc, sv, w, hp, hown, hBw, hlim, hT => by
    have hp' : p = .pointer none := hp
    subst hp'
    have HO := Lib.hid hown
    clear hown hT hp
    go_enter Tryd.func17, Tryd.ntmps17
    go_wp2
    go_ret
    exact ⟨_, rfl, HO.out, Below.refl _ _⟩
  | s :: rest, p, acc, sv, w, hp, hown, hBw, hlim, hT => by
    have hfit := PathAt.fits hp
    obtain ⟨k, q, rfl, hk, c0, c1, c2, hr, ht⟩ := hp
    have hl0 := wrt_length acc rest (fun x hx => hfit x (List.mem_cons_of_mem _ hx))
    have hlr : acc.length + cost rest ≤ 140737488350000 ∧ (wrt acc rest).length + s.1.size ≤ 140737488350000 := by simp only [cost] at hlim; omega
    have IH := Lib.hid (to_any B rest q acc sv w ht hown hBw hlr.1 hT)
    obtain ⟨nm, ix⟩ := s
    simp only at c1 c2 hr hlr
    have HT := Lib.hid hT
    clear hT ht hown hfit hlim
    obtain ⟨hr0, hr1⟩ := hr
    by_cases hix : ix < 0
    · have HW : Hid (wrt acc ((nm, ix) :: rest) = memB (wrt acc rest) nm.data.toList) := by show _ = _; simp [wrt, hix]
      rw [HW.out]
      go_enter Tryd.func17, Tryd.ntmps17
      go_wp2_with (go_at_call 17; refine IH.out.mono ?_; rintro e w1 ⟨v1, rfl, hown1, hnx1⟩; refine Hid.out ?_)
      refine Lib.hid ?_
      have d1 : w1.cell? ⟨k, 1, none⟩ = some (.string nm) := (hnx1.cell (p := ⟨k, 1, none⟩) hk).trans c1
      have d2 : w1.cell? ⟨k, 2, none⟩ = some (.int .i64 ix) := (hnx1.cell (p := ⟨k, 2, none⟩) hk).trans c2
      have HM := Lib.hid (mem_any B (wrt acc rest) nm v1 w1 hown1 (by have := hnx1.size; omega) (by omega))
      have HB := Lib.hid hnx1
      clear hown1 hnx1 c0 c1 c2
      go_wp2_with (go_at_call 19; refine HM.out.mono ?_; rintro e w2 ⟨v2, rfl, hown2, hnx2⟩)
      go_ret
      exact ⟨_, rfl, hown2, HB.out.trans hnx2⟩
    · have HW : Hid (wrt acc ((nm, ix) :: rest) = wrt acc rest ++ elemB ix) := by show _ = _; simp [wrt, hix]
      rw [HW.out]
      go_enter Tryd.func17, Tryd.ntmps17
      go_wp2_with (go_at_call 17; refine IH.out.mono ?_; rintro e w1 ⟨v1, rfl, hown1, hnx1⟩; refine Hid.out ?_)
      refine Lib.hid ?_
      have d2 : w1.cell? ⟨k, 2, none⟩ = some (.int .i64 ix) := (hnx1.cell (p := ⟨k, 2, none⟩) hk).trans c2
      have HM := Lib.hid (elem_len B (wrt acc rest) ix hr0 hr1 v1 w1 hown1 (by have := hnx1.size; omega) (by omega) (HT.out.on hnx1))
      have HB := Lib.hid hnx1
      clear hown1 hnx1 c0 c1 c2
      go_wp2_with (go_at_call 20; refine HM.out.mono ?_; rintro e w2 ⟨v2, rfl, hown2, hnx2⟩)
      go_ret
      exact ⟨_, rfl, hown2, HB.out.trans hnx2⟩

/-- ZZAppendTo hands on. -/
theorem zto_any (B : Nat) (l : Steps) (p : Value) (acc : List UInt8) (sv : Value) (w : World) (hp : PathAt w B l p) (hown : w.ownsRow B 5 1 sv acc.length (Lib.byteCells acc)) (hBw : B ≤ w.heap.size) (hlim : acc.length + cost l ≤ 140737488350000)
    (hT : Lib.TabBelow Tryd.prog B w powName .u64 Lib.pow10Tab) :
    Calls Tryd.prog 6 #[p, sv] w fun e w' => ∃ v', e = .returned v' ∧ w'.ownsRow B 5 1 v' (wrt acc l).length (Lib.byteCells (wrt acc l)) ∧ Below B w w' := by
  have H := Lib.hid (to_any B l p acc sv w hp hown hBw hlim hT)
  clear hp hown hT
  go_enter Tryd.func6, Tryd.ntmps6
  go_wp2_with (go_at_call 17; refine H.out.mono ?_; rintro e w' ⟨v', rfl, h1, h2⟩)
  go_ret
  exact ⟨_, rfl, h1, h2⟩

/-- ZZNewJSONPath: a new block with the step. -/
theorem new_any (parent : Value) (name : ByteArray) (ix : Int) (w : World) (hpar : parent = .pointer none ∨ ∃ k, parent = .pointer (some ⟨k, 0, none⟩)) :
    Calls Tryd.prog 7 #[parent, .string name, .int .i64 ix] w fun e w' => e = .returned (.pointer (some ⟨w.heap.size, 0, none⟩)) ∧ w' = w.alloc (.cells #[parent, .string name, .int .i64 ix] 41) := by
  rcases hpar with rfl | ⟨k, rfl⟩
  · go_enter Tryd.func7, Tryd.ntmps7
    go_wp2
    go_ret
    exact ⟨rfl, rfl⟩
  · go_enter Tryd.func7, Tryd.ntmps7
    go_wp2
    go_ret
    exact ⟨rfl, rfl⟩
end Go.Proofs.Qxb6000837aDoor
