/-
  appendElement, appendMember: what each leaves in the row that the call owns.
-/
import Derived.Test.Qxb6000837aDoorShelf
import Derived.Lib.AppendIntMem
import Derived.Lib.ItoaLen
import Derived.Lib.AppendStr
import Derived.Lib.Hide
import Derived.OwnWalk
import Derived.WalkKit
import Derived.Outline
import Derived.BigCall
namespace Go.Proofs.Qxb6000837aDoor
open Go.RowKit
set_option linter.unusedVariables false

theorem infoByte : (Tryd.prog.info? 5).map (fun i => (i.zero, i.size, i.bytes)) = some (some (.int .u8 0), 1, 1) := by kernel_rfl

/-- int64(i) + 1, wrapped. -/
def succW (i : Int) : Int := if i = 9223372036854775807 then -9223372036854775808 else i + 1
/-- The bytes of an element's step. -/
def elemB (i : Int) : List UInt8 := 91 :: (Lib.itoa (succW i) ++ [93])
/-- What appendMember leaves. -/
def memB (acc name : List UInt8) : List UInt8 := (if acc = [] then [] else acc ++ [46]) ++ name

theorem succW_range {i : Int} (h0 : -9223372036854775808 ≤ i) (h1 : i ≤ 9223372036854775807) : -9223372036854775808 ≤ succW i ∧ succW i ≤ 9223372036854775807 := by
  unfold succW; split <;> omega
theorem elemB_length {i : Int} (h0 : -9223372036854775808 ≤ i) (h1 : i ≤ 9223372036854775807) : (elemB i).length ≤ 23 := by
  have := Lib.itoa_length_le (succW i) (succW_range h0 h1).1 (succW_range h0 h1).2
  simp [elemB]; omega

theorem cells_snoc (acc : List UInt8) (c : UInt8) : Lib.byteCells acc ++ [Value.int .u8 (c.toNat : Int)] = Lib.byteCells (acc ++ [c]) := by simp [Lib.byteCells]
theorem cells_app (a b : List UInt8) : Lib.byteCells a ++ Lib.byteCells b = Lib.byteCells (a ++ b) := by simp [Lib.byteCells]
theorem elem_last (n : Nat) (acc : List UInt8) (j : Int) {w : World} {B : Nat} {v : Value} (h : w.ownsRow B 5 1 v (n + 1 + (Lib.itoa j).length + 1) (Lib.byteCells acc ++ [Value.int .u8 91] ++ Lib.byteCells (Lib.itoa j) ++ [Value.int .u8 93])) :
    w.ownsRow B 5 1 v (n + (91 :: (Lib.itoa j ++ [93]) : List UInt8).length) (Lib.byteCells (acc ++ 91 :: (Lib.itoa j ++ [93]))) := by
  have e1 : n + 1 + (Lib.itoa j).length + 1 = n + (91 :: (Lib.itoa j ++ [93]) : List UInt8).length := by simp; omega
  have e2 : Lib.byteCells acc ++ [Value.int .u8 91] ++ Lib.byteCells (Lib.itoa j) ++ [Value.int .u8 93] = Lib.byteCells (acc ++ 91 :: (Lib.itoa j ++ [93])) := by simp [Lib.byteCells]
  rw [e1, e2] at h
  exact h
theorem succW_plain {i : Int} (h : i ≠ 9223372036854775807) : succW i = i + 1 := by unfold succW; rw [if_neg h]
theorem succW_max : succW 9223372036854775807 = -9223372036854775808 := by unfold succW; rw [if_pos rfl]

theorem wrap_max : wrap64 9223372036854775808 = -9223372036854775808 := by unfold wrap64; omega

set_option maxHeartbeats 3200000 in
set_option maxRecDepth 100000 in
theorem elem_any (B n : Nat) (acc : List UInt8) (i : Int) (h0 : -9223372036854775808 ≤ i) (h1 : i ≤ 9223372036854775807) (sv : Value) (w : World) (hown : w.ownsRow B 5 1 sv n (Lib.byteCells acc)) (hBw : B ≤ w.heap.size) (hlim : n ≤ 140737488355000)
    (hT : Lib.TabBelow Tryd.prog B w powName .u64 Lib.pow10Tab) :
    Calls Tryd.prog 20 #[sv, .int .i64 i] w fun e w' => ∃ v', e = .returned v' ∧ w'.ownsRow B 5 1 v' (n + (elemB i).length) (Lib.byteCells (acc ++ elemB i)) ∧ Below B w w' := by
  obtain ⟨i0, hi, hz0, hz1, hz2⟩ := info_parts infoByte
  obtain ⟨s0, s1⟩ := succW_range h0 h1
  have la := Lib.itoa_length_le (succW i) s0 s1
  obtain ⟨j, hj⟩ : ∃ j, j = succW i := ⟨_, rfl⟩
  have HE : Hid (elemB i = 91 :: (Lib.itoa j ++ [93])) := by show _ = _; unfold elemB; rw [hj]
  rw [HE.out]
  rw [← hj] at s0 s1 la
  by_cases hmax : i = 9223372036854775807
  · subst hmax
    rw [succW_max] at hj
    subst hj
    go_enter Tryd.func20, Tryd.ntmps20
    go_wp2_with (at_builtin; refine wpList_append_own _ rfl _ _ 22 rfl B 5 i0 (.int .u8 0) 1 1 Tryd.underlying22 hi hz0 hz1 hz2 rfl (by decide) _ _ _ rfl (hown.alloc _) ⟨w.heap.size, 0, none⟩ 1 1 [Value.int .u8 91] rfl rfl (by intro j u' hj; match j, hj with | 0, hj => simp at hj; subst hj; simp [Addr.add]) (by intro u' hu'; simp at hu'; subst hu'; rfl) (by unfold maxLen; omega) (by omega) (by simp; omega) ?_; intro v2 w2 hown2 hgrow _; refine Hid.out ?_)
    refine Lib.hid ?_
    have hnx2 : Below B w w2 := ((Below.refl _ _).alloc hBw _).grown hgrow (by simp; omega) (fun k hk => (hown.lt k hk).1)
    have HA := Lib.hid (appendInt_any B (n + 1) _ s0 s1 v2 _ w2 hown2 (by have := hnx2.size; omega) (by omega) (hT.on hnx2))
    clear hgrow hown2
    go_wp2_with (go_at_call 21; rw [wrap_max]; refine HA.out.mono ?_; rintro e w3 ⟨v3, rfl, hown3, hnx3⟩; refine Hid.out ?_)
    refine Lib.hid ?_
    have hs3 : B ≤ w3.heap.size := by have := hnx2.size; have := hnx3.size; omega
    go_wp2_with (at_builtin; refine wpList_append_own _ rfl _ _ 22 rfl B 5 i0 (.int .u8 0) 1 1 Tryd.underlying22 hi hz0 hz1 hz2 rfl (by decide) _ _ _ rfl (hown3.alloc _) ⟨w3.heap.size, 0, none⟩ 1 1 [Value.int .u8 93] rfl rfl (by intro j u' hj; match j, hj with | 0, hj => simp at hj; subst hj; simp [Addr.add]) (by intro u' hu'; simp at hu'; subst hu'; rfl) (by unfold maxLen; omega) (by omega) (by simp; omega) ?_; intro v4 w4 hown4 hgrow4 _; refine Hid.out ?_)
    refine Lib.hid ?_
    have HB := Lib.hid ((hnx2.trans hnx3).trans (((Below.refl _ _).alloc hs3 _).grown hgrow4 (by simp; omega) (fun k hk => (hown3.lt k hk).1)))
    have HO := Lib.hid (elem_last n acc _ hown4)
    clear hgrow4 hown4 hown3 hnx2 hnx3
    go_wp2
    go_ret
    exact ⟨_, rfl, HO.out, HB.out⟩
  · rw [succW_plain hmax] at hj
    have hb : i ≤ 9223372036854775806 := by omega
    subst hj
    clear hmax h1
    go_enter Tryd.func20, Tryd.ntmps20
    go_wp2_with (at_builtin; refine wpList_append_own _ rfl _ _ 22 rfl B 5 i0 (.int .u8 0) 1 1 Tryd.underlying22 hi hz0 hz1 hz2 rfl (by decide) _ _ _ rfl (hown.alloc _) ⟨w.heap.size, 0, none⟩ 1 1 [Value.int .u8 91] rfl rfl (by intro j u' hj; match j, hj with | 0, hj => simp at hj; subst hj; simp [Addr.add]) (by intro u' hu'; simp at hu'; subst hu'; rfl) (by unfold maxLen; omega) (by omega) (by simp; omega) ?_; intro v2 w2 hown2 hgrow _; refine Hid.out ?_)
    refine Lib.hid ?_
    have hnx2 : Below B w w2 := ((Below.refl _ _).alloc hBw _).grown hgrow (by simp; omega) (fun k hk => (hown.lt k hk).1)
    have HA := Lib.hid (appendInt_any B (n + 1) _ s0 s1 v2 _ w2 hown2 (by have := hnx2.size; omega) (by omega) (hT.on hnx2))
    clear hgrow hown2
    go_wp2_with (go_at_call 21; refine HA.out.mono ?_; rintro e w3 ⟨v3, rfl, hown3, hnx3⟩; refine Hid.out ?_)
    refine Lib.hid ?_
    have hs3 : B ≤ w3.heap.size := by have := hnx2.size; have := hnx3.size; omega
    go_wp2_with (at_builtin; refine wpList_append_own _ rfl _ _ 22 rfl B 5 i0 (.int .u8 0) 1 1 Tryd.underlying22 hi hz0 hz1 hz2 rfl (by decide) _ _ _ rfl (hown3.alloc _) ⟨w3.heap.size, 0, none⟩ 1 1 [Value.int .u8 93] rfl rfl (by intro j u' hj; match j, hj with | 0, hj => simp at hj; subst hj; simp [Addr.add]) (by intro u' hu'; simp at hu'; subst hu'; rfl) (by unfold maxLen; omega) (by omega) (by simp; omega) ?_; intro v4 w4 hown4 hgrow4 _; refine Hid.out ?_)
    refine Lib.hid ?_
    have HB := Lib.hid ((hnx2.trans hnx3).trans (((Below.refl _ _).alloc hs3 _).grown hgrow4 (by simp; omega) (fun k hk => (hown3.lt k hk).1)))
    have HO := Lib.hid (elem_last n acc _ hown4)
    clear hgrow4 hown4 hown3 hnx2 hnx3
    go_wp2
    go_ret
    exact ⟨_, rfl, HO.out, HB.out⟩

theorem elem_len (B : Nat) (acc : List UInt8) (i : Int) (h0 : -9223372036854775808 ≤ i) (h1 : i ≤ 9223372036854775807) (sv : Value) (w : World) (hown : w.ownsRow B 5 1 sv acc.length (Lib.byteCells acc)) (hBw : B ≤ w.heap.size) (hlim : acc.length ≤ 140737488355000)
    (hT : Lib.TabBelow Tryd.prog B w powName .u64 Lib.pow10Tab) :
    Calls Tryd.prog 20 #[sv, .int .i64 i] w fun e w' => ∃ v', e = .returned v' ∧ w'.ownsRow B 5 1 v' (acc ++ elemB i).length (Lib.byteCells (acc ++ elemB i)) ∧ Below B w w' := by
  rw [List.length_append]
  exact elem_any B acc.length acc i h0 h1 sv w hown hBw hlim hT

theorem str_cells (name : ByteArray) : Lib.strCells name = Lib.byteCells name.data.toList := rfl
theorem mem_first (name : ByteArray) {w : World} {B : Nat} {v : Value} {xs : List Value} (hx : xs = []) (h : w.ownsRow B 5 1 v (0 + name.size) (xs ++ Lib.strCells name)) :
    w.ownsRow B 5 1 v (memB [] name.data.toList).length (Lib.byteCells (memB [] name.data.toList)) := by
  subst hx
  have e : 0 + name.size = (memB [] name.data.toList).length := by simp [memB]
  rw [e] at h
  exact h
theorem mem_next (name : ByteArray) {acc : List UInt8} (hne : acc ≠ []) {w : World} {B : Nat} {v : Value} (h : w.ownsRow B 5 1 v (acc.length + 1 + name.size) (Lib.byteCells acc ++ [Value.int .u8 46] ++ Lib.strCells name)) :
    w.ownsRow B 5 1 v (memB acc name.data.toList).length (Lib.byteCells (memB acc name.data.toList)) := by
  have e : acc.length + 1 + name.size = (memB acc name.data.toList).length := by simp [memB, hne]; omega
  have e2 : Lib.byteCells acc ++ [Value.int .u8 46] ++ Lib.strCells name = Lib.byteCells (memB acc name.data.toList) := by simp [memB, hne, Lib.byteCells, Lib.strCells]
  rw [e, e2] at h
  exact h

set_option maxHeartbeats 3200000 in
set_option maxRecDepth 100000 in
theorem mem_any (B : Nat) (acc : List UInt8) (name : ByteArray) (sv : Value) (w : World) (hown : w.ownsRow B 5 1 sv acc.length (Lib.byteCells acc)) (hBw : B ≤ w.heap.size) (hlim : acc.length + name.size ≤ 140737488355000) :
    Calls Tryd.prog 19 #[sv, .string name] w fun e w' => ∃ v', e = .returned v' ∧ w'.ownsRow B 5 1 v' (memB acc name.data.toList).length (Lib.byteCells (memB acc name.data.toList)) ∧ Below B w w' := by
  obtain ⟨i0, hi, hz0, hz1, hz2⟩ := info_parts infoByte
  rcases hown.2 with ⟨hv, hn⟩ | ⟨g, cap, cur, hv, -⟩
  · have hacc : acc = [] := List.eq_nil_of_length_eq_zero hn
    subst hacc
    subst hv
    go_enter Tryd.func19, Tryd.ntmps19
    go_wp2_with (at_builtin; refine Lib.wpList_append_own_string _ rfl _ _ 22 9 rfl B 5 i0 Tryd.underlying22 Tryd.underlying9 hi hz0 hz1 hz2 _ 0 _ rfl hown name rfl (by unfold maxLen; simp at hlim; omega) (by simp at hlim; omega) hBw ?_; intro v2 w2 hown2 hgrow _; refine Hid.out ?_)
    refine Lib.hid ?_
    have HB := Lib.hid ((Below.refl B w).grown hgrow hBw (fun k hk => (hown.lt k hk).1))
    have HO := Lib.hid (mem_first name rfl hown2)
    clear hgrow hown2
    go_wp2
    go_ret
    exact ⟨_, rfl, HO.out, HB.out⟩
  · by_cases hacc : acc = []
    · subst hacc
      have hv' : sv = .slice (some ⟨g, 0, none⟩) 0 cap := hv
      subst hv'
      go_enter Tryd.func19, Tryd.ntmps19
      go_wp2_with (at_builtin; refine Lib.wpList_append_own_string _ rfl _ _ 22 9 rfl B 5 i0 Tryd.underlying22 Tryd.underlying9 hi hz0 hz1 hz2 _ 0 _ rfl hown name rfl (by unfold maxLen; simp at hlim; omega) (by simp at hlim; omega) hBw ?_; intro v2 w2 hown2 hgrow _; refine Hid.out ?_)
      refine Lib.hid ?_
      have HB := Lib.hid ((Below.refl B w).grown hgrow hBw (fun k hk => (hown.lt k hk).1))
      have HO := Lib.hid (mem_first name rfl hown2)
      clear hgrow hown2
      go_wp2
      go_ret
      exact ⟨_, rfl, HO.out, HB.out⟩
    · have hpos : 0 < acc.length := List.length_pos_iff.2 hacc
      have hpos' : (0 : Int) < (acc.length : Int) := by omega
      have HN := Lib.hid hacc
      obtain ⟨n, hn⟩ : ∃ n, n = acc.length := ⟨_, rfl⟩
      rw [← hn] at hown hlim hpos hpos' hv
      have HL := Lib.hid hn
      clear hacc hn
      subst hv
      go_enter Tryd.func19, Tryd.ntmps19
      go_wp2_with (at_builtin; refine wpList_append_own _ rfl (.tmp 8) (.tmp 9) 22 rfl B 5 i0 (.int .u8 0) 1 1 Tryd.underlying22 hi hz0 hz1 hz2 rfl (by decide) _ _ _ rfl (hown.alloc _) ⟨w.heap.size, 0, none⟩ 1 1 [Value.int .u8 46] rfl rfl (by intro j u' hj; match j, hj with | 0, hj => simp at hj; subst hj; simp [Addr.add]) (by intro u' hu'; simp at hu'; subst hu'; rfl) (by unfold maxLen; omega) (by omega) (by simp; omega) ?_; intro v2 w2 hown2 hgrow _; refine Hid.out ?_)
      refine Lib.hid ?_
      have hnx2 : Below B w w2 := ((Below.refl _ _).alloc hBw _).grown hgrow (by simp; omega) (fun k hk => (hown.lt k hk).1)
      have hs2 : B ≤ w2.heap.size := by have := hnx2.size; omega
      clear hgrow
      go_wp2_with (at_builtin; refine Lib.wpList_append_own_string _ rfl _ _ 22 9 rfl B 5 i0 Tryd.underlying22 Tryd.underlying9 hi hz0 hz1 hz2 _ _ _ rfl hown2 name rfl (by unfold maxLen; omega) (by omega) hs2 ?_; intro v3 w3 hown3 hgrow3 _; refine Hid.out ?_)
      refine Lib.hid ?_
      have HB := Lib.hid (hnx2.trans ((Below.refl B w2).grown hgrow3 hs2 (fun k hk => (hown2.lt k hk).1)))
      rw [HL.out] at hown3
      have HO := Lib.hid (mem_next name HN.out hown3)
      clear hgrow3 hown3 hown2 hnx2
      go_wp2
      go_ret
      exact ⟨_, rfl, HO.out, HB.out⟩
end Go.Proofs.Qxb6000837aDoor
