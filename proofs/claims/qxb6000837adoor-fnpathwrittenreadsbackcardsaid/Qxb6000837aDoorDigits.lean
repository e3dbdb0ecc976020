/-
  isDigits: the contract (a range over a string: an iterator of the call's own), and the plain law on counts.
-/
import Derived.Test.Qxb6000837aDoorRows
import Derived.WalkKit
import Derived.Outline
import Derived.LoopTactic
import Derived.Laws.RangeString
import Derived.Laws.RangeAny
import Derived.Lib.OthersKept
import Derived.Lib.Hide
import Derived.Laws.Strings
namespace Go.Proofs.Qxb6000837aDoor
open Go.RowKit
set_option linter.unusedVariables false

/-! ### The plain functions -/
def digC (c : UInt8) : Bool := 48 ≤ c && c ≤ 57
def digN (l : List UInt8) : Int := (l.filter digC).length
def digAll (l : List UInt8) : Bool := !l.isEmpty && l.all digC
theorem digC_iff (c : UInt8) : digC c = decide (48 ≤ (c.toNat : Int) ∧ (c.toNat : Int) ≤ 57) := by
  unfold digC; rw [Bool.eq_iff_iff]; simp [UInt8.le_iff_toNat_le]; omega
theorem digN_le (l : List UInt8) : 0 ≤ digN l ∧ digN l ≤ l.length := by
  unfold digN; exact ⟨by omega, by have := List.length_filter_le digC l; omega⟩
theorem take_snoc (s : ByteArray) (k : Nat) (h : k < s.size) : s.data.toList.take (k + 1) = s.data.toList.take k ++ [s[k]] := by
  rw [List.take_succ_eq_append_getElem (by simpa using h)]; rfl
theorem digN_snoc (l : List UInt8) (c : UInt8) : digN (l ++ [c]) = digN l + if 48 ≤ (c.toNat : Int) ∧ (c.toNat : Int) ≤ 57 then 1 else 0 := by
  unfold digN
  rw [List.filter_append]
  by_cases h : 48 ≤ (c.toNat : Int) ∧ (c.toNat : Int) ≤ 57 <;> simp [digC_iff, h]
/-- Every byte is a digit just where the count is the length. -/
theorem all_iff_count (l : List UInt8) : l.all digC = (digN l == (l.length : Int)) := by
  rw [Bool.eq_iff_iff, beq_iff_eq]
  unfold digN
  rw [List.all_eq_true]
  constructor
  · intro h; rw [List.filter_eq_self.2 h]
  · intro h
    have h' : (l.filter digC).length = l.length := by omega
    exact List.length_filter_eq_length_iff.1 h'
theorem ret_bool {a b : Bool} (h : a = b) : Ending.returned (.bool a) = .returned (.bool b) := by rw [h]

theorem all_false_of {s : ByteArray} {k : Nat} (h : k < s.size) (hd : ¬ (48 ≤ (s[k].toNat : Int) ∧ (s[k].toNat : Int) ≤ 57)) : digAll s.data.toList = false := by
  unfold digAll
  rw [Bool.and_eq_false_iff]
  right
  rw [List.all_eq_false]
  exact ⟨s[k], Array.getElem_mem_toList _, by rw [digC_iff]; simpa using hd⟩
theorem all_true_of {s : ByteArray} (h : 0 < s.size) (hd : s.data.toList.all digC = true) : digAll s.data.toList = true := by
  unfold digAll
  rw [hd, Bool.and_true]
  cases e : s.data.toList with
  | nil => have : s.data.toList.length = 0 := by rw [e]; rfl
           simp at this; simp [this] at h
  | cons a t => rfl

set_option maxHeartbeats 1000000 in
/-- isDigits, at a string that is not empty. -/
theorem isDig_some (s : ByteArray) (h0 : 0 < s.size) (w : World) :
    Calls Tryd.prog 18 #[.string s] w fun e w' => e = .returned (.bool (digAll s.data.toList)) ∧ Below w.heap.size w w' := by
  have hne : s.toList.isEmpty = false := by
    rw [ByteArray.toList_eq]
    cases e : s.data.toList with
    | nil =>
      have h : s.data.toList.length = 0 := by rw [e]; rfl
      simp at h
      simp [h] at h0
    | cons a t => rfl
  go_enter Tryd.func18, Tryd.ntmps18
  go_wp2
  go_loopw [4] (fun _ wr => ∃ pos : Nat, pos ≤ s.size ∧ wr.heap[w.heap.size]? = some (.stringIter s pos) ∧ Below w.heap.size w wr ∧ (s.data.toList.take pos).all digC = true) (fun _ wr => s.size - wr.iterPos w.heap.size)
  case atStart => exact ⟨0, Nat.zero_le _, World.iter_heap w s 0, (Below.refl _ w).alloc (Nat.le_refl _) _, rfl⟩
  case round =>
    obtain ⟨pos, hpos, hit, hb, hall⟩ := hrel
    have HA := Lib.hid hall
    have HB := Lib.hid hb
    clear hall hb
    by_cases hp : pos < s.size
    · by_cases ha : (s[pos]'hp).toNat < 128
      · have hnx : ∀ ty, (Instr.next (.pointer (some ⟨w.heap.size, 0, none⟩)) true ty).run Tryd.prog wr = _ := fun ty => Lib.run_next_ascii_at wr w.heap.size s pos ty hit hp ha
        by_cases hd : 48 ≤ ((s[pos]'hp).toNat : Int) ∧ ((s[pos]'hp).toNat : Int) ≤ 57
        · have HA2 : Hid ((s.data.toList.take (pos + 1)).all digC = true) := by
            show _ = true
            rw [take_snoc s pos hp, List.all_append, HA.out]
            simp [digC_iff, hd]
          obtain ⟨d1, d2⟩ := hd
          have hit2 := Lib.hid (Lib.iterAt_heap wr w.heap.size s pos (pos + 1) hit)
          have HIT := Lib.hid hit
          have HB2 := Lib.hid (Lib.below_iterAt HB.out (Nat.le_refl _) s (pos + 1))
          clear hit
          go_wp2
          go_roundw
          case rel => exact ⟨pos + 1, by omega, hit2.out, HB2.out, HA2.out⟩
          case measure =>
            simp only [World.iterPos, hit2.out, HIT.out]
            omega
        · have HF := Lib.hid (all_false_of hp hd)
          have HB2 := Lib.hid (Lib.below_iterAt HB.out (Nat.le_refl _) s (pos + 1))
          clear hit
          by_cases hlo : ((s[pos]'hp).toNat : Int) < 48
          · clear hd
            go_wp2
            go_ret
            exact ⟨ret_bool HF.out.symm, HB2.out⟩
          · have hhi : 57 < ((s[pos]'hp).toNat : Int) := by omega
            clear hd
            go_wp2
            go_ret
            exact ⟨ret_bool HF.out.symm, HB2.out⟩
      · have hnx : ∀ ty, (Instr.next (.pointer (some ⟨w.heap.size, 0, none⟩)) true ty).run Tryd.prog wr = _ := fun ty => Lib.run_next_any_at wr w.heap.size s pos ty hit hp
        have hdh := (decode_high s pos hp (by omega)).1
        have hlo : ¬ ((Utf8.decode s pos).1 : Int) < 48 := by omega
        have hhi : 57 < ((Utf8.decode s pos).1 : Int) := by omega
        have HF := Lib.hid (all_false_of hp (by omega))
        have HB2 := Lib.hid (Lib.below_iterAt HB.out (Nat.le_refl _) s (pos + (Utf8.decode s pos).2))
        clear hit
        go_wp2
        go_ret
        exact ⟨ret_bool HF.out.symm, HB2.out⟩
    · have hnx : ∀ ty, (Instr.next (.pointer (some ⟨w.heap.size, 0, none⟩)) true ty).run Tryd.prog wr = _ := fun ty => Lib.run_next_end_at wr w.heap.size s pos ty hit hp
      have HF : Hid (digAll s.data.toList = true) := by
        refine all_true_of h0 ?_
        have h := HA.out
        rwa [List.take_of_length_le (by simp; omega)] at h
      clear hit
      go_wp2
      go_ret
      exact ⟨ret_bool HF.out.symm, HB.out⟩

/-- isDigits at the empty string. -/
theorem isDig_none (s : ByteArray) (h0 : s.size = 0) (w : World) :
    Calls Tryd.prog 18 #[.string s] w fun e w' => e = .returned (.bool (digAll s.data.toList)) ∧ Below w.heap.size w w' := by
  have hl : s.data.toList = [] := List.eq_nil_of_length_eq_zero (by simpa using h0)
  have hne : s.toList.isEmpty = true := by rw [ByteArray.toList_eq, hl]; rfl
  have HF : Hid (digAll s.data.toList = false) := by show _ = false; rw [hl]; rfl
  clear hl h0
  go_enter Tryd.func18, Tryd.ntmps18
  go_wp2
  go_ret
  exact ⟨ret_bool HF.out.symm, Below.refl _ _⟩

theorem isDig_any (s : ByteArray) (w : World) :
    Calls Tryd.prog 18 #[.string s] w fun e w' => e = .returned (.bool (digAll s.data.toList)) ∧ Below w.heap.size w w' := by
  rcases Nat.eq_zero_or_pos s.size with h | h
  · exact isDig_none s h w
  · exact isDig_some s h w

/-- ZZIsDigits hands on. -/
theorem zisDig_any (s : ByteArray) (w : World) :
    Calls Tryd.prog 8 #[.string s] w fun e w' => e = .returned (.bool (digAll s.data.toList)) ∧ Below w.heap.size w w' := by
  go_enter Tryd.func8, Tryd.ntmps8
  go_wp2_with (go_at_call 18; refine (isDig_any s _).mono ?_; rintro e w' ⟨rfl, hb⟩)
  go_ret
  exact ⟨rfl, hb⟩

end Go.Proofs.Qxb6000837aDoor
