/-
  What a path of plain steps reads as, piece by piece. No Go in sight.
-/
import Derived.Test.Qxb6000837aDoorKeep
import Derived.Test.Qxb6000837aDoorNum
namespace Go.Proofs.Qxb6000837aDoor
set_option linter.unusedVariables false

/-- A name that cannot be mistaken. -/
def PlainN (s : ByteArray) : Prop := s.data.toList ≠ [] ∧ ∀ c ∈ s.data.toList, c ≠ 46 ∧ c ≠ 91 ∧ c ≠ 93
def Good (S : Nat → ByteArray) (Ix : Nat → Int) (n : Nat) : Prop := ∀ i, i < n → (Ix i < 0 → PlainN (S i)) ∧ Ix i ≤ 9223372036854775806
theorem Good.le {S : Nat → ByteArray} {Ix : Nat → Int} {n k : Nat} (h : Good S Ix n) (hk : k ≤ n) : Good S Ix k := fun i hi => h i (by omega)

def txt (S : Nat → ByteArray) (Ix : Nat → Int) (k : Nat) : List UInt8 := wrt [] (stepsTo S Ix k)
/-- What step k writes. -/
def piece (S : Nat → ByteArray) (Ix : Nat → Int) (k : Nat) : List UInt8 := if Ix k < 0 then (if k = 0 then [] else [46]) ++ (S k).data.toList else elemB (Ix k)

theorem txt_ne {S : Nat → ByteArray} {Ix : Nat → Int} : ∀ {k : Nat}, Good S Ix (k + 1) → txt S Ix (k + 1) ≠ []
  | k, h => by
    have hk := h k (by omega)
    unfold txt
    simp only [stepsTo, wrt]
    split
    · rename_i hx
      have := (hk.1 hx).1
      unfold memB
      simp
      intro _
      simpa using this
    · simp [elemB]

theorem txt_succ {S : Nat → ByteArray} {Ix : Nat → Int} {k : Nat} (h : Good S Ix (k + 1)) : txt S Ix (k + 1) = txt S Ix k ++ piece S Ix k := by
  have e : txt S Ix (k + 1) = if Ix k < 0 then memB (txt S Ix k) (S k).data.toList else txt S Ix k ++ elemB (Ix k) := rfl
  rw [e, piece]
  split
  · cases k with
    | zero => simp [txt, stepsTo, wrt, memB]
    | succ j =>
      have hne := txt_ne (k := j) (h.le (by omega))
      simp [memB, hne]
  · rfl

theorem txt_pre {S : Nat → ByteArray} {Ix : Nat → Int} {j : Nat} : ∀ {n : Nat}, j ≤ n → Good S Ix n → ∃ r, txt S Ix n = txt S Ix j ++ r
  | 0, hj, _ => by obtain rfl : j = 0 := by omega
                   exact ⟨[], by simp⟩
  | n + 1, hj, hg => by
    rcases Nat.lt_or_ge j (n + 1) with h | h
    · obtain ⟨r, hr⟩ := txt_pre (j := j) (n := n) (by omega) (hg.le (by omega))
      exact ⟨r ++ piece S Ix n, by rw [txt_succ hg, hr, List.append_assoc]⟩
    · obtain rfl : j = n + 1 := by omega
      exact ⟨[], by simp⟩

/-- Where step k begins. -/
def at_ (S : Nat → ByteArray) (Ix : Nat → Int) (k : Nat) : Nat := (txt S Ix k).length
theorem at_succ {S : Nat → ByteArray} {Ix : Nat → Int} {k : Nat} (h : Good S Ix (k + 1)) : at_ S Ix (k + 1) = at_ S Ix k + (piece S Ix k).length := by
  unfold at_; rw [txt_succ h, List.length_append]
theorem at_le {S : Nat → ByteArray} {Ix : Nat → Int} {k n : Nat} (h : Good S Ix n) (hk : k ≤ n) : at_ S Ix k ≤ at_ S Ix n := by
  obtain ⟨r, hr⟩ := txt_pre hk h
  unfold at_; rw [hr, List.length_append]; omega
theorem txt_at {S : Nat → ByteArray} {Ix : Nat → Int} {k n j : Nat} (h : Good S Ix n) (hk : k < n) (hj : j < (piece S Ix k).length) : (txt S Ix n).getD (at_ S Ix k + j) 0 = (piece S Ix k).getD j 0 := by
  obtain ⟨r, hr⟩ := txt_pre (j := k + 1) (by omega) h
  rw [hr, txt_succ (h.le (by omega)), List.append_assoc, at_, getD_right, getD_left hj]

theorem piece_pos {S : Nat → ByteArray} {Ix : Nat → Int} {k n : Nat} (h : Good S Ix n) (hk : k < n) : 0 < (piece S Ix k).length := by
  unfold piece
  split
  · rename_i hx
    have := List.length_pos_iff.2 ((h k hk).1 hx).1
    rw [List.length_append]; omega
  · simp [elemB]

/-- Behind step k comes the end, a point or a bracket. -/
theorem txt_next {S : Nat → ByteArray} {Ix : Nat → Int} {k n : Nat} (h : Good S Ix n) (hk : k < n) : at_ S Ix (k + 1) = at_ S Ix n ∨ (at_ S Ix (k + 1) < at_ S Ix n ∧ ((txt S Ix n).getD (at_ S Ix (k + 1)) 0 = 46 ∨ (txt S Ix n).getD (at_ S Ix (k + 1)) 0 = 91)) := by
  rcases Nat.lt_or_ge (k + 1) n with h1 | h1
  · right
    have hp := piece_pos h h1
    have hs := at_succ (k := k + 1) (h.le (by omega))
    have hle := at_le h (show k + 1 + 1 ≤ n by omega)
    refine ⟨by omega, ?_⟩
    have e := txt_at h h1 hp
    rw [Nat.add_zero] at e
    rw [e]
    unfold piece
    split
    · left; simp
    · right; simp [elemB]
  · left
    obtain rfl : n = k + 1 := by omega
    rfl

/-- An element's step. -/
theorem elem_facts {S : Nat → ByteArray} {Ix : Nat → Int} {k n : Nat} (h : Good S Ix n) (hk : k < n) (hx : 0 ≤ Ix k) :
    (txt S Ix n).getD (at_ S Ix k) 0 = 91 ∧ (∀ j (hj : j < (Lib.decDigits ((Ix k).toNat + 1)).length), (txt S Ix n).getD (at_ S Ix k + 1 + j) 0 = (Lib.decDigits ((Ix k).toNat + 1))[j]) ∧
    (txt S Ix n).getD (at_ S Ix k + 1 + (Lib.decDigits ((Ix k).toNat + 1)).length) 0 = 93 ∧ at_ S Ix (k + 1) = at_ S Ix k + (Lib.decDigits ((Ix k).toNat + 1)).length + 2 ∧ at_ S Ix (k + 1) ≤ at_ S Ix n := by
  have hb := (h k hk).2
  have hp : piece S Ix k = 91 :: (Lib.decDigits ((Ix k).toNat + 1) ++ [93]) := by
    have e : succW (Ix k) = (((Ix k).toNat + 1 : Nat) : Int) := by rw [succW_plain (by omega)]; omega
    rw [piece, if_neg (by omega), elemB, e, Lib.itoa_nonneg]
  have hl : (piece S Ix k).length = (Lib.decDigits ((Ix k).toNat + 1)).length + 2 := by rw [hp]; simp
  have ht := fun j (hj : j < (piece S Ix k).length) => txt_at h hk hj
  refine ⟨?_, fun j hj => ?_, ?_, ?_, at_le h (by omega)⟩
  · have := ht 0 (by omega)
    rw [Nat.add_zero] at this
    rw [this, hp]; rfl
  · have := ht (j + 1) (by omega)
    rw [show at_ S Ix k + 1 + j = at_ S Ix k + (j + 1) by omega, this, hp, List.getD_cons_succ, getD_left hj, List.getD_eq_getElem?_getD, List.getElem?_eq_getElem hj]
    rfl
  · have := ht ((Lib.decDigits ((Ix k).toNat + 1)).length + 1) (by omega)
    rw [show at_ S Ix k + 1 + (Lib.decDigits ((Ix k).toNat + 1)).length = at_ S Ix k + ((Lib.decDigits ((Ix k).toNat + 1)).length + 1) by omega, this, hp, List.getD_cons_succ]
    exact getD_right (a := Lib.decDigits ((Ix k).toNat + 1)) (b := [93]) (i := 0)
  · rw [at_succ (h.le (by omega)), hl]; omega

/-- A member's step. -/
theorem mem_facts {S : Nat → ByteArray} {Ix : Nat → Int} {k n q : Nat} (h : Good S Ix n) (hk : k < n) (hx : Ix k < 0) (hq : q = if k = 0 then 0 else 1) :
    (0 < k → (txt S Ix n).getD (at_ S Ix k) 0 = 46) ∧ (∀ j (hj : j < (S k).data.toList.length), (txt S Ix n).getD (at_ S Ix k + q + j) 0 = (S k).data.toList[j]) ∧
    at_ S Ix (k + 1) = at_ S Ix k + q + (S k).data.toList.length ∧ at_ S Ix (k + 1) ≤ at_ S Ix n := by
  have hp : piece S Ix k = (if k = 0 then [] else [46]) ++ (S k).data.toList := by rw [piece, if_pos hx]
  have hql : ((if k = 0 then [] else [46]) : List UInt8).length = q := by rw [hq]; split <;> rfl
  have hl : (piece S Ix k).length = q + (S k).data.toList.length := by rw [hp, List.length_append, hql]
  have ht := fun j (hj : j < (piece S Ix k).length) => txt_at h hk hj
  refine ⟨fun h0 => ?_, fun j hj => ?_, ?_, at_le h (by omega)⟩
  · have := ht 0 (by have := piece_pos h hk; omega)
    rw [Nat.add_zero] at this
    rw [this, hp, if_neg (by omega)]; rfl
  · have := ht (q + j) (by omega)
    rw [Nat.add_assoc, this, hp, ← hql, getD_right, List.getD_eq_getElem?_getD, List.getElem?_eq_getElem hj]
    rfl
  · rw [at_succ (h.le (by omega)), hl]; omega
theorem at_zero (S : Nat → ByteArray) (Ix : Nat → Int) : at_ S Ix 0 = 0 := rfl
theorem at_bound {S : Nat → ByteArray} {Ix : Nat → Int} {n : Nat} (hf : Fits (stepsTo S Ix n)) : at_ S Ix n ≤ sumS S n + 24 * n := by
  have := wrt_length [] _ hf
  rw [cost_steps] at this
  simpa [at_, txt] using this
end Go.Proofs.Qxb6000837aDoor
