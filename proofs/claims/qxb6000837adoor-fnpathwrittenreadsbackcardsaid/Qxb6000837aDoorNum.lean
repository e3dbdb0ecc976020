/-
  Plain laws on the decimal numeral: no Go in sight.
-/
import Derived.Lib.ItoaMem
import Derived.Lib.ItoaLen
namespace Go.Proofs.Qxb6000837aDoor

/-- The number that a row of digits spells. -/
def val (l : List UInt8) : Nat := l.foldl (fun v c => v * 10 + (c.toNat - 48)) 0
theorem val_snoc (l : List UInt8) (c : UInt8) : val (l ++ [c]) = val l * 10 + (c.toNat - 48) := by simp [val, List.foldl_append]
theorem digit_nat {d : Nat} (h : d < 10) : (UInt8.ofNat (48 + d)).toNat = 48 + d := by
  rw [UInt8.toNat_ofNat']; omega
theorem val_dec (u : Nat) : val (Lib.decDigits u) = u := by
  induction u using Nat.strongRecOn with
  | _ u ih =>
    by_cases h : u < 10
    · rw [Lib.decDigits_one h]
      simp only [val, List.foldl_cons, List.foldl_nil]
      rw [digit_nat h]; omega
    · rw [Lib.decDigits, dif_neg h, val_snoc, ih (u / 10) (by omega), digit_nat (by omega)]; omega
theorem dec_digit (u : Nat) : ∀ c ∈ Lib.decDigits u, 48 ≤ c.toNat ∧ c.toNat ≤ 57 := by
  induction u using Nat.strongRecOn with
  | _ u ih =>
    intro c hc
    by_cases h : u < 10
    · rw [Lib.decDigits_one h] at hc
      obtain rfl := List.mem_singleton.1 hc
      rw [digit_nat h]; omega
    · rw [Lib.decDigits, dif_neg h, List.mem_append] at hc
      rcases hc with hc | hc
      · exact ih (u / 10) (by omega) c hc
      · obtain rfl := List.mem_singleton.1 hc
        rw [digit_nat (by omega)]; omega
theorem dec_ne (u : Nat) : Lib.decDigits u ≠ [] := by
  intro e
  have := Lib.decDigits_length u
  rw [e] at this
  have := Lib.nDigits_pos u
  simp at *
  omega
theorem dec_head (u : Nat) (h1 : 1 ≤ u) : (Lib.decDigits u).getD 0 0 ≠ 48 := by
  induction u using Nat.strongRecOn with
  | _ u ih =>
    by_cases h : u < 10
    · rw [Lib.decDigits_one h]
      simp only [List.getD_cons_zero]
      intro e
      have := congrArg UInt8.toNat e
      rw [digit_nat h] at this
      simp at this
      omega
    · rw [Lib.decDigits, dif_neg h]
      have hl : 0 < (Lib.decDigits (u / 10)).length := List.length_pos_iff.2 (dec_ne _)
      have e : (Lib.decDigits (u / 10) ++ [UInt8.ofNat (48 + u % 10)]).getD 0 0 = (Lib.decDigits (u / 10)).getD 0 0 := by
        rw [List.getD_eq_getElem?_getD, List.getElem?_append_left hl, ← List.getD_eq_getElem?_getD]
      rw [e]
      exact ih (u / 10) (by omega) (by omega)
theorem val_take_succ (l : List UInt8) (k : Nat) (h : k < l.length) : val (l.take (k + 1)) = val (l.take k) * 10 + (l[k].toNat - 48) := by
  rw [List.take_succ_eq_append_getElem h, val_snoc]
theorem val_take_le (l : List UInt8) (k : Nat) : val (l.take k) ≤ val l := by
  suffices h : ∀ j k, j ≤ k → val (l.take j) ≤ val (l.take k) by
    rcases Nat.le_total k l.length with hk | hk
    · have := h k l.length hk
      rwa [List.take_length] at this
    · rw [List.take_of_length_le hk]; exact Nat.le_refl _
  intro j k hjk
  induction k with
  | zero => obtain rfl : j = 0 := by omega
            exact Nat.le_refl _
  | succ k ih =>
    rcases Nat.lt_or_ge j (k + 1) with h | h
    · have := ih (by omega)
      by_cases hl : k < l.length
      · rw [val_take_succ l k hl]; omega
      · rw [List.take_of_length_le (by omega : l.length ≤ k)] at this
        rw [List.take_of_length_le (by omega : l.length ≤ k + 1)]
        exact this
    · obtain rfl : j = k + 1 := by omega
      exact Nat.le_refl _
/-- At most 19 digits below 10^19. -/
theorem nDigits_le19 (u : Nat) (h : u < 10000000000000000000) : Lib.nDigits u ≤ 19 := by
  suffices hs : ∀ k u, u < 10 ^ (k + 1) → Lib.nDigits u ≤ k + 1 from hs 18 u (by simpa using h)
  intro k
  induction k with
  | zero => intro u hu; rw [Lib.nDigits_small (by simpa using hu)]; exact Nat.le_refl _
  | succ k ih =>
    intro u hu
    by_cases hb : u < 10
    · rw [Lib.nDigits_small hb]; omega
    · rw [Lib.nDigits_big hb]
      have := ih (u / 10) (by rw [Nat.pow_succ] at hu; omega)
      omega
theorem dec_le19 (u : Nat) (h : u < 10000000000000000000) : (Lib.decDigits u).length ≤ 19 := by rw [Lib.decDigits_length]; exact nDigits_le19 u h
end Go.Proofs.Qxb6000837aDoor
