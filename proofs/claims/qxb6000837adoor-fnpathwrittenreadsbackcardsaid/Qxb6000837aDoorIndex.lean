/-
  The walk of FnIsDigitsAcceptsWrittenIndex over the contracts.
-/
import Derived.Test.Qxb6000837aDoorPath
import Derived.Test.Qxb6000837aDoorNum
import Derived.Test.Qxb6000837aDoorDigits
import Derived.Laws.IdiomStrings
namespace Go.Proofs.Qxb6000837aDoor
open Go.RowKit
set_option linter.unusedVariables false

theorem tab_on {w w1 : World} (h : Lib.TabIs Tryd.prog w powName .u64 Lib.pow10Tab) (hb : Below w.heap.size w w1) : Lib.TabIs Tryd.prog w1 powName .u64 Lib.pow10Tab := Lib.tabBelow_of_tabIs h w1 hb

/-- What is written for one element. -/
theorem wrt_one (i : Int) (h0 : 0 ≤ i) (h1 : i ≤ 9223372036854775806) : wrt [] [(ByteArray.empty, i)] = 91 :: (Lib.decDigits (i.toNat + 1) ++ [93]) := by
  have h : ¬ i < 0 := by omega
  have e : succW i = ((i.toNat + 1 : Nat) : Int) := by rw [succW_plain (by omega)]; omega
  simp only [wrt, h, if_false, List.nil_append, elemB, e, Lib.itoa_nonneg]

set_option maxHeartbeats 3200000 in
set_option maxRecDepth 100000 in
theorem law_index (i : Int) (h0 : -9223372036854775808 ≤ i) (h1 : i ≤ 9223372036854775807) (w : World) (htab : Lib.TabIs Tryd.prog w powName .u64 Lib.pow10Tab) :
    Calls Tryd.prog 3 #[.int .i64 i] w fun e w' => e = .returned (.bool true) ∧ Below w.heap.size w w' := by
  by_cases hneg : i < 0
  · clear htab
    go_enter Tryd.func3, Tryd.ntmps3
    go_wp2
    go_ret
    exact ⟨rfl, Below.refl _ _⟩
  by_cases hmax : i = 9223372036854775807
  · have hm : (i == 9223372036854775807) = true := by simp [hmax]
    clear htab hmax
    go_enter Tryd.func3, Tryd.ntmps3
    go_wp2
    go_ret
    exact ⟨rfl, Below.refl _ _⟩
  have hm : (i == 9223372036854775807) = false := by simp [hmax]
  have hb : i ≤ 9223372036854775806 := by omega
  clear hmax h1 h0
  have hb1 : Below w.heap.size w (w.alloc (.cells #[.pointer none, .string ByteArray.empty, .int .i64 i] 41)) := (Below.refl _ _).alloc (Nat.le_refl _) _
  obtain ⟨D, hD⟩ : ∃ D, D = Lib.decDigits (i.toNat + 1) := ⟨_, rfl⟩
  have hw : wrt [] [(ByteArray.empty, i)] = 91 :: (D ++ [93]) := by rw [wrt_one i (by omega) hb, hD]
  have K := zto_any (w.heap.size + 1) [(ByteArray.empty, i)] (.pointer (some ⟨w.heap.size, 0, none⟩)) [] (.slice none 0 0) (w.alloc (.cells #[.pointer none, .string ByteArray.empty, .int .i64 i] 41))
    ⟨w.heap.size, .pointer none, rfl, by omega, by simp, by simp, by simp, ⟨by simp only; omega, by simp only; omega⟩, rfl⟩ (World.ownsRow_nil _ _ _ _) (by simp) (by simp [cost]) (by have := Lib.tabBelow_of_tabIs (tab_on htab hb1); simpa using this)
  rw [hw] at K
  have HK := Lib.hid K
  have HD := Lib.hid hD
  have HB1 := Lib.hid hb1
  clear K hD htab hw hb1
  have dl : 1 ≤ D.length ∧ D.length ≤ 19 := by
    rw [HD.out]
    exact ⟨List.length_pos_iff.2 (dec_ne _), dec_le19 _ (by omega)⟩
  obtain ⟨dl1, dl2⟩ := dl
  obtain ⟨M, hM⟩ : ∃ M, M = D.length := ⟨_, rfl⟩
  have hN : (91 :: (D ++ [93]) : List UInt8).length = M + 2 := by rw [hM]; simp
  rw [hN] at HK
  rw [← hM] at dl1 dl2
  have HM := Lib.hid hM
  clear hN hM
  have n3 : ¬ (M : Int) + 2 < 3 := by omega
  have n4 : ¬ (19 : Int) < (M : Int) := by omega
  have n5 : (0 : Int) < (M : Int) := by omega
  go_enter Tryd.func3, Tryd.ntmps3
  go_wp2_with (first | (go_at_call 7; refine (new_any (.pointer none) _ i w (.inl rfl)).mono ?_; rintro e w1 ⟨rfl, rfl⟩) | (go_at_call 6; refine HK.out.mono ?_; rintro e w2 ⟨v2, rfl, hown, hnx⟩; refine Hid.out ?_))
  refine Lib.hid ?_
  rcases hown.2 with ⟨-, h0⟩ | ⟨g, cap, cur, hv, hg, hh, hnc, hcm, -, -⟩
  · omega
  subst hv
  have hcells : ∀ j (hj : j < (91 :: (D ++ [93]) : List UInt8).length), w2.cell? ⟨g, j, none⟩ = some (.int .u8 ((91 :: (D ++ [93]) : List UInt8)[j].toNat : Int)) := by
    intro j hj
    have := hown.cells (g := g) rfl j (.int .u8 ((91 :: (D ++ [93]) : List UInt8)[j].toNat : Int)) (by rw [Lib.byteCells, List.getElem?_map, List.getElem?_eq_getElem hj]; rfl)
    rwa [WideShapes.add_plain, Nat.zero_add] at this
  have f0 : w2.cell? ⟨g, 0, none⟩ = some (.int .u8 91) := hcells 0 (by simp)
  have f1 : w2.cell? ⟨g, M + 1, none⟩ = some (.int .u8 93) := by
    rw [HM.out]
    have := hcells (D.length + 1) (by simp)
    simpa using this
  have dcells : ∀ j (hj : j < D.length), w2.cell? ⟨g, 1 + j, none⟩ = some (.int .u8 (D[j].toNat : Int)) := by
    intro j hj
    have := hcells (j + 1) (by simp; omega)
    rw [Nat.add_comm 1 j]
    simpa [List.getElem_append_left hj] using this
  have hcv : (convert 22 9 (.slice (some ⟨g, 1, none⟩) M (cap - 1))).run Tryd.prog w2 = .ok (.string ⟨D.toArray⟩) w2 := by
    rw [HM.out]
    exact run_convert_bytes_back (P := Tryd.prog) w2 22 9 5 ⟨g, 1, none⟩ (cap - 1) D Tryd.underlying22 Tryd.underlying5 Tryd.underlying9 (fun j hj => by rw [WideShapes.add_plain]; exact dcells j hj)
  have hgw : g < w2.heap.size := (Array.getElem?_eq_some_iff.1 hh).1
  have HC := Lib.hid dcells
  have HX := Lib.hid hnx
  clear hcells hown hh dcells hnx
  go_wp2_with (go_at_call 8; refine (zisDig_any ⟨D.toArray⟩ _).mono ?_; rintro e w3 ⟨rfl, hb3⟩; refine Hid.out ?_)
  refine Lib.hid ?_
  have hdig : digAll D = true := by
    rw [HD.out]
    unfold digAll
    rw [Bool.and_eq_true]
    refine ⟨by simpa using dec_ne _, List.all_eq_true.2 fun c hc => ?_⟩
    have := dec_digit _ c hc
    rw [digC_iff]; simp; omega
  rw [hdig]
  have hval : val D = i.toNat + 1 := by rw [HD.out, val_dec]
  have HV := Lib.hid hval
  have ccells : ∀ j (hj : j < D.length), w3.cell? ⟨g, 1 + j, none⟩ = some (.int .u8 (D[j].toNat : Int)) := fun j hj => (hb3.cell (p := ⟨g, 1 + j, none⟩) hgw).trans (HC.out j hj)
  have HC3 := Lib.hid ccells
  have HB3 := Lib.hid hb3
  obtain ⟨C0, hC0, e0⟩ : ∃ C0 : Int, w3.cell? ⟨g, 1, none⟩ = some (.int .u8 C0) ∧ (C0 == 48) = false := by
    refine ⟨_, ccells 0 (by have := HM.out; omega), ?_⟩
    have hh := dec_head (i.toNat + 1) (by omega)
    rw [← HD.out] at hh
    have hl : 0 < D.length := by have := HM.out; omega
    rw [List.getD_eq_getElem?_getD, List.getElem?_eq_getElem hl] at hh
    simp only [beq_eq_false_iff_ne]
    intro e
    apply hh
    apply UInt8.toNat_inj.1
    show D[0].toNat = 48
    omega
  clear hdig hval ccells hb3 hcv f0 f1
  go_wp2
  go_loop [5, 6] (fun v j => ∃ k : Nat, k ≤ M ∧ j = .int .i64 k ∧ v = .int .u64 (val (D.take k))) (fun _ j => M - (intOf j).toNat)
  case atStart => exact ⟨0, Nat.zero_le _, rfl, rfl⟩
  case round =>
    obtain ⟨k, hk, rfl, rfl⟩ := hrel
    by_cases hlt : k < M
    · have hkD : k < D.length := by have := HM.out; omega
      obtain ⟨V, hV⟩ : ∃ V : Int, V = (val (D.take k) : Int) := ⟨_, rfl⟩
      obtain ⟨C, hC⟩ : ∃ C : Int, C = (D[k].toNat : Int) := ⟨_, rfl⟩
      have hcell : w3.cell? ⟨g, 1 + k, none⟩ = some (.int .u8 C) := by rw [hC]; exact HC3.out k hkD
      have hdg := dec_digit (i.toNat + 1) D[k] (by rw [← HD.out]; exact List.getElem_mem hkD)
      have c0 : 48 ≤ C := by rw [hC]; omega
      have c1 : C ≤ 57 := by rw [hC]; omega
      have hsn := val_take_succ D k hkD
      have hle := val_take_le D (k + 1)
      have v0 : 0 ≤ V := by rw [hV]; omega
      have HS : Hid ((val (D.take (k + 1)) : Int) = V * 10 + (C - 48)) := by show _ = _; rw [hV, hC]; omega
      have v1 : V * 10 + (C - 48) ≤ 9223372036854775807 := by have := HS.out; have := HV.out; omega
      rw [← hV]
      have HVV := Lib.hid hV
      clear hV hC hdg hsn hle
      go_wp2
      go_round
      case rel => exact ⟨k + 1, by omega, by go_num, by rw [HS.out]⟩
      case measure => simp [intOf]; omega
    · have hkM : k = M := by omega
      have HE : Hid ((val (D.take k) : Int) = i + 1) := by
        show _ = _
        rw [List.take_of_length_le (by have := HM.out; omega), HV.out]; omega
      rw [HE.out]
      clear hkM
      go_wp2
      go_ret
      have t1 : Below w.heap.size w w2 := HB1.out.trans (HX.out.mono (by omega))
      exact ⟨rfl, t1.trans (HB3.out.mono t1.size)⟩
end Go.Proofs.Qxb6000837aDoor
