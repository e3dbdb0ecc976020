/-
  The walk of FnPathAppendKeepsWhatWasThere over the contracts.
-/
import Derived.Test.Qxb6000837aDoorKeep
import Derived.Test.Qxb6000837aDoorIndex
import Derived.Deep.QuietTactic
import Derived.BigQuiet
namespace Go.Proofs.Qxb6000837aDoor
open Go.RowKit
set_option linter.unusedVariables false

theorem min_nat (a b : Nat) (w : World) : Calls Tryd.prog 11 #[.int .i64 a, .int .i64 b] w fun e w' => e = .returned (.int .i64 ((min a b : Nat) : Int)) ∧ w' = w := by
  have e : ((min a b : Nat) : Int) = if (a : Int) < b then (a : Int) else b := by split <;> omega
  rw [e]
  exact min_any a b w

theorem fits_steps {S : Nat → ByteArray} {Ix : Nat → Int} : ∀ {n : Nat}, (∀ i, i < n → -9223372036854775808 ≤ Ix i ∧ Ix i ≤ 9223372036854775807) → Fits (stepsTo S Ix n)
  | 0, _ => fun s hs => by cases hs
  | k + 1, h => fun s hs => by
    rcases List.mem_cons.1 hs with rfl | hs
    · exact h k (by omega)
    · exact fits_steps (fun i hi => h i (by omega)) s hs

set_option maxHeartbeats 6400000 in
set_option maxRecDepth 100000 in
theorem law_keep (a0 a1 a2 : Option Addr) (n0 n1 n2 c0 c1 c2 : Nat) (bs : List UInt8) (S : Nat → ByteArray) (Ix : Nat → Int) (w : World) (h0 : n0 ≤ 9223372036854775807) (h1 : n1 ≤ 9223372036854775807) (h2 : n2 ≤ 9223372036854775807)
    (hnil : a0 = none → n0 = 0 ∧ c0 = 0) (hl : bs.length = n0) (hr0 : RowOf w a0 n0 (byteAt bs)) (hr1 : RowOf w a1 n1 (fun i => .string (S i))) (hr2 : RowOf w a2 n2 (fun i => .int .i64 (Ix i)))
    (hix : ∀ i, i < n2 → -9223372036854775808 ≤ Ix i ∧ Ix i ≤ 9223372036854775807) (htab : Lib.TabIs Tryd.prog w powName .u64 Lib.pow10Tab) :
    Calls Tryd.prog 5 #[.slice a0 n0 c0, .slice a1 n1 c1, .slice a2 n2 c2] w fun e w' => e = .returned (.bool true) ∧ Below w.heap.size w w' := by
  have K15 := Lib.hid (bytes15 a0 a1 a2 n0 n1 n2 c0 c1 c2 S w h0 h1 h2 hr1)
  have HL := Lib.hid hl
  have HNIL := Lib.hid hnil
  have HR0 := Lib.hid hr0
  have HR1 := Lib.hid hr1
  have HR2 := Lib.hid hr2
  have HI := Lib.hid hix
  have HT := Lib.hid htab
  clear hl hnil hr0 hr1 hr2 hix htab
  go_enter Tryd.func5, Tryd.ntmps5
  go_wp2_with (go_at_call 15; refine K15.out.mono ?_; rintro e w ⟨⟨r, rfl, hr⟩, rfl⟩; refine Hid.out ?_)
  refine Lib.hid ?_
  cases r with
  | false =>
    clear hr
    go_wp2
    go_ret
    exact ⟨rfl, Below.refl _ _⟩
  | true =>
  have hr := hr rfl
  have g0 : ¬ (1048576 : Int) < (n0 : Int) := by omega
  by_cases e1 : (65536 : Int) < (n1 : Int)
  · go_wp2
    go_ret
    exact ⟨rfl, Below.refl _ _⟩
  by_cases e2 : (65536 : Int) < (n2 : Int)
  · go_wp2
    go_ret
    exact ⟨rfl, Below.refl _ _⟩
  have K10 := Lib.hid (steps_any a1 a2 n1 n2 c1 c2 S w (by omega) (by omega) (by omega) HR1.out)
  go_wp2_with (go_at_call 10; refine K10.out.mono ?_; rintro e w ⟨⟨T, rfl, hT0, hT1⟩, rfl⟩; refine Hid.out ?_)
  refine Lib.hid ?_
  by_cases e3 : (1048576 : Int) < (n0 : Int) + T
  · go_wp2
    go_ret
    exact ⟨rfl, Below.refl _ _⟩
  obtain ⟨n, hn⟩ : ∃ n, n = min n1 n2 := ⟨_, rfl⟩
  have hnn1 : n ≤ n1 := by omega
  have hnn2 : n ≤ n2 := by omega
  have K11 := Lib.hid (min_nat n1 n2 w)
  rw [← hn] at K11
  clear hn
  go_wp2_with (go_at_call 11; refine K11.out.mono ?_; rintro e w ⟨rfl, rfl⟩; refine Hid.out ?_)
  refine Lib.hid ?_
  have hsum : sumS S n ≤ 1048576 := by have := sumS_mono S hnn1; omega
  have HFI : Hid (Fits (stepsTo S Ix n)) := fits_steps (fun i hi => HI.out i (by omega))
  have K1 := Lib.hid (clone_any a0 n0 c0 bs w HNIL.out (by omega) HL.out HR0.out)
  clear e3 hT0 hT1 K10 K11 K15
  by_cases m0 : n0 = 0
  rotate_left
  by_cases m1 : n = 0
  rotate_left
  · obtain ⟨b1, o1, rfl, hb1', hcS⟩ := HR1.out.pos (by omega)
    obtain ⟨b2, o2, rfl, hb2', hcI⟩ := HR2.out.pos (by omega)
    obtain ⟨I0, hI0⟩ : ∃ I0, I0 = Ix 0 := ⟨_, rfl⟩
    obtain ⟨s0, hs0⟩ : ∃ s0, s0 = S 0 := ⟨_, rfl⟩
    have q2 : w.cell? ⟨b2, o2, none⟩ = some (.int .i64 I0) := by rw [hI0]; exact hcI 0 (by omega)
    have q1 : w.cell? ⟨b1, o1, none⟩ = some (.string s0) := by rw [hs0]; exact hcS 0 (by omega)
    have p0 : (0 : Int) < (n0 : Int) := by omega
    have p1 : (0 : Int) < (n : Int) := by omega
    have p2 : (0 : Int) < (n1 : Int) := by omega
    have p3 : (0 : Int) < (n2 : Int) := by omega
    have HX : Hid (∀ W, Below w.heap.size w W → W.cell? ⟨b2, o2, none⟩ = some (.int .i64 I0)) := fun W hW => (hW.cell (p := ⟨b2, o2, none⟩) hb2').trans q2
    have HI0 := Lib.hid hI0
    have HS0 := Lib.hid hs0
    clear hcS hcI hI0 hs0 m0 m1
    by_cases m2 : I0 < 0
    · by_cases m3 : s0.toList.isEmpty = true
      · go_wp2
        go_ret
        exact ⟨rfl, Below.refl _ _⟩
      · have m3' : s0.toList.isEmpty = false := by simpa using m3
        have HKP : Hid (¬ (bs ≠ [] ∧ 0 < n ∧ Ix 0 < 0 ∧ (S 0).data.toList = [])) := fun h => by
          apply m3
          rw [ByteArray.toList_eq, HS0.out, h.2.2.2]; rfl
        have SEPL : Hid (sepB bs Ix n = [46]) := by
          show _ = _
          have hbs : bs ≠ [] := fun e => by have := HL.out; rw [e] at this; simp at this; omega
          unfold sepB
          rw [if_pos ⟨hbs, by omega, by rw [← HI0.out]; exact m2⟩]
        clear m3
        go_wp2_with (go_at_call 16; refine K1.out.mono ?_; rintro e w1 ⟨v1, rfl, ho1, hb1⟩; refine Hid.out ?_)
        refine Lib.hid ?_
        obtain ⟨-, A1, C1, rfl, nil1, row1⟩ := owns_rowOf ho1
        have K2 := Lib.hid (build_any _ _ n1 n2 c1 c2 n S Ix w1 hnn1 hnn2 (by omega) (by omega) (HR1.out.on hb1) (HR2.out.on hb1) (fun i hi => HI.out i (by omega)))
        have HB1 := Lib.hid hb1
        have R1 := Lib.hid row1
        have N1 := Lib.hid nil1
        clear hb1 row1 ho1 nil1
        go_wp2_with (go_at_call 13; refine K2.out.mono ?_; rintro e w2 ⟨p, rfl, hp, hb2⟩; refine Hid.out ?_)
        refine Lib.hid ?_
        have t2 : Below w.heap.size w w2 := HB1.out.trans (hb2.mono HB1.out.size)
        have K3 := Lib.hid (zto_any w2.heap.size (stepsTo S Ix n) p [] (.slice none 0 0) w2 hp (World.ownsRow_nil _ _ _ _) (Nat.le_refl _) (by rw [cost_steps]; simp; omega) (Lib.tabBelow_of_tabIs (tab_on HT.out t2)))
        have HP := Lib.hid hp
        have HB2 := Lib.hid hb2
        have HT2 := Lib.hid t2
        clear hp hb2 t2
        go_wp2_with (go_at_call 6; refine K3.out.mono ?_; rintro e w3 ⟨v3, rfl, ho3, hb3⟩; refine Hid.out ?_)
        refine Lib.hid ?_
        obtain ⟨-, A3, C3, rfl, -, row3⟩ := owns_rowOf ho3
        have b13 : Below w1.heap.size w1 w3 := HB2.out.trans (hb3.mono HB2.out.size)
        have t3 : Below w.heap.size w w3 := HT2.out.trans (hb3.mono HT2.out.size)
        have K4 := Lib.hid (clone_any A1 n0 C1 bs w3 N1.out (by omega) HL.out (R1.out.on b13))
        obtain ⟨nW, hnW⟩ : ∃ nW, nW = (wrt [] (stepsTo S Ix n)).length := ⟨_, rfl⟩
        rw [← hnW] at row3
        rw [← hnW]
        have HR3 := Lib.hid row3
        have HB3 := Lib.hid hb3
        have HB13 := Lib.hid b13
        have HT3 := Lib.hid t3
        have HNW := Lib.hid hnW
        clear row3 hb3 ho3 b13 t3 hnW
        go_wp2_with (go_at_call 16; refine K4.out.mono ?_; rintro e w4 ⟨v4, rfl, ho4, hb4⟩; refine Hid.out ?_)
        refine Lib.hid ?_
        have pp : PathAt w4 w3.heap.size (stepsTo S Ix n) p := ((HP.out.on (Nat.le_refl _) HB3.out).up HB3.out.size).on (Nat.le_refl _) hb4
        have ho4' : w4.ownsRow w3.heap.size 5 1 v4 bs.length (Lib.byteCells bs) := by rw [HL.out]; exact ho4
        have K5 := Lib.hid (zto_any w3.heap.size (stepsTo S Ix n) p bs v4 w4 pp ho4' hb4.size (by rw [cost_steps, HL.out]; omega) ((Lib.tabBelow_of_tabIs (tab_on HT.out HT3.out)).on hb4))
        have HB4 := Lib.hid hb4
        clear pp ho4 ho4' hb4
        go_wp2_with (go_at_call 6; refine K5.out.mono ?_; rintro e w5 ⟨v5, rfl, ho5, hb5⟩; refine Hid.out ?_)
        refine Lib.hid ?_
        obtain ⟨-, A5, C5, rfl, -, row5⟩ := owns_rowOf ho5
        have b35 : Below w3.heap.size w3 w5 := HB4.out.trans hb5
        have t5 : Below w.heap.size w w5 := HT3.out.trans (b35.mono HT3.out.size)
        have b15 : Below w1.heap.size w1 w5 := HB13.out.trans (b35.mono HB13.out.size)
        have Q1 := Lib.hid (R1.out.on b15)
        have Q3 := Lib.hid (HR3.out.on b35)
        have HT5 := Lib.hid t5
        have HG := Lib.hid (keep bs S Ix n HKP.out)
        obtain ⟨nG, hnG⟩ : ∃ nG, nG = (wrt bs (stepsTo S Ix n)).length := ⟨_, rfl⟩
        rw [← hnG] at row5
        rw [← hnG]
        have hGl : nG = n0 + 1 + nW := by
          rw [hnG, HG.out, List.length_append, List.length_append, HL.out, HNW.out, SEPL.out]
          simp
          omega
        have gl : (nG : Int) = (n0 : Int) + 1 + (nW : Int) := by omega
        have hWle : nW ≤ 4194304 := by
          rw [HNW.out]
          refine Nat.le_trans (wrt_length [] _ HFI.out) ?_
          rw [cost_steps]; simp; omega
        have Q5 := Lib.hid row5
        have HGL := Lib.hid hGl
        have ex := HX.out w5 t5
        clear ho5 hb5 b35 b15 row5 hnG hGl t5
        have gneq : ((nG : Int) != (n0 : Int) + 1 + (nW : Int)) = false := by rw [gl]; simp
        clear gl
        go_wp2
        clear gneq
        go_loopw [12] (fun i wr => ∃ k : Nat, k ≤ n0 ∧ i = .int .i64 k ∧ Same w5 wr) (fun i _ => n0 - (intOf i).toNat)
        case atStart => exact ⟨0, Nat.zero_le _, rfl, Same.refl _⟩
        case round =>
          obtain ⟨k, hk, rfl, hsame⟩ := hrel
          by_cases hlt : k < n0
          · obtain ⟨g1, f1, ha1, -, hc1⟩ := Q1.out k hlt
            obtain ⟨g5, f5, ha5, -, hc5⟩ := Q5.out k (by have := HGL.out; omega)
            subst ha1
            subst ha5
            obtain ⟨X, hX⟩ : ∃ X : Int, X = ((bs.getD k 0).toNat : Int) := ⟨_, rfl⟩
            have d1 : wr.cell? ⟨g1, f1 + k, none⟩ = some (.int .u8 X) := by rw [hsame.cell, hc1, hX]; rfl
            have d5 : wr.cell? ⟨g5, f5 + k, none⟩ = some (.int .u8 X) := by
              rw [hsame.cell, hc5, hX, byteAt, HG.out, getD_left (by rw [HL.out]; exact hlt)]
            have kG : (k : Int) < (nG : Int) := by have := HGL.out; omega
            have kn : (k : Int) < (n0 : Int) := by omega
            have HS := Lib.hid hsame
            clear hsame hX hc1 hc5 ex
            go_wp2
            go_quiet (fail)
            go_wp2
            go_roundw
            case rel => exact ⟨k + 1, by omega, by go_num, HS.out.drewN _⟩
            case measure => simp [intOf]; omega
          · have hkn : ¬ (k : Int) < (n0 : Int) := by omega
            have HS := Lib.hid hsame
            obtain ⟨g5, f5, ha5, -, hc5⟩ := Q5.out n0 (by have := HGL.out; omega)
            subst ha5
            have d46 : wr.cell? ⟨g5, f5 + n0, none⟩ = some (.int .u8 46) := by
              rw [hsame.cell, hc5, byteAt, HG.out, show n0 = bs.length + 0 by rw [HL.out, Nat.add_zero], getD_right, SEPL.out]
              rfl
            have kG0 : (n0 : Int) < (nG : Int) := by have := HGL.out; omega
            clear hc5
            clear hsame ex
            go_wp2
            go_loopw [13] (fun i wv => ∃ j : Nat, j ≤ nW ∧ i = .int .i64 j ∧ Same w5 wv) (fun i _ => nW - (intOf i).toNat)
            case atStart => exact ⟨0, Nat.zero_le _, rfl, HS.out⟩
            case round =>
              obtain ⟨j, hj, rfl, hsame⟩ := hrel
              by_cases hjlt : j < nW
              · obtain ⟨g3, f3, ha3, -, hc3⟩ := Q3.out j hjlt
                obtain ⟨h5, e5, ha5, -, hc5⟩ := Q5.out (n0 + 1 + j) (by have := HGL.out; omega)
                obtain ⟨rfl, rfl⟩ : g5 = h5 ∧ f5 = e5 := by simpa using ha5
                subst ha3
                obtain ⟨X, hX⟩ : ∃ X : Int, X = (((wrt [] (stepsTo S Ix n)).getD j 0).toNat : Int) := ⟨_, rfl⟩
                have d1 : wr.cell? ⟨g3, f3 + j, none⟩ = some (.int .u8 X) := by rw [hsame.cell, hc3, hX]; rfl
                have d5 : wr.cell? ⟨g5, f5 + (n0 + 1 + j), none⟩ = some (.int .u8 X) := by
                  rw [hsame.cell, hc5, hX, byteAt, HG.out, show n0 + 1 + j = bs.length + (1 + j) by rw [HL.out]; omega, getD_right, SEPL.out]
                  have e : ([46] ++ wrt [] (stepsTo S Ix n) : List UInt8).getD (1 + j) 0 = (wrt [] (stepsTo S Ix n)).getD j 0 := getD_right (a := [46])
                  rw [e]
                have kG : (n0 : Int) + 1 + (j : Int) < (nG : Int) := by have := HGL.out; omega
                have kW : (j : Int) < (nW : Int) := by omega
                have HS2 := Lib.hid hsame
                clear hsame hX hc3 hc5
                go_wp2
                go_quiet (fail)
                go_wp2
                go_roundw
                case rel => exact ⟨j + 1, by omega, by go_num, HS2.out.drewN _⟩
                case measure => simp [intOf]; omega
              · have hjn : ¬ (j : Int) < (nW : Int) := by omega
                have HS2 := Lib.hid hsame
                clear hsame
                go_wp2
                go_ret
                exact ⟨rfl, HT5.out.trans (HS2.out.below _)⟩

    · have HKP : Hid (¬ (bs ≠ [] ∧ 0 < n ∧ Ix 0 < 0 ∧ (S 0).data.toList = [])) := fun h => m2 (by rw [HI0.out]; exact h.2.2.1)
      have SEPL : Hid (sepB bs Ix n = []) := by
        show _ = _
        unfold sepB
        rw [if_neg (fun h => m2 (by rw [HI0.out]; exact h.2.2))]
      go_wp2_with (go_at_call 16; refine K1.out.mono ?_; rintro e w1 ⟨v1, rfl, ho1, hb1⟩; refine Hid.out ?_)
      refine Lib.hid ?_
      obtain ⟨-, A1, C1, rfl, nil1, row1⟩ := owns_rowOf ho1
      have K2 := Lib.hid (build_any _ _ n1 n2 c1 c2 n S Ix w1 hnn1 hnn2 (by omega) (by omega) (HR1.out.on hb1) (HR2.out.on hb1) (fun i hi => HI.out i (by omega)))
      have HB1 := Lib.hid hb1
      have R1 := Lib.hid row1
      have N1 := Lib.hid nil1
      clear hb1 row1 ho1 nil1
      go_wp2_with (go_at_call 13; refine K2.out.mono ?_; rintro e w2 ⟨p, rfl, hp, hb2⟩; refine Hid.out ?_)
      refine Lib.hid ?_
      have t2 : Below w.heap.size w w2 := HB1.out.trans (hb2.mono HB1.out.size)
      have K3 := Lib.hid (zto_any w2.heap.size (stepsTo S Ix n) p [] (.slice none 0 0) w2 hp (World.ownsRow_nil _ _ _ _) (Nat.le_refl _) (by rw [cost_steps]; simp; omega) (Lib.tabBelow_of_tabIs (tab_on HT.out t2)))
      have HP := Lib.hid hp
      have HB2 := Lib.hid hb2
      have HT2 := Lib.hid t2
      clear hp hb2 t2
      go_wp2_with (go_at_call 6; refine K3.out.mono ?_; rintro e w3 ⟨v3, rfl, ho3, hb3⟩; refine Hid.out ?_)
      refine Lib.hid ?_
      obtain ⟨-, A3, C3, rfl, -, row3⟩ := owns_rowOf ho3
      have b13 : Below w1.heap.size w1 w3 := HB2.out.trans (hb3.mono HB2.out.size)
      have t3 : Below w.heap.size w w3 := HT2.out.trans (hb3.mono HT2.out.size)
      have K4 := Lib.hid (clone_any A1 n0 C1 bs w3 N1.out (by omega) HL.out (R1.out.on b13))
      obtain ⟨nW, hnW⟩ : ∃ nW, nW = (wrt [] (stepsTo S Ix n)).length := ⟨_, rfl⟩
      rw [← hnW] at row3
      rw [← hnW]
      have HR3 := Lib.hid row3
      have HB3 := Lib.hid hb3
      have HB13 := Lib.hid b13
      have HT3 := Lib.hid t3
      have HNW := Lib.hid hnW
      clear row3 hb3 ho3 b13 t3 hnW
      go_wp2_with (go_at_call 16; refine K4.out.mono ?_; rintro e w4 ⟨v4, rfl, ho4, hb4⟩; refine Hid.out ?_)
      refine Lib.hid ?_
      have pp : PathAt w4 w3.heap.size (stepsTo S Ix n) p := ((HP.out.on (Nat.le_refl _) HB3.out).up HB3.out.size).on (Nat.le_refl _) hb4
      have ho4' : w4.ownsRow w3.heap.size 5 1 v4 bs.length (Lib.byteCells bs) := by rw [HL.out]; exact ho4
      have K5 := Lib.hid (zto_any w3.heap.size (stepsTo S Ix n) p bs v4 w4 pp ho4' hb4.size (by rw [cost_steps, HL.out]; omega) ((Lib.tabBelow_of_tabIs (tab_on HT.out HT3.out)).on hb4))
      have HB4 := Lib.hid hb4
      clear pp ho4 ho4' hb4
      go_wp2_with (go_at_call 6; refine K5.out.mono ?_; rintro e w5 ⟨v5, rfl, ho5, hb5⟩; refine Hid.out ?_)
      refine Lib.hid ?_
      obtain ⟨-, A5, C5, rfl, -, row5⟩ := owns_rowOf ho5
      have b35 : Below w3.heap.size w3 w5 := HB4.out.trans hb5
      have t5 : Below w.heap.size w w5 := HT3.out.trans (b35.mono HT3.out.size)
      have b15 : Below w1.heap.size w1 w5 := HB13.out.trans (b35.mono HB13.out.size)
      have Q1 := Lib.hid (R1.out.on b15)
      have Q3 := Lib.hid (HR3.out.on b35)
      have HT5 := Lib.hid t5
      have HG := Lib.hid (keep bs S Ix n HKP.out)
      obtain ⟨nG, hnG⟩ : ∃ nG, nG = (wrt bs (stepsTo S Ix n)).length := ⟨_, rfl⟩
      rw [← hnG] at row5
      rw [← hnG]
      have hGl : nG = n0 + nW := by
        rw [hnG, HG.out, List.length_append, List.length_append, HL.out, HNW.out, SEPL.out]
        simp
      have gl : (nG : Int) = (n0 : Int) + (nW : Int) := by omega
      have hWle : nW ≤ 4194304 := by
        rw [HNW.out]
        refine Nat.le_trans (wrt_length [] _ HFI.out) ?_
        rw [cost_steps]; simp; omega
      have Q5 := Lib.hid row5
      have HGL := Lib.hid hGl
      have ex := HX.out w5 t5
      clear ho5 hb5 b35 b15 row5 hnG hGl t5
      have gneq : ((nG : Int) != (n0 : Int) + (nW : Int)) = false := by rw [gl]; simp
      clear gl
      go_wp2
      clear gneq
      go_loopw [12] (fun i wr => ∃ k : Nat, k ≤ n0 ∧ i = .int .i64 k ∧ Same w5 wr) (fun i _ => n0 - (intOf i).toNat)
      case atStart => exact ⟨0, Nat.zero_le _, rfl, Same.refl _⟩
      case round =>
        obtain ⟨k, hk, rfl, hsame⟩ := hrel
        by_cases hlt : k < n0
        · obtain ⟨g1, f1, ha1, -, hc1⟩ := Q1.out k hlt
          obtain ⟨g5, f5, ha5, -, hc5⟩ := Q5.out k (by have := HGL.out; omega)
          subst ha1
          subst ha5
          obtain ⟨X, hX⟩ : ∃ X : Int, X = ((bs.getD k 0).toNat : Int) := ⟨_, rfl⟩
          have d1 : wr.cell? ⟨g1, f1 + k, none⟩ = some (.int .u8 X) := by rw [hsame.cell, hc1, hX]; rfl
          have d5 : wr.cell? ⟨g5, f5 + k, none⟩ = some (.int .u8 X) := by
            rw [hsame.cell, hc5, hX, byteAt, HG.out, getD_left (by rw [HL.out]; exact hlt)]
          have kG : (k : Int) < (nG : Int) := by have := HGL.out; omega
          have kn : (k : Int) < (n0 : Int) := by omega
          have HS := Lib.hid hsame
          clear hsame hX hc1 hc5 ex
          go_wp2
          go_quiet (fail)
          go_wp2
          go_roundw
          case rel => exact ⟨k + 1, by omega, by go_num, HS.out.drewN _⟩
          case measure => simp [intOf]; omega
        · have hkn : ¬ (k : Int) < (n0 : Int) := by omega
          have HS := Lib.hid hsame
          clear hsame ex
          go_wp2
          go_loopw [13] (fun i wv => ∃ j : Nat, j ≤ nW ∧ i = .int .i64 j ∧ Same w5 wv) (fun i _ => nW - (intOf i).toNat)
          case atStart => exact ⟨0, Nat.zero_le _, rfl, HS.out⟩
          case round =>
            obtain ⟨j, hj, rfl, hsame⟩ := hrel
            by_cases hjlt : j < nW
            · obtain ⟨g3, f3, ha3, -, hc3⟩ := Q3.out j hjlt
              obtain ⟨g5, f5, ha5, -, hc5⟩ := Q5.out (n0 + j) (by have := HGL.out; omega)
              subst ha5
              subst ha3
              obtain ⟨X, hX⟩ : ∃ X : Int, X = (((wrt [] (stepsTo S Ix n)).getD j 0).toNat : Int) := ⟨_, rfl⟩
              have d1 : wr.cell? ⟨g3, f3 + j, none⟩ = some (.int .u8 X) := by rw [hsame.cell, hc3, hX]; rfl
              have d5 : wr.cell? ⟨g5, f5 + (n0 + j), none⟩ = some (.int .u8 X) := by
                rw [hsame.cell, hc5, hX, byteAt, HG.out, show n0 + j = bs.length + (j) by rw [HL.out], getD_right, SEPL.out]
                rfl
              have kG : (n0 : Int) + (j : Int) < (nG : Int) := by have := HGL.out; omega
              have kW : (j : Int) < (nW : Int) := by omega
              have HS2 := Lib.hid hsame
              clear hsame hX hc3 hc5
              go_wp2
              go_quiet (fail)
              go_wp2
              go_roundw
              case rel => exact ⟨j + 1, by omega, by go_num, HS2.out.drewN _⟩
              case measure => simp [intOf]; omega
            · have hjn : ¬ (j : Int) < (nW : Int) := by omega
              have HS2 := Lib.hid hsame
              clear hsame
              go_wp2
              go_ret
              exact ⟨rfl, HT5.out.trans (HS2.out.below _)⟩

  · have p0 : ¬ (0 : Int) < (n0 : Int) := by omega
    have HX : Hid (∀ W, Below w.heap.size w W → True) := fun _ _ => trivial
    have hbs : bs = [] := List.eq_nil_of_length_eq_zero (by rw [HL.out]; exact m0)
    have HKP : Hid (¬ (bs ≠ [] ∧ 0 < n ∧ Ix 0 < 0 ∧ (S 0).data.toList = [])) := fun h => h.1 hbs
    have SEPL : Hid (sepB bs Ix n = []) := by
      show _ = _
      unfold sepB
      rw [if_neg (fun h => h.1 hbs)]
    have m0' : n0 ≤ 0 := by omega
    clear hbs m0
    go_wp2_with (go_at_call 16; refine K1.out.mono ?_; rintro e w1 ⟨v1, rfl, ho1, hb1⟩; refine Hid.out ?_)
    refine Lib.hid ?_
    obtain ⟨-, A1, C1, rfl, nil1, row1⟩ := owns_rowOf ho1
    have K2 := Lib.hid (build_any _ _ n1 n2 c1 c2 n S Ix w1 hnn1 hnn2 (by omega) (by omega) (HR1.out.on hb1) (HR2.out.on hb1) (fun i hi => HI.out i (by omega)))
    have HB1 := Lib.hid hb1
    have R1 := Lib.hid row1
    have N1 := Lib.hid nil1
    clear hb1 row1 ho1 nil1
    go_wp2_with (go_at_call 13; refine K2.out.mono ?_; rintro e w2 ⟨p, rfl, hp, hb2⟩; refine Hid.out ?_)
    refine Lib.hid ?_
    have t2 : Below w.heap.size w w2 := HB1.out.trans (hb2.mono HB1.out.size)
    have K3 := Lib.hid (zto_any w2.heap.size (stepsTo S Ix n) p [] (.slice none 0 0) w2 hp (World.ownsRow_nil _ _ _ _) (Nat.le_refl _) (by rw [cost_steps]; simp; omega) (Lib.tabBelow_of_tabIs (tab_on HT.out t2)))
    have HP := Lib.hid hp
    have HB2 := Lib.hid hb2
    have HT2 := Lib.hid t2
    clear hp hb2 t2
    go_wp2_with (go_at_call 6; refine K3.out.mono ?_; rintro e w3 ⟨v3, rfl, ho3, hb3⟩; refine Hid.out ?_)
    refine Lib.hid ?_
    obtain ⟨-, A3, C3, rfl, -, row3⟩ := owns_rowOf ho3
    have b13 : Below w1.heap.size w1 w3 := HB2.out.trans (hb3.mono HB2.out.size)
    have t3 : Below w.heap.size w w3 := HT2.out.trans (hb3.mono HT2.out.size)
    have K4 := Lib.hid (clone_any A1 n0 C1 bs w3 N1.out (by omega) HL.out (R1.out.on b13))
    obtain ⟨nW, hnW⟩ : ∃ nW, nW = (wrt [] (stepsTo S Ix n)).length := ⟨_, rfl⟩
    rw [← hnW] at row3
    rw [← hnW]
    have HR3 := Lib.hid row3
    have HB3 := Lib.hid hb3
    have HB13 := Lib.hid b13
    have HT3 := Lib.hid t3
    have HNW := Lib.hid hnW
    clear row3 hb3 ho3 b13 t3 hnW
    go_wp2_with (go_at_call 16; refine K4.out.mono ?_; rintro e w4 ⟨v4, rfl, ho4, hb4⟩; refine Hid.out ?_)
    refine Lib.hid ?_
    have pp : PathAt w4 w3.heap.size (stepsTo S Ix n) p := ((HP.out.on (Nat.le_refl _) HB3.out).up HB3.out.size).on (Nat.le_refl _) hb4
    have ho4' : w4.ownsRow w3.heap.size 5 1 v4 bs.length (Lib.byteCells bs) := by rw [HL.out]; exact ho4
    have K5 := Lib.hid (zto_any w3.heap.size (stepsTo S Ix n) p bs v4 w4 pp ho4' hb4.size (by rw [cost_steps, HL.out]; omega) ((Lib.tabBelow_of_tabIs (tab_on HT.out HT3.out)).on hb4))
    have HB4 := Lib.hid hb4
    clear pp ho4 ho4' hb4
    go_wp2_with (go_at_call 6; refine K5.out.mono ?_; rintro e w5 ⟨v5, rfl, ho5, hb5⟩; refine Hid.out ?_)
    refine Lib.hid ?_
    obtain ⟨-, A5, C5, rfl, -, row5⟩ := owns_rowOf ho5
    have b35 : Below w3.heap.size w3 w5 := HB4.out.trans hb5
    have t5 : Below w.heap.size w w5 := HT3.out.trans (b35.mono HT3.out.size)
    have b15 : Below w1.heap.size w1 w5 := HB13.out.trans (b35.mono HB13.out.size)
    have Q1 := Lib.hid (R1.out.on b15)
    have Q3 := Lib.hid (HR3.out.on b35)
    have HT5 := Lib.hid t5
    have HG := Lib.hid (keep bs S Ix n HKP.out)
    obtain ⟨nG, hnG⟩ : ∃ nG, nG = (wrt bs (stepsTo S Ix n)).length := ⟨_, rfl⟩
    rw [← hnG] at row5
    rw [← hnG]
    have hGl : nG = n0 + nW := by
      rw [hnG, HG.out, List.length_append, List.length_append, HL.out, HNW.out, SEPL.out]
      simp
    have gl : (nG : Int) = (n0 : Int) + (nW : Int) := by omega
    have hWle : nW ≤ 4194304 := by
      rw [HNW.out]
      refine Nat.le_trans (wrt_length [] _ HFI.out) ?_
      rw [cost_steps]; simp; omega
    have Q5 := Lib.hid row5
    have HGL := Lib.hid hGl
    have ex := HX.out w5 t5
    clear ho5 hb5 b35 b15 row5 hnG hGl t5
    have gneq : ((nG : Int) != (n0 : Int) + (nW : Int)) = false := by rw [gl]; simp
    clear gl
    go_wp2
    clear gneq
    go_loopw [12] (fun i wr => ∃ k : Nat, k ≤ n0 ∧ i = .int .i64 k ∧ Same w5 wr) (fun i _ => n0 - (intOf i).toNat)
    case atStart => exact ⟨0, Nat.zero_le _, rfl, Same.refl _⟩
    case round =>
      obtain ⟨k, hk, rfl, hsame⟩ := hrel
      by_cases hlt : k < n0
      · obtain ⟨g1, f1, ha1, -, hc1⟩ := Q1.out k hlt
        obtain ⟨g5, f5, ha5, -, hc5⟩ := Q5.out k (by have := HGL.out; omega)
        subst ha1
        subst ha5
        obtain ⟨X, hX⟩ : ∃ X : Int, X = ((bs.getD k 0).toNat : Int) := ⟨_, rfl⟩
        have d1 : wr.cell? ⟨g1, f1 + k, none⟩ = some (.int .u8 X) := by rw [hsame.cell, hc1, hX]; rfl
        have d5 : wr.cell? ⟨g5, f5 + k, none⟩ = some (.int .u8 X) := by
          rw [hsame.cell, hc5, hX, byteAt, HG.out, getD_left (by rw [HL.out]; exact hlt)]
        have kG : (k : Int) < (nG : Int) := by have := HGL.out; omega
        have kn : (k : Int) < (n0 : Int) := by omega
        have HS := Lib.hid hsame
        clear hsame hX hc1 hc5 ex
        go_wp2
        go_quiet (fail)
        go_wp2
        go_roundw
        case rel => exact ⟨k + 1, by omega, by go_num, HS.out.drewN _⟩
        case measure => simp [intOf]; omega
      · have hkn : ¬ (k : Int) < (n0 : Int) := by omega
        have HS := Lib.hid hsame
        clear hsame ex
        go_wp2
        go_loopw [13] (fun i wv => ∃ j : Nat, j ≤ nW ∧ i = .int .i64 j ∧ Same w5 wv) (fun i _ => nW - (intOf i).toNat)
        case atStart => exact ⟨0, Nat.zero_le _, rfl, HS.out⟩
        case round =>
          obtain ⟨j, hj, rfl, hsame⟩ := hrel
          by_cases hjlt : j < nW
          · obtain ⟨g3, f3, ha3, -, hc3⟩ := Q3.out j hjlt
            obtain ⟨g5, f5, ha5, -, hc5⟩ := Q5.out (n0 + j) (by have := HGL.out; omega)
            subst ha5
            subst ha3
            obtain ⟨X, hX⟩ : ∃ X : Int, X = (((wrt [] (stepsTo S Ix n)).getD j 0).toNat : Int) := ⟨_, rfl⟩
            have d1 : wr.cell? ⟨g3, f3 + j, none⟩ = some (.int .u8 X) := by rw [hsame.cell, hc3, hX]; rfl
            have d5 : wr.cell? ⟨g5, f5 + (n0 + j), none⟩ = some (.int .u8 X) := by
              rw [hsame.cell, hc5, hX, byteAt, HG.out, show n0 + j = bs.length + (j) by rw [HL.out], getD_right, SEPL.out]
              rfl
            have kG : (n0 : Int) + (j : Int) < (nG : Int) := by have := HGL.out; omega
            have kW : (j : Int) < (nW : Int) := by omega
            have HS2 := Lib.hid hsame
            clear hsame hX hc3 hc5
            go_wp2
            go_quiet (fail)
            go_wp2
            go_roundw
            case rel => exact ⟨j + 1, by omega, by go_num, HS2.out.drewN _⟩
            case measure => simp [intOf]; omega
          · have hjn : ¬ (j : Int) < (nW : Int) := by omega
            have HS2 := Lib.hid hsame
            clear hsame
            go_wp2
            go_ret
            exact ⟨rfl, HT5.out.trans (HS2.out.below _)⟩

  · have p0 : (0 : Int) < (n0 : Int) := by omega
    have p1 : ¬ (0 : Int) < (n : Int) := by omega
    have HX : Hid (∀ W, Below w.heap.size w W → True) := fun _ _ => trivial
    have HKP : Hid (¬ (bs ≠ [] ∧ 0 < n ∧ Ix 0 < 0 ∧ (S 0).data.toList = [])) := fun h => by omega
    have SEPL : Hid (sepB bs Ix n = []) := by
      show _ = _
      unfold sepB
      rw [if_neg (fun h => by omega)]
    have m1' : n ≤ 0 := by omega
    clear m1 m0
    go_wp2_with (go_at_call 16; refine K1.out.mono ?_; rintro e w1 ⟨v1, rfl, ho1, hb1⟩; refine Hid.out ?_)
    refine Lib.hid ?_
    obtain ⟨-, A1, C1, rfl, nil1, row1⟩ := owns_rowOf ho1
    have K2 := Lib.hid (build_any _ _ n1 n2 c1 c2 n S Ix w1 hnn1 hnn2 (by omega) (by omega) (HR1.out.on hb1) (HR2.out.on hb1) (fun i hi => HI.out i (by omega)))
    have HB1 := Lib.hid hb1
    have R1 := Lib.hid row1
    have N1 := Lib.hid nil1
    clear hb1 row1 ho1 nil1
    go_wp2_with (go_at_call 13; refine K2.out.mono ?_; rintro e w2 ⟨p, rfl, hp, hb2⟩; refine Hid.out ?_)
    refine Lib.hid ?_
    have t2 : Below w.heap.size w w2 := HB1.out.trans (hb2.mono HB1.out.size)
    have K3 := Lib.hid (zto_any w2.heap.size (stepsTo S Ix n) p [] (.slice none 0 0) w2 hp (World.ownsRow_nil _ _ _ _) (Nat.le_refl _) (by rw [cost_steps]; simp; omega) (Lib.tabBelow_of_tabIs (tab_on HT.out t2)))
    have HP := Lib.hid hp
    have HB2 := Lib.hid hb2
    have HT2 := Lib.hid t2
    clear hp hb2 t2
    go_wp2_with (go_at_call 6; refine K3.out.mono ?_; rintro e w3 ⟨v3, rfl, ho3, hb3⟩; refine Hid.out ?_)
    refine Lib.hid ?_
    obtain ⟨-, A3, C3, rfl, -, row3⟩ := owns_rowOf ho3
    have b13 : Below w1.heap.size w1 w3 := HB2.out.trans (hb3.mono HB2.out.size)
    have t3 : Below w.heap.size w w3 := HT2.out.trans (hb3.mono HT2.out.size)
    have K4 := Lib.hid (clone_any A1 n0 C1 bs w3 N1.out (by omega) HL.out (R1.out.on b13))
    obtain ⟨nW, hnW⟩ : ∃ nW, nW = (wrt [] (stepsTo S Ix n)).length := ⟨_, rfl⟩
    rw [← hnW] at row3
    rw [← hnW]
    have HR3 := Lib.hid row3
    have HB3 := Lib.hid hb3
    have HB13 := Lib.hid b13
    have HT3 := Lib.hid t3
    have HNW := Lib.hid hnW
    clear row3 hb3 ho3 b13 t3 hnW
    go_wp2_with (go_at_call 16; refine K4.out.mono ?_; rintro e w4 ⟨v4, rfl, ho4, hb4⟩; refine Hid.out ?_)
    refine Lib.hid ?_
    have pp : PathAt w4 w3.heap.size (stepsTo S Ix n) p := ((HP.out.on (Nat.le_refl _) HB3.out).up HB3.out.size).on (Nat.le_refl _) hb4
    have ho4' : w4.ownsRow w3.heap.size 5 1 v4 bs.length (Lib.byteCells bs) := by rw [HL.out]; exact ho4
    have K5 := Lib.hid (zto_any w3.heap.size (stepsTo S Ix n) p bs v4 w4 pp ho4' hb4.size (by rw [cost_steps, HL.out]; omega) ((Lib.tabBelow_of_tabIs (tab_on HT.out HT3.out)).on hb4))
    have HB4 := Lib.hid hb4
    clear pp ho4 ho4' hb4
    go_wp2_with (go_at_call 6; refine K5.out.mono ?_; rintro e w5 ⟨v5, rfl, ho5, hb5⟩; refine Hid.out ?_)
    refine Lib.hid ?_
    obtain ⟨-, A5, C5, rfl, -, row5⟩ := owns_rowOf ho5
    have b35 : Below w3.heap.size w3 w5 := HB4.out.trans hb5
    have t5 : Below w.heap.size w w5 := HT3.out.trans (b35.mono HT3.out.size)
    have b15 : Below w1.heap.size w1 w5 := HB13.out.trans (b35.mono HB13.out.size)
    have Q1 := Lib.hid (R1.out.on b15)
    have Q3 := Lib.hid (HR3.out.on b35)
    have HT5 := Lib.hid t5
    have HG := Lib.hid (keep bs S Ix n HKP.out)
    obtain ⟨nG, hnG⟩ : ∃ nG, nG = (wrt bs (stepsTo S Ix n)).length := ⟨_, rfl⟩
    rw [← hnG] at row5
    rw [← hnG]
    have hGl : nG = n0 + nW := by
      rw [hnG, HG.out, List.length_append, List.length_append, HL.out, HNW.out, SEPL.out]
      simp
    have gl : (nG : Int) = (n0 : Int) + (nW : Int) := by omega
    have hWle : nW ≤ 4194304 := by
      rw [HNW.out]
      refine Nat.le_trans (wrt_length [] _ HFI.out) ?_
      rw [cost_steps]; simp; omega
    have Q5 := Lib.hid row5
    have HGL := Lib.hid hGl
    have ex := HX.out w5 t5
    clear ho5 hb5 b35 b15 row5 hnG hGl t5
    have gneq : ((nG : Int) != (n0 : Int) + (nW : Int)) = false := by rw [gl]; simp
    clear gl
    go_wp2
    clear gneq
    go_loopw [12] (fun i wr => ∃ k : Nat, k ≤ n0 ∧ i = .int .i64 k ∧ Same w5 wr) (fun i _ => n0 - (intOf i).toNat)
    case atStart => exact ⟨0, Nat.zero_le _, rfl, Same.refl _⟩
    case round =>
      obtain ⟨k, hk, rfl, hsame⟩ := hrel
      by_cases hlt : k < n0
      · obtain ⟨g1, f1, ha1, -, hc1⟩ := Q1.out k hlt
        obtain ⟨g5, f5, ha5, -, hc5⟩ := Q5.out k (by have := HGL.out; omega)
        subst ha1
        subst ha5
        obtain ⟨X, hX⟩ : ∃ X : Int, X = ((bs.getD k 0).toNat : Int) := ⟨_, rfl⟩
        have d1 : wr.cell? ⟨g1, f1 + k, none⟩ = some (.int .u8 X) := by rw [hsame.cell, hc1, hX]; rfl
        have d5 : wr.cell? ⟨g5, f5 + k, none⟩ = some (.int .u8 X) := by
          rw [hsame.cell, hc5, hX, byteAt, HG.out, getD_left (by rw [HL.out]; exact hlt)]
        have kG : (k : Int) < (nG : Int) := by have := HGL.out; omega
        have kn : (k : Int) < (n0 : Int) := by omega
        have HS := Lib.hid hsame
        clear hsame hX hc1 hc5 ex
        go_wp2
        go_quiet (fail)
        go_wp2
        go_roundw
        case rel => exact ⟨k + 1, by omega, by go_num, HS.out.drewN _⟩
        case measure => simp [intOf]; omega
      · have hkn : ¬ (k : Int) < (n0 : Int) := by omega
        have HS := Lib.hid hsame
        clear hsame ex
        go_wp2
        go_loopw [13] (fun i wv => ∃ j : Nat, j ≤ nW ∧ i = .int .i64 j ∧ Same w5 wv) (fun i _ => nW - (intOf i).toNat)
        case atStart => exact ⟨0, Nat.zero_le _, rfl, HS.out⟩
        case round =>
          obtain ⟨j, hj, rfl, hsame⟩ := hrel
          by_cases hjlt : j < nW
          · obtain ⟨g3, f3, ha3, -, hc3⟩ := Q3.out j hjlt
            obtain ⟨g5, f5, ha5, -, hc5⟩ := Q5.out (n0 + j) (by have := HGL.out; omega)
            subst ha5
            subst ha3
            obtain ⟨X, hX⟩ : ∃ X : Int, X = (((wrt [] (stepsTo S Ix n)).getD j 0).toNat : Int) := ⟨_, rfl⟩
            have d1 : wr.cell? ⟨g3, f3 + j, none⟩ = some (.int .u8 X) := by rw [hsame.cell, hc3, hX]; rfl
            have d5 : wr.cell? ⟨g5, f5 + (n0 + j), none⟩ = some (.int .u8 X) := by
              rw [hsame.cell, hc5, hX, byteAt, HG.out, show n0 + j = bs.length + (j) by rw [HL.out], getD_right, SEPL.out]
              rfl
            have kG : (n0 : Int) + (j : Int) < (nG : Int) := by have := HGL.out; omega
            have kW : (j : Int) < (nW : Int) := by omega
            have HS2 := Lib.hid hsame
            clear hsame hX hc3 hc5
            go_wp2
            go_quiet (fail)
            go_wp2
            go_roundw
            case rel => exact ⟨j + 1, by omega, by go_num, HS2.out.drewN _⟩
            case measure => simp [intOf]; omega
          · have hjn : ¬ (j : Int) < (nW : Int) := by omega
            have HS2 := Lib.hid hsame
            clear hsame
            go_wp2
            go_ret
            exact ⟨rfl, HT5.out.trans (HS2.out.below _)⟩

end Go.Proofs.Qxb6000837aDoor
