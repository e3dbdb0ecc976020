/-
  zzPlainName; the walk of FnPathWrittenReadsBack over the contracts.
-/
import Derived.Test.Qxb6000837aDoorParse
import Derived.Test.Qxb6000837aDoorKeepWalk
namespace Go.Proofs.Qxb6000837aDoor
open Go.RowKit
set_option linter.unusedVariables false

theorem plain_of {s : ByteArray} (h0 : 0 < s.size) (h : ∀ j (hj : j < s.size), s[j] ≠ 46 ∧ s[j] ≠ 91 ∧ s[j] ≠ 93) : PlainN s := by
  refine ⟨fun e => ?_, fun c hc => ?_⟩
  · have : s.data.toList.length = 0 := by rw [e]; rfl
    simp at this
    simp [this] at h0
  · obtain ⟨j, hj, rfl⟩ := List.getElem_of_mem hc
    exact h j (by simpa using hj)
theorem byte_ne {x : UInt8} {y : UInt8} (h : ((x.toNat : Int) == (y.toNat : Int)) = false) : x ≠ y := fun e => by subst e; simp at h

set_option maxHeartbeats 1000000 in
theorem plain_any (s : ByteArray) (hs : s.size ≤ 1048576) (w : World) : Calls Tryd.prog 12 #[.string s] w fun e w' => Answers (PlainN s) e ∧ w' = w := by
  by_cases h0 : s.size = 0
  · have z : ((s.size : Int) == 0) = true := by simp [h0]
    clear h0
    go_enter Tryd.func12, Tryd.ntmps12
    go_wp2
    go_ret
    exact ⟨Answers.no, rfl⟩
  have z : ((s.size : Int) == 0) = false := by simp only [beq_eq_false_iff_ne]; omega
  have hpos : 0 < s.size := by omega
  clear h0
  go_enter Tryd.func12, Tryd.ntmps12
  go_wp2
  go_loop [3] (fun i => ∃ k : Nat, k ≤ s.size ∧ i = .int .i64 k ∧ ∀ j (hj : j < k) (hs : j < s.size), s[j] ≠ 46 ∧ s[j] ≠ 91 ∧ s[j] ≠ 93) (fun i => s.size - (intOf i).toNat)
  case atStart => exact ⟨0, Nat.zero_le _, rfl, fun j hj => by omega⟩
  case round =>
    obtain ⟨k, hk, rfl, hpl⟩ := hrel
    have HP := Lib.hid hpl
    clear hpl
    by_cases hlt : k < s.size
    · rcases Bool.eq_false_or_eq_true ((s[k].toNat : Int) == 46) with c0 | c0
      · go_wp2
        go_ret
        exact ⟨Answers.no, rfl⟩
      rcases Bool.eq_false_or_eq_true ((s[k].toNat : Int) == 91) with c1 | c1
      · go_wp2
        go_ret
        exact ⟨Answers.no, rfl⟩
      rcases Bool.eq_false_or_eq_true ((s[k].toNat : Int) == 93) with c2 | c2
      · go_wp2
        go_ret
        exact ⟨Answers.no, rfl⟩
      have HP2 : Hid (∀ j (hj : j < k + 1) (hs : j < s.size), s[j] ≠ 46 ∧ s[j] ≠ 91 ∧ s[j] ≠ 93) := fun j hj hs => by
        rcases Nat.lt_or_ge j k with h | h
        · exact HP.out j h hs
        · obtain rfl : j = k := by omega
          exact ⟨byte_ne (y := 46) c0, byte_ne (y := 91) c1, byte_ne (y := 93) c2⟩
      go_wp2
      go_round
      case rel => exact ⟨k + 1, by omega, by go_num, HP2.out⟩
      case measure => simp [intOf]; omega
    · have HF : Hid (PlainN s) := plain_of hpos (fun j hj => HP.out j (by omega) hj)
      go_wp2
      go_ret
      exact ⟨Answers.yes HF.out, rfl⟩

/-- What is owned, as a row. -/
theorem owns_rowOf' {w : World} {B e n : Nat} {v : Value} {xs : List Value} {f : Nat → Value} (h : w.ownsRow B e 1 v n xs) (hf : ∀ i, i < n → xs[i]? = some (f i)) : ∃ a c, v = .slice a n c ∧ RowOf w a n f := by
  have hc := h
  rcases h.2 with ⟨rfl, rfl⟩ | ⟨g, cap, cur, rfl, hg, hh, _⟩
  · exact ⟨none, 0, rfl, fun i hi => by omega⟩
  · refine ⟨_, cap, rfl, fun i hi => ⟨g, 0, rfl, (Array.getElem?_eq_some_iff.1 hh).1, ?_⟩⟩
    have := hc.cells (g := g) rfl i (f i) (hf i hi)
    rwa [WideShapes.add_plain] at this
theorem namesTo_at (S : Nat → ByteArray) (Ix : Nat → Int) (n : Nat) : ∀ i, i < n → (namesTo S Ix n)[i]? = some (gotN S Ix i) := fun i hi => by simp [namesTo, hi]
theorem idxTo_at (Ix : Nat → Int) (n : Nat) : ∀ i, i < n → (idxTo Ix n)[i]? = some (gotI Ix i) := fun i hi => by simp [idxTo, hi]
theorem Good.zero (S : Nat → ByteArray) (Ix : Nat → Int) : Good S Ix 0 := fun i hi => by omega
theorem Good.succ {S : Nat → ByteArray} {Ix : Nat → Int} {k : Nat} (h : Good S Ix k) (h1 : Ix k < 0 → PlainN (S k)) (h2 : Ix k ≤ 9223372036854775806) : Good S Ix (k + 1) := fun i hi => by
  rcases Nat.lt_or_ge i k with h' | h'
  · exact h i h'
  · obtain rfl : i = k := by omega
    exact ⟨h1, h2⟩

set_option maxHeartbeats 6400000 in
set_option maxRecDepth 100000 in
theorem law_back (a1 a2 : Option Addr) (n1 n2 c1 c2 : Nat) (S : Nat → ByteArray) (Ix : Nat → Int) (w : World) (h1 : n1 ≤ 9223372036854775807) (h2 : n2 ≤ 9223372036854775807)
    (hr1 : RowOf w a1 n1 (fun i => .string (S i))) (hr2 : RowOf w a2 n2 (fun i => .int .i64 (Ix i)))
    (hix : ∀ i, i < n2 → -9223372036854775808 ≤ Ix i ∧ Ix i ≤ 9223372036854775807) (htab : Lib.TabIs Tryd.prog w powName .u64 Lib.pow10Tab) :
    Calls Tryd.prog 4 #[.slice a1 n1 c1, .slice a2 n2 c2] w fun e w' => e = .returned (.bool true) ∧ Below w.heap.size w w' := by
  have K9 := Lib.hid (bytes9 a1 a2 n1 n2 c1 c2 S w h1 h2 hr1)
  have HR1 := Lib.hid hr1
  have HR2 := Lib.hid hr2
  have HI := Lib.hid hix
  have HT := Lib.hid htab
  clear hr1 hr2 hix htab
  go_enter Tryd.func4, Tryd.ntmps4
  go_wp2_with (go_at_call 9; refine K9.out.mono ?_; rintro e w ⟨⟨r, rfl, hr⟩, rfl⟩; refine Hid.out ?_)
  refine Lib.hid ?_
  cases r with
  | false =>
    clear hr
    go_wp2
    go_ret
    exact ⟨rfl, Below.refl _ _⟩
  | true =>
  have hr := hr rfl
  by_cases e1 : (65536 : Int) < (n1 : Int)
  · go_wp2
    go_ret
    exact ⟨rfl, Below.refl _ _⟩
  by_cases e2 : (65536 : Int) < (n2 : Int)
  · go_wp2
    go_ret
    exact ⟨rfl, Below.refl _ _⟩
  have K10 := Lib.hid (steps_any a1 a2 n1 n2 c1 c2 S w (by omega) (by omega) (by omega) HR1.out)
  go_wp2_with (go_at_call 10; refine K10.out.mono ?_; rintro e w ⟨⟨T, rfl, hT0, hT1⟩, rfl⟩; refine Hid.out ?_)
  refine Lib.hid ?_
  by_cases e3 : (1048576 : Int) < T
  · go_wp2
    go_ret
    exact ⟨rfl, Below.refl _ _⟩
  obtain ⟨n, hn⟩ : ∃ n, n = min n1 n2 := ⟨_, rfl⟩
  have hnn1 : n ≤ n1 := by omega
  have hnn2 : n ≤ n2 := by omega
  have K11 := Lib.hid (min_nat n1 n2 w)
  rw [← hn] at K11
  clear hn
  go_wp2_with (go_at_call 11; refine K11.out.mono ?_; rintro e w ⟨rfl, rfl⟩; refine Hid.out ?_)
  refine Lib.hid ?_
  have hsum : sumS S n ≤ 1048576 := by have := sumS_mono S hnn1; omega
  have HFI : Hid (Fits (stepsTo S Ix n)) := fits_steps (fun i hi => HI.out i (by omega))
  clear e3 hT0 hT1 K10 K11 K9
  go_wp2
  go_loop [6] (fun i => ∃ k : Nat, k ≤ n ∧ i = .int .i64 k ∧ Good S Ix k) (fun i => n - (intOf i).toNat)
  case atStart => exact ⟨0, Nat.zero_le _, rfl, Good.zero S Ix⟩
  case round =>
    obtain ⟨k, hk, rfl, hgood⟩ := hrel
    have HG := Lib.hid hgood
    clear hgood
    by_cases hlt : k < n
    · obtain ⟨b1, o1, ha1, -, hc1⟩ := HR1.out k (by omega)
      obtain ⟨b2, o2, ha2, -, hc2⟩ := HR2.out k (by omega)
      subst ha1
      subst ha2
      obtain ⟨I, hI⟩ : ∃ I, I = Ix k := ⟨_, rfl⟩
      obtain ⟨s, hs⟩ : ∃ s, s = S k := ⟨_, rfl⟩
      have d1 : w.cell? ⟨b1, o1 + k, none⟩ = some (.string s) := by rw [hs]; exact hc1
      have d2 : w.cell? ⟨b2, o2 + k, none⟩ = some (.int .i64 I) := by rw [hI]; exact hc2
      have hsz : s.size ≤ 1048576 := by
        have := sumS_mono S (show k + 1 ≤ n1 by omega)
        rw [sumS_succ, ← hs] at this; omega
      have HII := Lib.hid hI
      have HSS := Lib.hid hs
      have l1 : (k : Int) < (n1 : Int) := by omega
      have l2 : (k : Int) < (n2 : Int) := by omega
      have l3 : (k : Int) < (n : Int) := by omega
      clear hI hs hc1 hc2
      by_cases hneg : I < 0
      · go_wp2_with (go_at_call 12; refine (plain_any s hsz _).mono ?_; rintro e w ⟨⟨r2, rfl, hr2⟩, rfl⟩; refine Hid.out ?_)
        refine Lib.hid ?_
        cases r2 with
        | false =>
          clear hr2
          go_wp2
          go_ret
          exact ⟨rfl, Below.refl _ _⟩
        | true =>
        have HG2 : Hid (Good S Ix (k + 1)) := HG.out.succ (fun _ => by rw [← HSS.out]; exact hr2 rfl) (by rw [← HII.out]; omega)
        clear hr2
        go_wp2
        go_round
        case rel => exact ⟨k + 1, by omega, by go_num, HG2.out⟩
        case measure => simp [intOf]; omega
      · rcases Bool.eq_false_or_eq_true (I == 9223372036854775807) with hmax | hmax
        · go_wp2
          go_ret
          exact ⟨rfl, Below.refl _ _⟩
        have HG2 : Hid (Good S Ix (k + 1)) := HG.out.succ (fun h => by rw [← HII.out] at h; omega) (by
          have h3 := (HI.out k (by omega)).2
          have h4 : I ≠ 9223372036854775807 := by simpa using hmax
          rw [← HII.out] at h3 ⊢; omega)
        go_wp2
        go_round
        case rel => exact ⟨k + 1, by omega, by go_num, HG2.out⟩
        case measure => simp [intOf]; omega
    · have ek : k = n := by omega
      subst ek
      have l3 : ¬ (k : Int) < (k : Int) := by omega
      have K13 := Lib.hid (build_any a1 a2 n1 n2 c1 c2 k S Ix w hnn1 hnn2 (by omega) (by omega) HR1.out HR2.out (fun i hi => HI.out i (by omega)))
      go_wp2_with (go_at_call 13; refine K13.out.mono ?_; rintro e w2 ⟨p, rfl, hp, hb2⟩; refine Hid.out ?_)
      refine Lib.hid ?_
      have K6 := Lib.hid (zto_any w2.heap.size (stepsTo S Ix k) p [] (.slice none 0 0) w2 hp (World.ownsRow_nil _ _ _ _) (Nat.le_refl _) (by rw [cost_steps]; simp; omega) (Lib.tabBelow_of_tabIs (tab_on HT.out hb2)))
      have HB2 := Lib.hid hb2
      clear hp hb2
      go_wp2_with (go_at_call 6; refine K6.out.mono ?_; rintro e w3 ⟨v3, rfl, ho3, hb3⟩; refine Hid.out ?_)
      refine Lib.hid ?_
      have hNb := at_bound HFI.out
      obtain ⟨N, hN⟩ : ∃ N, N = at_ S Ix k := ⟨_, rfl⟩
      have ho3' : w3.ownsRow w2.heap.size 5 1 v3 N (Lib.byteCells (txt S Ix k)) := by rw [hN]; exact ho3
      obtain ⟨-, A3, C3, hv3, hnil3, row3⟩ := owns_rowOf ho3'
      subst hv3
      have hNC : N ≤ C3 ∧ C3 ≤ 9223372036854775807 := by
        rcases ho3'.2 with ⟨hv, h0⟩ | ⟨g, cap, cur, hv, _, _, hle, hm, _⟩
        · simp at hv; omega
        · unfold maxLen at hm
          simp at hv
          omega
      have t3 : Below w.heap.size w w3 := HB2.out.trans (hb3.mono HB2.out.size)
      have K14 := Lib.hid (parse_any A3 N C3 k S Ix w3 HG.out hN hNC.1 hNC.2 (by omega) (by omega) row3)
      have HT3 := Lib.hid t3
      clear ho3 ho3' hb3 hN hnil3 row3 hNC t3 hNb
      go_wp2_with (go_at_call 14; refine K14.out.mono ?_; rintro e w4 ⟨u1, u2, rfl, hq1, hq2, hb4⟩; refine Hid.out ?_)
      refine Lib.hid ?_
      obtain ⟨B1, C1, hu1, row1⟩ := owns_rowOf' hq1 (namesTo_at S Ix k)
      obtain ⟨B2, C2, hu2, row2⟩ := owns_rowOf' hq2 (idxTo_at Ix k)
      subst hu1
      subst hu2
      have t4 : Below w.heap.size w w4 := HT3.out.trans (hb4.mono HT3.out.size)
      have Q1 := Lib.hid row1
      have Q2 := Lib.hid row2
      have R1 := Lib.hid (HR1.out.on t4)
      have R2 := Lib.hid (HR2.out.on t4)
      have HT4 := Lib.hid t4
      clear hq1 hq2 row1 row2 hb4 t4
      go_wp2
      go_loopw [11] (fun i wr => ∃ j : Nat, j ≤ k ∧ i = .int .i64 j ∧ Same w4 wr) (fun i _ => k - (intOf i).toNat)
      case atStart => exact ⟨0, Nat.zero_le _, rfl, Same.refl _⟩
      case round =>
        obtain ⟨j, hj, rfl, hsame⟩ := hrel
        by_cases hjlt : j < k
        · obtain ⟨g1, f1, ha1, -, hc1⟩ := R1.out j (by omega)
          obtain ⟨g2, f2, ha2, -, hc2⟩ := R2.out j (by omega)
          obtain ⟨g3, f3, ha3, -, hc3⟩ := Q1.out j hjlt
          obtain ⟨g4, f4, ha4, -, hc4⟩ := Q2.out j hjlt
          subst ha1
          subst ha2
          subst ha3
          subst ha4
          obtain ⟨I, hI⟩ : ∃ I, I = Ix j := ⟨_, rfl⟩
          obtain ⟨s, hs⟩ : ∃ s, s = S j := ⟨_, rfl⟩
          have d1 : wr.cell? ⟨g1, f1 + j, none⟩ = some (.string s) := by rw [hsame.cell, hs]; exact hc1
          have d2 : wr.cell? ⟨g2, f2 + j, none⟩ = some (.int .i64 I) := by rw [hsame.cell, hI]; exact hc2
          have l1 : (j : Int) < (n1 : Int) := by omega
          have l2 : (j : Int) < (n2 : Int) := by omega
          have l3 : (j : Int) < (k : Int) := by omega
          have HS := Lib.hid hsame
          by_cases hneg : I < 0
          · have d3 : wr.cell? ⟨g3, f3 + j, none⟩ = some (.string s) := by
              rw [hsame.cell, hc3, gotN, if_pos (by rw [← hI]; exact hneg), hs]
            have d4 : wr.cell? ⟨g4, f4 + j, none⟩ = some (.int .i64 (-1)) := by
              rw [hsame.cell, hc4, gotI, if_pos (by rw [← hI]; exact hneg)]
            clear hsame hI hs hc1 hc2 hc3 hc4
            go_wp2
            go_quiet (fail)
            go_wp2
            go_roundw
            case rel => exact ⟨j + 1, by omega, by go_num, HS.out.drewN _⟩
            case measure => simp [intOf]; omega
          · have d4 : wr.cell? ⟨g4, f4 + j, none⟩ = some (.int .i64 I) := by
              rw [hsame.cell, hc4, gotI, if_neg (by rw [← hI]; exact hneg), hI]
            clear hsame hI hs hc1 hc2 hc3 hc4
            go_wp2
            go_quiet (fail)
            go_wp2
            go_roundw
            case rel => exact ⟨j + 1, by omega, by go_num, HS.out.drewN _⟩
            case measure => simp [intOf]; omega
        · have l3 : ¬ (j : Int) < (k : Int) := by omega
          have HS := Lib.hid hsame
          clear hsame
          go_wp2
          go_ret
          exact ⟨rfl, HT4.out.trans (HS.out.below _)⟩
end Go.Proofs.Qxb6000837aDoor
