/-
  zzParsePath, at the text of a path of plain steps: it reads every step back.
-/
import Derived.Test.Qxb6000837aDoorText
import Derived.Laws.IdiomStrings
import Derived.LoopTactic
namespace Go.Proofs.Qxb6000837aDoor
open Go.RowKit
set_option linter.unusedVariables false

theorem infoStr : (Tryd.prog.info? 9).map (fun i => (i.zero, i.size, i.bytes)) = some (some (.string ByteArray.empty), 1, 16) := by kernel_rfl
theorem infoI64 : (Tryd.prog.info? 2).map (fun i => (i.zero, i.size, i.bytes)) = some (some (.int .i64 0), 1, 8) := by kernel_rfl

/-- The name, the index that is read back. -/
def gotN (S : Nat → ByteArray) (Ix : Nat → Int) (i : Nat) : Value := .string (if Ix i < 0 then S i else ByteArray.empty)
def gotI (Ix : Nat → Int) (i : Nat) : Value := .int .i64 (if Ix i < 0 then -1 else Ix i)
def namesTo (S : Nat → ByteArray) (Ix : Nat → Int) (k : Nat) : List Value := (List.range k).map (gotN S Ix)
def idxTo (Ix : Nat → Int) (k : Nat) : List Value := (List.range k).map (gotI Ix)
theorem namesTo_succ (S : Nat → ByteArray) (Ix : Nat → Int) (k : Nat) : namesTo S Ix (k + 1) = namesTo S Ix k ++ [gotN S Ix k] := by simp [namesTo, List.range_succ]
theorem idxTo_succ (Ix : Nat → Int) (k : Nat) : idxTo Ix (k + 1) = idxTo Ix k ++ [gotI Ix k] := by simp [idxTo, List.range_succ]

/-- What is owned stays owned where a row of another type is appended to. -/
theorem owns_keep {w w' : World} {B e1 e2 n1 n2 : Nat} {v1 v2 : Value} {xs1 xs2 : List Value} (h1 : w.ownsRow B e1 1 v1 n1 xs1) (h2 : w.ownsRow B e2 1 v2 n2 xs2) (hne : e1 ≠ e2) (hg : w.grownBy w' v2.ownBlock) : w'.ownsRow B e1 1 v1 n1 xs1 := by
  refine h1.kept hg ?_
  rcases h1.2 with ⟨rfl, _⟩ | ⟨g1, c1, cur1, rfl, _, hh1, _⟩
  · exact .inl rfl
  · right
    rcases h2.2 with ⟨rfl, _⟩ | ⟨g2, c2, cur2, rfl, _, hh2, _⟩
    · simp [Value.ownBlock]
    · simp only [Value.ownBlock, ne_eq, Option.some.injEq]
      intro e
      subst e
      rw [hh1] at hh2
      simp at hh2
      exact hne hh2.2

theorem byte_plain {x : UInt8} (h : x ≠ 46 ∧ x ≠ 91 ∧ x ≠ 93) : ((x.toNat : Int) != 46) = true ∧ ((x.toNat : Int) != 91) = true ∧ ((x.toNat : Int) != 93) = true := by
  have hx : ∀ y : UInt8, x ≠ y → (x.toNat : Int) ≠ (y.toNat : Int) := fun y hy e => hy (UInt8.toNat_inj.1 (by omega))
  exact ⟨by simpa using hx 46 h.1, by simpa using hx 91 h.2.1, by simpa using hx 93 h.2.2⟩

set_option maxHeartbeats 6400000 in
set_option maxRecDepth 100000 in
theorem parse_any (a : Option Addr) (N c n : Nat) (S : Nat → ByteArray) (Ix : Nat → Int) (w : World) (hg : Good S Ix n) (hN : N = at_ S Ix n) (hNc : N ≤ c) (hc : c ≤ 9223372036854775807) (hlim : N ≤ 4194304) (hn : n ≤ 65536) (hrow : RowOf w a N (byteAt (txt S Ix n))) :
    Calls Tryd.prog 14 #[.slice a N c] w fun e w' => ∃ v1 v2, e = .returned (.tuple #[v1, v2, .bool true]) ∧ w'.ownsRow w.heap.size 9 1 v1 n (namesTo S Ix n) ∧ w'.ownsRow w.heap.size 2 1 v2 n (idxTo Ix n) ∧ Below w.heap.size w w' := by
  obtain ⟨i0, hi, hz0, hz1, hz2⟩ := info_parts infoStr
  obtain ⟨j0, hj, hy0, hy1, hy2⟩ := info_parts infoI64
  have HG := Lib.hid hg
  have HN := Lib.hid hN
  have HR := Lib.hid hrow
  clear hg hN hrow
  go_enter Tryd.func14, Tryd.ntmps14
  go_wp2
  go_loopw [5, 6, 7] (fun v1 v2 i wr => ∃ k : Nat, k ≤ n ∧ i = .int .i64 (at_ S Ix k) ∧ wr.ownsRow w.heap.size 9 1 v1 k (namesTo S Ix k) ∧ wr.ownsRow w.heap.size 2 1 v2 k (idxTo Ix k) ∧ Below w.heap.size w wr) (fun _ _ i _ => N - (intOf i).toNat)
  case atStart => exact ⟨0, Nat.zero_le _, rfl, World.ownsRow_nil _ _ _ _, World.ownsRow_nil _ _ _ _, Below.refl _ _⟩
  case round =>
    obtain ⟨k, hk, rfl, ho1, ho2, hb⟩ := hrel
    by_cases hlt : k < n
    · have HO1 := Lib.hid ho1
      have HO2 := Lib.hid ho2
      have HB := Lib.hid hb
      clear ho1 ho2 hb
      by_cases hx : 0 ≤ Ix k
      · obtain ⟨e0, e1, e2, e3, e4⟩ := elem_facts HG.out hlt hx
        obtain ⟨P, hP⟩ : ∃ P, P = at_ S Ix k := ⟨_, rfl⟩
        obtain ⟨D, hD⟩ : ∃ D, D = Lib.decDigits ((Ix k).toNat + 1) := ⟨_, rfl⟩
        obtain ⟨I, hI⟩ : ∃ I, I = Ix k := ⟨_, rfl⟩
        rw [← hP, ← hD] at e1 e2 e3
        rw [← hP] at e0
        rw [← hP]
        have hm1 : 1 ≤ D.length := by rw [hD]; exact List.length_pos_iff.2 (dec_ne _)
        have hm2 : D.length ≤ 19 := by rw [hD]; exact dec_le19 _ (by have := (HG.out k hlt).2; omega)
        have hval : val D = I.toNat + 1 := by rw [hD, hI, val_dec]
        have hI0 : 0 ≤ I := by omega
        have hI1 : I ≤ 9223372036854775806 := by rw [hI]; exact (HG.out k hlt).2
        have hdig : ∀ x ∈ D, 48 ≤ x.toNat ∧ x.toNat ≤ 57 := by rw [hD]; exact dec_digit _
        have hhead : D.getD 0 0 ≠ 48 := by rw [hD]; exact dec_head _ (by omega)
        have hPN : P + D.length + 2 ≤ N := by have := HN.out; omega
        obtain ⟨b, off, ha, hbl, hcs⟩ := HR.out.pos (by omega)
        subst ha
        have cw : ∀ i, i < N → wr.cell? ⟨b, off + i, none⟩ = some (byteAt (txt S Ix n) i) := fun i hi => (HB.out.cell (p := ⟨b, off + i, none⟩) hbl).trans (hcs i hi)
        have d0 : wr.cell? ⟨b, off + P, none⟩ = some (.int .u8 91) := by rw [cw P (by omega), byteAt, e0]; rfl
        have dj : ∀ j (hj : j < D.length), wr.cell? ⟨b, off + (P + 1 + j), none⟩ = some (.int .u8 (D[j].toNat : Int)) := fun j hj => by rw [cw _ (by omega), byteAt, e1 j hj]
        have de : wr.cell? ⟨b, off + (P + 1 + D.length), none⟩ = some (.int .u8 93) := by rw [cw _ (by omega), byteAt, e2]; rfl
        obtain ⟨m, hm⟩ : ∃ m, m = D.length := ⟨_, rfl⟩
        rw [← hm] at hm1 hm2 hPN e3
        have HE3 := Lib.hid e3
        have HDJ := Lib.hid dj
        have HDE := Lib.hid de
        have HM := Lib.hid hm
        have HI := Lib.hid hI
        have HP := Lib.hid hP
        have HV := Lib.hid hval
        have HDG := Lib.hid hdig
        have HHD := Lib.hid hhead
        clear e0 e1 e2 e3 e4 hD hI hP hm hval hdig hhead cw dj de hcs hx
        have l0 : (P : Int) < (N : Int) := by omega
        go_wp2
        go_loop [7] (fun i => ∃ r : Nat, P + 1 ≤ r ∧ r ≤ P + 1 + m ∧ i = .int .i64 r) (fun i => P + 1 + m - (intOf i).toNat)
        case atStart => exact ⟨P + 1, by omega, by omega, by go_num⟩
        case round =>
          obtain ⟨r, hr0, hr1, rfl⟩ := hrel
          clear d0
          have l1 : (r : Int) < (N : Int) := by omega
          by_cases hrl : r < P + 1 + m
          · have hjD : r - (P + 1) < D.length := by have := HM.out; omega
            obtain ⟨C, hC⟩ : ∃ C : Int, C = (D[r - (P + 1)].toNat : Int) := ⟨_, rfl⟩
            have dc : wr.cell? ⟨b, off + r, none⟩ = some (.int .u8 C) := by
              have := HDJ.out (r - (P + 1)) hjD
              rw [show P + 1 + (r - (P + 1)) = r by omega] at this
              rw [this, hC]
            have hd := HDG.out _ (List.getElem_mem hjD)
            have c0 : 48 ≤ C := by rw [hC]; omega
            have c1 : C ≤ 57 := by rw [hC]; omega
            clear hC hd
            go_wp2
            go_round
            case rel => exact ⟨r + 1, by omega, by omega, by go_num⟩
            case measure => simp [intOf]; omega
          · have er : r = P + 1 + m := by omega
            have dE : wr.cell? ⟨b, off + r, none⟩ = some (.int .u8 93) := by rw [er, HM.out]; exact HDE.out
            obtain ⟨C0, hC0, q0⟩ : ∃ C0 : Int, wr.cell? ⟨b, off + (P + 1), none⟩ = some (.int .u8 C0) ∧ (C0 == 48) = false := by
              have hl : 0 < D.length := by have := HM.out; omega
              refine ⟨_, HDJ.out 0 hl, ?_⟩
              have hh := HHD.out
              rw [List.getD_eq_getElem?_getD, List.getElem?_eq_getElem hl] at hh
              simp only [beq_eq_false_iff_ne]
              intro e
              apply hh
              apply UInt8.toNat_inj.1
              show D[0].toNat = 48
              omega
            have l2 : (P : Int) + 1 < (N : Int) := by omega
            have l3 : ((r : Int) - ((P : Int) + 1) == 0) = false := by simp only [beq_eq_false_iff_ne]; omega
            have l4 : ¬ 19 < (r : Int) - ((P : Int) + 1) := by omega
            have HER := Lib.hid er
            clear er
            go_wp2
            clear hC0 q0 l3 l4 dE
            go_loop [10, 11] (fun v j => ∃ q : Nat, P + 1 ≤ q ∧ q ≤ r ∧ j = .int .i64 q ∧ v = .int .u64 (val (D.take (q - (P + 1))))) (fun _ j => r - (intOf j).toNat)
            case atStart => exact ⟨P + 1, by omega, by omega, by go_num, by simp [val]⟩
            case round =>
              obtain ⟨q, hq0, hq1, rfl, rfl⟩ := hrel
              by_cases hql : q < r
              · have hjD : q - (P + 1) < D.length := by have := HM.out; have := HER.out; omega
                obtain ⟨V, hV⟩ : ∃ V : Int, V = (val (D.take (q - (P + 1))) : Int) := ⟨_, rfl⟩
                obtain ⟨C, hC⟩ : ∃ C : Int, C = (D[q - (P + 1)].toNat : Int) := ⟨_, rfl⟩
                have dc : wr.cell? ⟨b, off + q, none⟩ = some (.int .u8 C) := by
                  have := HDJ.out (q - (P + 1)) hjD
                  rw [show P + 1 + (q - (P + 1)) = q by omega] at this
                  rw [this, hC]
                have hd := HDG.out _ (List.getElem_mem hjD)
                have c0 : 48 ≤ C := by rw [hC]; omega
                have c1 : C ≤ 57 := by rw [hC]; omega
                have hsn := val_take_succ D (q - (P + 1)) hjD
                have hle := val_take_le D (q - (P + 1) + 1)
                have v0 : 0 ≤ V := by rw [hV]; omega
                have HS : Hid ((val (D.take (q + 1 - (P + 1))) : Int) = V * 10 + (C - 48)) := by
                  show _ = _
                  rw [show q + 1 - (P + 1) = q - (P + 1) + 1 by omega, hV, hC]; omega
                have v1 : V * 10 + (C - 48) ≤ 9223372036854775807 := by
                  have h1 := HS.out
                  rw [show q + 1 - (P + 1) = q - (P + 1) + 1 by omega] at h1
                  have := HV.out; omega
                have lq : (q : Int) < (N : Int) := by omega
                have lr : (q : Int) < (r : Int) := by omega
                rw [← hV]
                clear hV hC hd hsn hle
                go_wp2
                go_round
                case rel => exact ⟨q + 1, by omega, by omega, by go_num, by rw [HS.out]⟩
                case measure => simp [intOf]; omega
              · have HE : Hid ((val (D.take (q - (P + 1))) : Int) = I + 1) := by
                  show _ = _
                  rw [List.take_of_length_le (by have := HM.out; have := HER.out; omega), HV.out]; omega
                rw [HE.out]
                have lr : ¬ (q : Int) < (r : Int) := by omega
                have z0 : (I + 1 == 0) = false := by simp only [beq_eq_false_iff_ne]; omega
                have hsz := HB.out.size
                go_wp2_with (at_builtin; refine wpList_append_own _ rfl (.tmp 96) (.tmp 97) 29 rfl w.heap.size 9 i0 (.string ByteArray.empty) 1 16 Tryd.underlying29 hi hz0 hz1 hz2 rfl (by decide) _ _ _ rfl (HO1.out.alloc _) ⟨wr.heap.size, 0, none⟩ 1 1 [Value.string ⟨#[]⟩] rfl rfl (by intro j u' hj; match j, hj with | 0, hj => simp at hj; subst hj; simp [Addr.add]) (by intro u' hu'; simp at hu'; subst hu'; rfl) (by unfold maxLen; omega) (by omega) (by simp; omega) ?_; intro v3 w3 hown3 hgrow3 _; refine Hid.out ?_)
                refine Lib.hid ?_
                have hb3 : Below w.heap.size w w3 := (HB.out.alloc hsz _).grown hgrow3 (by simp; omega) (fun k hk => (HO1.out.lt k hk).1)
                have ho2 : w3.ownsRow w.heap.size 2 1 _ k (idxTo Ix k) := owns_keep (HO2.out.alloc _) (HO1.out.alloc _) (by decide) hgrow3
                have hs3 := hb3.size
                clear hgrow3
                go_wp2_with (at_builtin; refine wpList_append_own _ rfl (.tmp 99) (.tmp 103) 35 rfl w.heap.size 2 j0 (.int .i64 0) 1 8 Tryd.underlying35 hj hy0 hy1 hy2 rfl (by decide) _ _ _ rfl (ho2.alloc _) ⟨w3.heap.size, 0, none⟩ 1 1 [Value.int .i64 I] rfl rfl (by intro j u' hj; match j, hj with | 0, hj => simp at hj; subst hj; simp [Addr.add]) (by intro u' hu'; simp at hu'; subst hu'; rfl) (by unfold maxLen; omega) (by omega) (by simp; omega) ?_; intro v4 w4 hown4 hgrow4 _; refine Hid.out ?_)
                refine Lib.hid ?_
                have hb4 : Below w.heap.size w w4 := (hb3.alloc hs3 _).grown hgrow4 (by simp; omega) (fun k hk => (ho2.lt k hk).1)
                have ho1 : w4.ownsRow w.heap.size 9 1 v3 (k + 1) _ := owns_keep (hown3.alloc _) (ho2.alloc _) (by decide) hgrow4
                have F1 : Hid (w4.ownsRow w.heap.size 9 1 v3 (k + 1) (namesTo S Ix (k + 1))) := by
                  show World.ownsRow _ _ _ _ _ _ _
                  rw [namesTo_succ, gotN, if_neg (by have := HI.out; omega)]
                  exact ho1
                have F2 : Hid (w4.ownsRow w.heap.size 2 1 v4 (k + 1) (idxTo Ix (k + 1))) := by
                  show World.ownsRow _ _ _ _ _ _ _
                  rw [idxTo_succ, gotI, if_neg (by have := HI.out; omega), ← HI.out]
                  exact hown4
                have F3 := Lib.hid hb4
                clear hgrow4 hown4 ho1 ho2 hown3 hb3 hb4 hs3
                go_wp2
                go_roundw
                case rel => exact ⟨k + 1, by omega, by rw [HE3.out]; have := HER.out; go_num, F1.out, F2.out, F3.out⟩
                case measure => simp [intOf]; have := HP.out; omega
      · have hxn : Ix k < 0 := by omega
        have hpl := (HG.out k hlt).1 hxn
        obtain ⟨q, hq⟩ : ∃ q, q = if k = 0 then 0 else 1 := ⟨_, rfl⟩
        obtain ⟨e0, e1, e3, e4⟩ := mem_facts HG.out hlt hxn hq
        have hnx := txt_next HG.out hlt
        obtain ⟨P, hP⟩ : ∃ P, P = at_ S Ix k := ⟨_, rfl⟩
        obtain ⟨nm, hnm⟩ : ∃ nm, nm = (S k).data.toList := ⟨_, rfl⟩
        rw [← hP, ← hnm] at e1 e3
        rw [← hP] at e0
        rw [← hP]
        rw [e3, ← HN.out] at hnx
        have hL0 : 1 ≤ nm.length := by rw [hnm]; exact List.length_pos_iff.2 hpl.1
        have hPN : P + q + nm.length ≤ N := by have := HN.out; omega
        have hq1 : q ≤ 1 := by rw [hq]; split <;> omega
        obtain ⟨b, off, ha, hbl, hcs⟩ := HR.out.pos (by omega)
        subst ha
        have cw : ∀ i, i < N → wr.cell? ⟨b, off + i, none⟩ = some (byteAt (txt S Ix n) i) := fun i hi => (HB.out.cell (p := ⟨b, off + i, none⟩) hbl).trans (hcs i hi)
        have dj : ∀ j (hj : j < nm.length), wr.cell? ⟨b, off + (P + q + j), none⟩ = some (.int .u8 (nm[j].toNat : Int)) := fun j hj => by
          rw [cw _ (by omega), byteAt, e1 j hj]
        have hplb : ∀ x ∈ nm, x ≠ 46 ∧ x ≠ 91 ∧ x ≠ 93 := by rw [hnm]; exact hpl.2
        have HNM : Hid ((⟨nm.toArray⟩ : ByteArray) = S k) := by show _ = _; rw [hnm]
        obtain ⟨L, hL⟩ : ∃ L, L = nm.length := ⟨_, rfl⟩
        rw [← hL] at hL0 hPN e3 hnx
        have HPL := Lib.hid hplb
        have HCW := Lib.hid cw
        have HLN := Lib.hid hL
        have HP := Lib.hid hP
        have HXN := Lib.hid hxn
        have l0 : (P : Int) < (N : Int) := by omega
        clear hcs hpl hplb hL e4 hnm hx hxn e1
        by_cases hk0 : k = 0
        · have q0 : q = 0 := by rw [hq, if_pos hk0]
          subst q0
          simp only [Nat.add_zero] at dj e3 hnx hPN
          have HDJ := Lib.hid dj
          have HE3 := Lib.hid e3
          have HNX := Lib.hid hnx
          obtain ⟨C0, hC0, z0⟩ : ∃ C0 : Int, wr.cell? ⟨b, off + P, none⟩ = some (.int .u8 C0) ∧ (C0 == 91) = false := by
            have hl : 0 < nm.length := by have := HLN.out; omega
            refine ⟨_, HDJ.out 0 hl, ?_⟩
            have := HPL.out _ (List.getElem_mem hl)
            simp only [beq_eq_false_iff_ne]
            intro e
            apply this.2.1
            apply UInt8.toNat_inj.1
            show nm[0].toNat = 91
            omega
          have kk : ¬ (0 : Int) < (k : Int) := by omega
          clear dj e3 hnx hP cw e0 hq
          rcases HO2.out.2 with ⟨hu, -⟩ | ⟨g6, c6, _, hu, -⟩
          · subst hu
            clear hk0
            go_wp2
            clear hC0 z0
            go_loop [7] (fun i => ∃ r : Nat, P ≤ r ∧ r ≤ P + L ∧ i = .int .i64 r) (fun i => P + L - (intOf i).toNat)
            case atStart => exact ⟨P, by omega, by omega, by go_num⟩
            case round =>
              obtain ⟨r, hr0, hr1, rfl⟩ := hrel
              by_cases hrl : r < P + L
              · have hjD : r - (P) < nm.length := by have := HLN.out; omega
                obtain ⟨C, hC⟩ : ∃ C : Int, C = (nm[r - (P)].toNat : Int) := ⟨_, rfl⟩
                have dc : wr.cell? ⟨b, off + r, none⟩ = some (.int .u8 C) := by
                  have := HDJ.out (r - (P)) hjD
                  rw [show P + (r - (P)) = r by omega] at this
                  rw [this, hC]
                obtain ⟨c0, c1, c2⟩ := byte_plain (HPL.out _ (List.getElem_mem hjD))
                rw [← hC] at c0 c1 c2
                have l1 : (r : Int) < (N : Int) := by omega
                clear hC
                go_wp2
                go_round
                case rel => exact ⟨r + 1, by omega, by omega, by go_num⟩
                case measure => simp [intOf]; omega
              · have er : r = P + L := by omega
                have hcv : (convert 22 9 (.slice (some ⟨b, off + (P), none⟩) (r - (P)) (c - (P)))).run Tryd.prog wr = .ok (.string (S k)) wr := by
                  have h1 : r - (P) = nm.length := by have := HLN.out; omega
                  rw [h1]
                  have h2 := run_convert_bytes_back (P := Tryd.prog) wr 22 9 5 ⟨b, off + (P), none⟩ (c - (P)) nm Tryd.underlying22 Tryd.underlying5 Tryd.underlying9 (fun j hj => by rw [WideShapes.add_plain, Nat.add_assoc]; exact HDJ.out j hj)
                  rw [h2, HNM.out]
                have n0 : ((r : Int) == (P : Int)) = false := by simp only [beq_eq_false_iff_ne]; omega
                have hend := HNX.out
                rw [show P + L = r by have := HE3.out; omega] at hend
                have HER := Lib.hid er
                have hsz := HB.out.size
                have i1 : P < c := by omega
                have i2 : r ≤ c := by omega
                have i3 : (P : Int) ≤ (r : Int) := by omega
                have i4 : (r : Int) ≤ (c : Int) := by omega
                clear er
                rcases hend with hend | ⟨hend, hend2 | hend2⟩
                · have l1 : ¬ (r : Int) < (N : Int) := by omega
                  clear hend
                  go_wp2_with (at_builtin; refine wpList_append_own _ rfl (.tmp 146) (.tmp 152) 29 rfl w.heap.size 9 i0 (.string ByteArray.empty) 1 16 Tryd.underlying29 hi hz0 hz1 hz2 rfl (by decide) _ _ _ rfl (HO1.out.alloc _) ⟨wr.heap.size, 0, none⟩ 1 1 [Value.string (S k)] rfl rfl (by intro j u' hj; match j, hj with | 0, hj => simp at hj; subst hj; simp [Addr.add]) (by intro u' hu'; simp at hu'; subst hu'; rfl) (by unfold maxLen; omega) (by omega) (by simp; omega) ?_; intro v3 w3 hown3 hgrow3 _; refine Hid.out ?_)
                  refine Lib.hid ?_
                  have hb3 : Below w.heap.size w w3 := (HB.out.alloc hsz _).grown hgrow3 (by simp; omega) (fun k hk => (HO1.out.lt k hk).1)
                  have ho2 : w3.ownsRow w.heap.size 2 1 _ k (idxTo Ix k) := owns_keep (HO2.out.alloc _) (HO1.out.alloc _) (by decide) hgrow3
                  have hs3 := hb3.size
                  clear hgrow3 hcv
                  go_wp2_with (at_builtin; refine wpList_append_own _ rfl (.tmp 154) (.tmp 155) 35 rfl w.heap.size 2 j0 (.int .i64 0) 1 8 Tryd.underlying35 hj hy0 hy1 hy2 rfl (by decide) _ _ _ rfl (ho2.alloc _) ⟨w3.heap.size, 0, none⟩ 1 1 [Value.int .i64 (-1)] rfl rfl (by intro j u' hj; match j, hj with | 0, hj => simp at hj; subst hj; simp [Addr.add]) (by intro u' hu'; simp at hu'; subst hu'; rfl) (by unfold maxLen; omega) (by omega) (by simp; omega) ?_; intro v4 w4 hown4 hgrow4 _; refine Hid.out ?_)
                  refine Lib.hid ?_
                  have hb4 : Below w.heap.size w w4 := (hb3.alloc hs3 _).grown hgrow4 (by simp; omega) (fun k hk => (ho2.lt k hk).1)
                  have ho1 : w4.ownsRow w.heap.size 9 1 v3 (k + 1) _ := owns_keep (hown3.alloc _) (ho2.alloc _) (by decide) hgrow4
                  have F1 : Hid (w4.ownsRow w.heap.size 9 1 v3 (k + 1) (namesTo S Ix (k + 1))) := by
                    show World.ownsRow _ _ _ _ _ _ _
                    rw [namesTo_succ, gotN, if_pos HXN.out]
                    exact ho1
                  have F2 : Hid (w4.ownsRow w.heap.size 2 1 v4 (k + 1) (idxTo Ix (k + 1))) := by
                    show World.ownsRow _ _ _ _ _ _ _
                    rw [idxTo_succ, gotI, if_pos HXN.out]
                    exact hown4
                  have F3 := Lib.hid hb4
                  clear hgrow4 hown4 ho1 ho2 hown3 hb3 hb4 hs3
                  go_wp2
                  go_roundw
                  case rel => exact ⟨k + 1, by omega, by rw [HE3.out]; have := HER.out; go_num, F1.out, F2.out, F3.out⟩
                  case measure => simp [intOf]; have := HP.out; omega
                · have l1 : (r : Int) < (N : Int) := by omega
                  have dc : wr.cell? ⟨b, off + r, none⟩ = some (.int .u8 46) := by rw [HCW.out r (by omega), byteAt, hend2]; rfl
                  clear hend hend2
                  go_wp2_with (at_builtin; refine wpList_append_own _ rfl (.tmp 146) (.tmp 152) 29 rfl w.heap.size 9 i0 (.string ByteArray.empty) 1 16 Tryd.underlying29 hi hz0 hz1 hz2 rfl (by decide) _ _ _ rfl (HO1.out.alloc _) ⟨wr.heap.size, 0, none⟩ 1 1 [Value.string (S k)] rfl rfl (by intro j u' hj; match j, hj with | 0, hj => simp at hj; subst hj; simp [Addr.add]) (by intro u' hu'; simp at hu'; subst hu'; rfl) (by unfold maxLen; omega) (by omega) (by simp; omega) ?_; intro v3 w3 hown3 hgrow3 _; refine Hid.out ?_)
                  refine Lib.hid ?_
                  have hb3 : Below w.heap.size w w3 := (HB.out.alloc hsz _).grown hgrow3 (by simp; omega) (fun k hk => (HO1.out.lt k hk).1)
                  have ho2 : w3.ownsRow w.heap.size 2 1 _ k (idxTo Ix k) := owns_keep (HO2.out.alloc _) (HO1.out.alloc _) (by decide) hgrow3
                  have hs3 := hb3.size
                  clear hgrow3 hcv
                  go_wp2_with (at_builtin; refine wpList_append_own _ rfl (.tmp 154) (.tmp 155) 35 rfl w.heap.size 2 j0 (.int .i64 0) 1 8 Tryd.underlying35 hj hy0 hy1 hy2 rfl (by decide) _ _ _ rfl (ho2.alloc _) ⟨w3.heap.size, 0, none⟩ 1 1 [Value.int .i64 (-1)] rfl rfl (by intro j u' hj; match j, hj with | 0, hj => simp at hj; subst hj; simp [Addr.add]) (by intro u' hu'; simp at hu'; subst hu'; rfl) (by unfold maxLen; omega) (by omega) (by simp; omega) ?_; intro v4 w4 hown4 hgrow4 _; refine Hid.out ?_)
                  refine Lib.hid ?_
                  have hb4 : Below w.heap.size w w4 := (hb3.alloc hs3 _).grown hgrow4 (by simp; omega) (fun k hk => (ho2.lt k hk).1)
                  have ho1 : w4.ownsRow w.heap.size 9 1 v3 (k + 1) _ := owns_keep (hown3.alloc _) (ho2.alloc _) (by decide) hgrow4
                  have F1 : Hid (w4.ownsRow w.heap.size 9 1 v3 (k + 1) (namesTo S Ix (k + 1))) := by
                    show World.ownsRow _ _ _ _ _ _ _
                    rw [namesTo_succ, gotN, if_pos HXN.out]
                    exact ho1
                  have F2 : Hid (w4.ownsRow w.heap.size 2 1 v4 (k + 1) (idxTo Ix (k + 1))) := by
                    show World.ownsRow _ _ _ _ _ _ _
                    rw [idxTo_succ, gotI, if_pos HXN.out]
                    exact hown4
                  have F3 := Lib.hid hb4
                  clear hgrow4 hown4 ho1 ho2 hown3 hb3 hb4 hs3
                  go_wp2
                  go_roundw
                  case rel => exact ⟨k + 1, by omega, by rw [HE3.out]; have := HER.out; go_num, F1.out, F2.out, F3.out⟩
                  case measure => simp [intOf]; have := HP.out; omega
                · have l1 : (r : Int) < (N : Int) := by omega
                  have dc : wr.cell? ⟨b, off + r, none⟩ = some (.int .u8 91) := by rw [HCW.out r (by omega), byteAt, hend2]; rfl
                  clear hend hend2
                  go_wp2_with (at_builtin; refine wpList_append_own _ rfl (.tmp 146) (.tmp 152) 29 rfl w.heap.size 9 i0 (.string ByteArray.empty) 1 16 Tryd.underlying29 hi hz0 hz1 hz2 rfl (by decide) _ _ _ rfl (HO1.out.alloc _) ⟨wr.heap.size, 0, none⟩ 1 1 [Value.string (S k)] rfl rfl (by intro j u' hj; match j, hj with | 0, hj => simp at hj; subst hj; simp [Addr.add]) (by intro u' hu'; simp at hu'; subst hu'; rfl) (by unfold maxLen; omega) (by omega) (by simp; omega) ?_; intro v3 w3 hown3 hgrow3 _; refine Hid.out ?_)
                  refine Lib.hid ?_
                  have hb3 : Below w.heap.size w w3 := (HB.out.alloc hsz _).grown hgrow3 (by simp; omega) (fun k hk => (HO1.out.lt k hk).1)
                  have ho2 : w3.ownsRow w.heap.size 2 1 _ k (idxTo Ix k) := owns_keep (HO2.out.alloc _) (HO1.out.alloc _) (by decide) hgrow3
                  have hs3 := hb3.size
                  clear hgrow3 hcv
                  go_wp2_with (at_builtin; refine wpList_append_own _ rfl (.tmp 154) (.tmp 155) 35 rfl w.heap.size 2 j0 (.int .i64 0) 1 8 Tryd.underlying35 hj hy0 hy1 hy2 rfl (by decide) _ _ _ rfl (ho2.alloc _) ⟨w3.heap.size, 0, none⟩ 1 1 [Value.int .i64 (-1)] rfl rfl (by intro j u' hj; match j, hj with | 0, hj => simp at hj; subst hj; simp [Addr.add]) (by intro u' hu'; simp at hu'; subst hu'; rfl) (by unfold maxLen; omega) (by omega) (by simp; omega) ?_; intro v4 w4 hown4 hgrow4 _; refine Hid.out ?_)
                  refine Lib.hid ?_
                  have hb4 : Below w.heap.size w w4 := (hb3.alloc hs3 _).grown hgrow4 (by simp; omega) (fun k hk => (ho2.lt k hk).1)
                  have ho1 : w4.ownsRow w.heap.size 9 1 v3 (k + 1) _ := owns_keep (hown3.alloc _) (ho2.alloc _) (by decide) hgrow4
                  have F1 : Hid (w4.ownsRow w.heap.size 9 1 v3 (k + 1) (namesTo S Ix (k + 1))) := by
                    show World.ownsRow _ _ _ _ _ _ _
                    rw [namesTo_succ, gotN, if_pos HXN.out]
                    exact ho1
                  have F2 : Hid (w4.ownsRow w.heap.size 2 1 v4 (k + 1) (idxTo Ix (k + 1))) := by
                    show World.ownsRow _ _ _ _ _ _ _
                    rw [idxTo_succ, gotI, if_pos HXN.out]
                    exact hown4
                  have F3 := Lib.hid hb4
                  clear hgrow4 hown4 ho1 ho2 hown3 hb3 hb4 hs3
                  go_wp2
                  go_roundw
                  case rel => exact ⟨k + 1, by omega, by rw [HE3.out]; have := HER.out; go_num, F1.out, F2.out, F3.out⟩
                  case measure => simp [intOf]; have := HP.out; omega

          · subst hu
            clear hk0
            go_wp2
            clear hC0 z0
            go_loop [7] (fun i => ∃ r : Nat, P ≤ r ∧ r ≤ P + L ∧ i = .int .i64 r) (fun i => P + L - (intOf i).toNat)
            case atStart => exact ⟨P, by omega, by omega, by go_num⟩
            case round =>
              obtain ⟨r, hr0, hr1, rfl⟩ := hrel
              by_cases hrl : r < P + L
              · have hjD : r - (P) < nm.length := by have := HLN.out; omega
                obtain ⟨C, hC⟩ : ∃ C : Int, C = (nm[r - (P)].toNat : Int) := ⟨_, rfl⟩
                have dc : wr.cell? ⟨b, off + r, none⟩ = some (.int .u8 C) := by
                  have := HDJ.out (r - (P)) hjD
                  rw [show P + (r - (P)) = r by omega] at this
                  rw [this, hC]
                obtain ⟨c0, c1, c2⟩ := byte_plain (HPL.out _ (List.getElem_mem hjD))
                rw [← hC] at c0 c1 c2
                have l1 : (r : Int) < (N : Int) := by omega
                clear hC
                go_wp2
                go_round
                case rel => exact ⟨r + 1, by omega, by omega, by go_num⟩
                case measure => simp [intOf]; omega
              · have er : r = P + L := by omega
                have hcv : (convert 22 9 (.slice (some ⟨b, off + (P), none⟩) (r - (P)) (c - (P)))).run Tryd.prog wr = .ok (.string (S k)) wr := by
                  have h1 : r - (P) = nm.length := by have := HLN.out; omega
                  rw [h1]
                  have h2 := run_convert_bytes_back (P := Tryd.prog) wr 22 9 5 ⟨b, off + (P), none⟩ (c - (P)) nm Tryd.underlying22 Tryd.underlying5 Tryd.underlying9 (fun j hj => by rw [WideShapes.add_plain, Nat.add_assoc]; exact HDJ.out j hj)
                  rw [h2, HNM.out]
                have n0 : ((r : Int) == (P : Int)) = false := by simp only [beq_eq_false_iff_ne]; omega
                have hend := HNX.out
                rw [show P + L = r by have := HE3.out; omega] at hend
                have HER := Lib.hid er
                have hsz := HB.out.size
                have i1 : P < c := by omega
                have i2 : r ≤ c := by omega
                have i3 : (P : Int) ≤ (r : Int) := by omega
                have i4 : (r : Int) ≤ (c : Int) := by omega
                clear er
                rcases hend with hend | ⟨hend, hend2 | hend2⟩
                · have l1 : ¬ (r : Int) < (N : Int) := by omega
                  clear hend
                  go_wp2_with (at_builtin; refine wpList_append_own _ rfl (.tmp 146) (.tmp 152) 29 rfl w.heap.size 9 i0 (.string ByteArray.empty) 1 16 Tryd.underlying29 hi hz0 hz1 hz2 rfl (by decide) _ _ _ rfl (HO1.out.alloc _) ⟨wr.heap.size, 0, none⟩ 1 1 [Value.string (S k)] rfl rfl (by intro j u' hj; match j, hj with | 0, hj => simp at hj; subst hj; simp [Addr.add]) (by intro u' hu'; simp at hu'; subst hu'; rfl) (by unfold maxLen; omega) (by omega) (by simp; omega) ?_; intro v3 w3 hown3 hgrow3 _; refine Hid.out ?_)
                  refine Lib.hid ?_
                  have hb3 : Below w.heap.size w w3 := (HB.out.alloc hsz _).grown hgrow3 (by simp; omega) (fun k hk => (HO1.out.lt k hk).1)
                  have ho2 : w3.ownsRow w.heap.size 2 1 _ k (idxTo Ix k) := owns_keep (HO2.out.alloc _) (HO1.out.alloc _) (by decide) hgrow3
                  have hs3 := hb3.size
                  clear hgrow3 hcv
                  go_wp2_with (at_builtin; refine wpList_append_own _ rfl (.tmp 154) (.tmp 155) 35 rfl w.heap.size 2 j0 (.int .i64 0) 1 8 Tryd.underlying35 hj hy0 hy1 hy2 rfl (by decide) _ _ _ rfl (ho2.alloc _) ⟨w3.heap.size, 0, none⟩ 1 1 [Value.int .i64 (-1)] rfl rfl (by intro j u' hj; match j, hj with | 0, hj => simp at hj; subst hj; simp [Addr.add]) (by intro u' hu'; simp at hu'; subst hu'; rfl) (by unfold maxLen; omega) (by omega) (by simp; omega) ?_; intro v4 w4 hown4 hgrow4 _; refine Hid.out ?_)
                  refine Lib.hid ?_
                  have hb4 : Below w.heap.size w w4 := (hb3.alloc hs3 _).grown hgrow4 (by simp; omega) (fun k hk => (ho2.lt k hk).1)
                  have ho1 : w4.ownsRow w.heap.size 9 1 v3 (k + 1) _ := owns_keep (hown3.alloc _) (ho2.alloc _) (by decide) hgrow4
                  have F1 : Hid (w4.ownsRow w.heap.size 9 1 v3 (k + 1) (namesTo S Ix (k + 1))) := by
                    show World.ownsRow _ _ _ _ _ _ _
                    rw [namesTo_succ, gotN, if_pos HXN.out]
                    exact ho1
                  have F2 : Hid (w4.ownsRow w.heap.size 2 1 v4 (k + 1) (idxTo Ix (k + 1))) := by
                    show World.ownsRow _ _ _ _ _ _ _
                    rw [idxTo_succ, gotI, if_pos HXN.out]
                    exact hown4
                  have F3 := Lib.hid hb4
                  clear hgrow4 hown4 ho1 ho2 hown3 hb3 hb4 hs3
                  go_wp2
                  go_roundw
                  case rel => exact ⟨k + 1, by omega, by rw [HE3.out]; have := HER.out; go_num, F1.out, F2.out, F3.out⟩
                  case measure => simp [intOf]; have := HP.out; omega
                · have l1 : (r : Int) < (N : Int) := by omega
                  have dc : wr.cell? ⟨b, off + r, none⟩ = some (.int .u8 46) := by rw [HCW.out r (by omega), byteAt, hend2]; rfl
                  clear hend hend2
                  go_wp2_with (at_builtin; refine wpList_append_own _ rfl (.tmp 146) (.tmp 152) 29 rfl w.heap.size 9 i0 (.string ByteArray.empty) 1 16 Tryd.underlying29 hi hz0 hz1 hz2 rfl (by decide) _ _ _ rfl (HO1.out.alloc _) ⟨wr.heap.size, 0, none⟩ 1 1 [Value.string (S k)] rfl rfl (by intro j u' hj; match j, hj with | 0, hj => simp at hj; subst hj; simp [Addr.add]) (by intro u' hu'; simp at hu'; subst hu'; rfl) (by unfold maxLen; omega) (by omega) (by simp; omega) ?_; intro v3 w3 hown3 hgrow3 _; refine Hid.out ?_)
                  refine Lib.hid ?_
                  have hb3 : Below w.heap.size w w3 := (HB.out.alloc hsz _).grown hgrow3 (by simp; omega) (fun k hk => (HO1.out.lt k hk).1)
                  have ho2 : w3.ownsRow w.heap.size 2 1 _ k (idxTo Ix k) := owns_keep (HO2.out.alloc _) (HO1.out.alloc _) (by decide) hgrow3
                  have hs3 := hb3.size
                  clear hgrow3 hcv
                  go_wp2_with (at_builtin; refine wpList_append_own _ rfl (.tmp 154) (.tmp 155) 35 rfl w.heap.size 2 j0 (.int .i64 0) 1 8 Tryd.underlying35 hj hy0 hy1 hy2 rfl (by decide) _ _ _ rfl (ho2.alloc _) ⟨w3.heap.size, 0, none⟩ 1 1 [Value.int .i64 (-1)] rfl rfl (by intro j u' hj; match j, hj with | 0, hj => simp at hj; subst hj; simp [Addr.add]) (by intro u' hu'; simp at hu'; subst hu'; rfl) (by unfold maxLen; omega) (by omega) (by simp; omega) ?_; intro v4 w4 hown4 hgrow4 _; refine Hid.out ?_)
                  refine Lib.hid ?_
                  have hb4 : Below w.heap.size w w4 := (hb3.alloc hs3 _).grown hgrow4 (by simp; omega) (fun k hk => (ho2.lt k hk).1)
                  have ho1 : w4.ownsRow w.heap.size 9 1 v3 (k + 1) _ := owns_keep (hown3.alloc _) (ho2.alloc _) (by decide) hgrow4
                  have F1 : Hid (w4.ownsRow w.heap.size 9 1 v3 (k + 1) (namesTo S Ix (k + 1))) := by
                    show World.ownsRow _ _ _ _ _ _ _
                    rw [namesTo_succ, gotN, if_pos HXN.out]
                    exact ho1
                  have F2 : Hid (w4.ownsRow w.heap.size 2 1 v4 (k + 1) (idxTo Ix (k + 1))) := by
                    show World.ownsRow _ _ _ _ _ _ _
                    rw [idxTo_succ, gotI, if_pos HXN.out]
                    exact hown4
                  have F3 := Lib.hid hb4
                  clear hgrow4 hown4 ho1 ho2 hown3 hb3 hb4 hs3
                  go_wp2
                  go_roundw
                  case rel => exact ⟨k + 1, by omega, by rw [HE3.out]; have := HER.out; go_num, F1.out, F2.out, F3.out⟩
                  case measure => simp [intOf]; have := HP.out; omega
                · have l1 : (r : Int) < (N : Int) := by omega
                  have dc : wr.cell? ⟨b, off + r, none⟩ = some (.int .u8 91) := by rw [HCW.out r (by omega), byteAt, hend2]; rfl
                  clear hend hend2
                  go_wp2_with (at_builtin; refine wpList_append_own _ rfl (.tmp 146) (.tmp 152) 29 rfl w.heap.size 9 i0 (.string ByteArray.empty) 1 16 Tryd.underlying29 hi hz0 hz1 hz2 rfl (by decide) _ _ _ rfl (HO1.out.alloc _) ⟨wr.heap.size, 0, none⟩ 1 1 [Value.string (S k)] rfl rfl (by intro j u' hj; match j, hj with | 0, hj => simp at hj; subst hj; simp [Addr.add]) (by intro u' hu'; simp at hu'; subst hu'; rfl) (by unfold maxLen; omega) (by omega) (by simp; omega) ?_; intro v3 w3 hown3 hgrow3 _; refine Hid.out ?_)
                  refine Lib.hid ?_
                  have hb3 : Below w.heap.size w w3 := (HB.out.alloc hsz _).grown hgrow3 (by simp; omega) (fun k hk => (HO1.out.lt k hk).1)
                  have ho2 : w3.ownsRow w.heap.size 2 1 _ k (idxTo Ix k) := owns_keep (HO2.out.alloc _) (HO1.out.alloc _) (by decide) hgrow3
                  have hs3 := hb3.size
                  clear hgrow3 hcv
                  go_wp2_with (at_builtin; refine wpList_append_own _ rfl (.tmp 154) (.tmp 155) 35 rfl w.heap.size 2 j0 (.int .i64 0) 1 8 Tryd.underlying35 hj hy0 hy1 hy2 rfl (by decide) _ _ _ rfl (ho2.alloc _) ⟨w3.heap.size, 0, none⟩ 1 1 [Value.int .i64 (-1)] rfl rfl (by intro j u' hj; match j, hj with | 0, hj => simp at hj; subst hj; simp [Addr.add]) (by intro u' hu'; simp at hu'; subst hu'; rfl) (by unfold maxLen; omega) (by omega) (by simp; omega) ?_; intro v4 w4 hown4 hgrow4 _; refine Hid.out ?_)
                  refine Lib.hid ?_
                  have hb4 : Below w.heap.size w w4 := (hb3.alloc hs3 _).grown hgrow4 (by simp; omega) (fun k hk => (ho2.lt k hk).1)
                  have ho1 : w4.ownsRow w.heap.size 9 1 v3 (k + 1) _ := owns_keep (hown3.alloc _) (ho2.alloc _) (by decide) hgrow4
                  have F1 : Hid (w4.ownsRow w.heap.size 9 1 v3 (k + 1) (namesTo S Ix (k + 1))) := by
                    show World.ownsRow _ _ _ _ _ _ _
                    rw [namesTo_succ, gotN, if_pos HXN.out]
                    exact ho1
                  have F2 : Hid (w4.ownsRow w.heap.size 2 1 v4 (k + 1) (idxTo Ix (k + 1))) := by
                    show World.ownsRow _ _ _ _ _ _ _
                    rw [idxTo_succ, gotI, if_pos HXN.out]
                    exact hown4
                  have F3 := Lib.hid hb4
                  clear hgrow4 hown4 ho1 ho2 hown3 hb3 hb4 hs3
                  go_wp2
                  go_roundw
                  case rel => exact ⟨k + 1, by omega, by rw [HE3.out]; have := HER.out; go_num, F1.out, F2.out, F3.out⟩
                  case measure => simp [intOf]; have := HP.out; omega

        · have q1 : q = 1 := by rw [hq, if_neg hk0]
          subst q1
          have hpos : 0 < k := by omega
          have HDJ := Lib.hid dj
          have HE3 := Lib.hid e3
          have HNX := Lib.hid hnx
          have d46 : wr.cell? ⟨b, off + P, none⟩ = some (.int .u8 46) := by rw [cw P (by omega), byteAt, e0 hpos]; rfl
          have kk : (0 : Int) < (k : Int) := by omega
          clear dj e3 hnx hP cw e0 hq hk0
          rcases HO2.out.2 with ⟨-, h0⟩ | ⟨g6, c6, _, hu, -⟩
          · omega
          · subst hu
            go_wp2
            clear d46
            go_loop [7] (fun i => ∃ r : Nat, P + 1 ≤ r ∧ r ≤ P + 1 + L ∧ i = .int .i64 r) (fun i => P + 1 + L - (intOf i).toNat)
            case atStart => exact ⟨P + 1, by omega, by omega, by go_num⟩
            case round =>
              obtain ⟨r, hr0, hr1, rfl⟩ := hrel
              by_cases hrl : r < P + 1 + L
              · have hjD : r - (P + 1) < nm.length := by have := HLN.out; omega
                obtain ⟨C, hC⟩ : ∃ C : Int, C = (nm[r - (P + 1)].toNat : Int) := ⟨_, rfl⟩
                have dc : wr.cell? ⟨b, off + r, none⟩ = some (.int .u8 C) := by
                  have := HDJ.out (r - (P + 1)) hjD
                  rw [show P + 1 + (r - (P + 1)) = r by omega] at this
                  rw [this, hC]
                obtain ⟨c0, c1, c2⟩ := byte_plain (HPL.out _ (List.getElem_mem hjD))
                rw [← hC] at c0 c1 c2
                have l1 : (r : Int) < (N : Int) := by omega
                clear hC
                go_wp2
                go_round
                case rel => exact ⟨r + 1, by omega, by omega, by go_num⟩
                case measure => simp [intOf]; omega
              · have er : r = P + 1 + L := by omega
                have hcv : (convert 22 9 (.slice (some ⟨b, off + (P + 1), none⟩) (r - (P + 1)) (c - (P + 1)))).run Tryd.prog wr = .ok (.string (S k)) wr := by
                  have h1 : r - (P + 1) = nm.length := by have := HLN.out; omega
                  rw [h1]
                  have h2 := run_convert_bytes_back (P := Tryd.prog) wr 22 9 5 ⟨b, off + (P + 1), none⟩ (c - (P + 1)) nm Tryd.underlying22 Tryd.underlying5 Tryd.underlying9 (fun j hj => by rw [WideShapes.add_plain, Nat.add_assoc]; exact HDJ.out j hj)
                  rw [h2, HNM.out]
                have n0 : ((r : Int) == (P : Int) + 1) = false := by simp only [beq_eq_false_iff_ne]; omega
                have hend := HNX.out
                rw [show P + 1 + L = r by have := HE3.out; omega] at hend
                have HER := Lib.hid er
                have hsz := HB.out.size
                have i1 : P + 1 < c := by omega
                have i2 : r ≤ c := by omega
                have i3 : (P : Int) + 1 ≤ (r : Int) := by omega
                have i4 : (r : Int) ≤ (c : Int) := by omega
                clear er
                rcases hend with hend | ⟨hend, hend2 | hend2⟩
                · have l1 : ¬ (r : Int) < (N : Int) := by omega
                  clear hend
                  go_wp2_with (at_builtin; refine wpList_append_own _ rfl (.tmp 146) (.tmp 152) 29 rfl w.heap.size 9 i0 (.string ByteArray.empty) 1 16 Tryd.underlying29 hi hz0 hz1 hz2 rfl (by decide) _ _ _ rfl (HO1.out.alloc _) ⟨wr.heap.size, 0, none⟩ 1 1 [Value.string (S k)] rfl rfl (by intro j u' hj; match j, hj with | 0, hj => simp at hj; subst hj; simp [Addr.add]) (by intro u' hu'; simp at hu'; subst hu'; rfl) (by unfold maxLen; omega) (by omega) (by simp; omega) ?_; intro v3 w3 hown3 hgrow3 _; refine Hid.out ?_)
                  refine Lib.hid ?_
                  have hb3 : Below w.heap.size w w3 := (HB.out.alloc hsz _).grown hgrow3 (by simp; omega) (fun k hk => (HO1.out.lt k hk).1)
                  have ho2 : w3.ownsRow w.heap.size 2 1 _ k (idxTo Ix k) := owns_keep (HO2.out.alloc _) (HO1.out.alloc _) (by decide) hgrow3
                  have hs3 := hb3.size
                  clear hgrow3 hcv
                  go_wp2_with (at_builtin; refine wpList_append_own _ rfl (.tmp 154) (.tmp 155) 35 rfl w.heap.size 2 j0 (.int .i64 0) 1 8 Tryd.underlying35 hj hy0 hy1 hy2 rfl (by decide) _ _ _ rfl (ho2.alloc _) ⟨w3.heap.size, 0, none⟩ 1 1 [Value.int .i64 (-1)] rfl rfl (by intro j u' hj; match j, hj with | 0, hj => simp at hj; subst hj; simp [Addr.add]) (by intro u' hu'; simp at hu'; subst hu'; rfl) (by unfold maxLen; omega) (by omega) (by simp; omega) ?_; intro v4 w4 hown4 hgrow4 _; refine Hid.out ?_)
                  refine Lib.hid ?_
                  have hb4 : Below w.heap.size w w4 := (hb3.alloc hs3 _).grown hgrow4 (by simp; omega) (fun k hk => (ho2.lt k hk).1)
                  have ho1 : w4.ownsRow w.heap.size 9 1 v3 (k + 1) _ := owns_keep (hown3.alloc _) (ho2.alloc _) (by decide) hgrow4
                  have F1 : Hid (w4.ownsRow w.heap.size 9 1 v3 (k + 1) (namesTo S Ix (k + 1))) := by
                    show World.ownsRow _ _ _ _ _ _ _
                    rw [namesTo_succ, gotN, if_pos HXN.out]
                    exact ho1
                  have F2 : Hid (w4.ownsRow w.heap.size 2 1 v4 (k + 1) (idxTo Ix (k + 1))) := by
                    show World.ownsRow _ _ _ _ _ _ _
                    rw [idxTo_succ, gotI, if_pos HXN.out]
                    exact hown4
                  have F3 := Lib.hid hb4
                  clear hgrow4 hown4 ho1 ho2 hown3 hb3 hb4 hs3
                  go_wp2
                  go_roundw
                  case rel => exact ⟨k + 1, by omega, by rw [HE3.out]; have := HER.out; go_num, F1.out, F2.out, F3.out⟩
                  case measure => simp [intOf]; have := HP.out; omega
                · have l1 : (r : Int) < (N : Int) := by omega
                  have dc : wr.cell? ⟨b, off + r, none⟩ = some (.int .u8 46) := by rw [HCW.out r (by omega), byteAt, hend2]; rfl
                  clear hend hend2
                  go_wp2_with (at_builtin; refine wpList_append_own _ rfl (.tmp 146) (.tmp 152) 29 rfl w.heap.size 9 i0 (.string ByteArray.empty) 1 16 Tryd.underlying29 hi hz0 hz1 hz2 rfl (by decide) _ _ _ rfl (HO1.out.alloc _) ⟨wr.heap.size, 0, none⟩ 1 1 [Value.string (S k)] rfl rfl (by intro j u' hj; match j, hj with | 0, hj => simp at hj; subst hj; simp [Addr.add]) (by intro u' hu'; simp at hu'; subst hu'; rfl) (by unfold maxLen; omega) (by omega) (by simp; omega) ?_; intro v3 w3 hown3 hgrow3 _; refine Hid.out ?_)
                  refine Lib.hid ?_
                  have hb3 : Below w.heap.size w w3 := (HB.out.alloc hsz _).grown hgrow3 (by simp; omega) (fun k hk => (HO1.out.lt k hk).1)
                  have ho2 : w3.ownsRow w.heap.size 2 1 _ k (idxTo Ix k) := owns_keep (HO2.out.alloc _) (HO1.out.alloc _) (by decide) hgrow3
                  have hs3 := hb3.size
                  clear hgrow3 hcv
                  go_wp2_with (at_builtin; refine wpList_append_own _ rfl (.tmp 154) (.tmp 155) 35 rfl w.heap.size 2 j0 (.int .i64 0) 1 8 Tryd.underlying35 hj hy0 hy1 hy2 rfl (by decide) _ _ _ rfl (ho2.alloc _) ⟨w3.heap.size, 0, none⟩ 1 1 [Value.int .i64 (-1)] rfl rfl (by intro j u' hj; match j, hj with | 0, hj => simp at hj; subst hj; simp [Addr.add]) (by intro u' hu'; simp at hu'; subst hu'; rfl) (by unfold maxLen; omega) (by omega) (by simp; omega) ?_; intro v4 w4 hown4 hgrow4 _; refine Hid.out ?_)
                  refine Lib.hid ?_
                  have hb4 : Below w.heap.size w w4 := (hb3.alloc hs3 _).grown hgrow4 (by simp; omega) (fun k hk => (ho2.lt k hk).1)
                  have ho1 : w4.ownsRow w.heap.size 9 1 v3 (k + 1) _ := owns_keep (hown3.alloc _) (ho2.alloc _) (by decide) hgrow4
                  have F1 : Hid (w4.ownsRow w.heap.size 9 1 v3 (k + 1) (namesTo S Ix (k + 1))) := by
                    show World.ownsRow _ _ _ _ _ _ _
                    rw [namesTo_succ, gotN, if_pos HXN.out]
                    exact ho1
                  have F2 : Hid (w4.ownsRow w.heap.size 2 1 v4 (k + 1) (idxTo Ix (k + 1))) := by
                    show World.ownsRow _ _ _ _ _ _ _
                    rw [idxTo_succ, gotI, if_pos HXN.out]
                    exact hown4
                  have F3 := Lib.hid hb4
                  clear hgrow4 hown4 ho1 ho2 hown3 hb3 hb4 hs3
                  go_wp2
                  go_roundw
                  case rel => exact ⟨k + 1, by omega, by rw [HE3.out]; have := HER.out; go_num, F1.out, F2.out, F3.out⟩
                  case measure => simp [intOf]; have := HP.out; omega
                · have l1 : (r : Int) < (N : Int) := by omega
                  have dc : wr.cell? ⟨b, off + r, none⟩ = some (.int .u8 91) := by rw [HCW.out r (by omega), byteAt, hend2]; rfl
                  clear hend hend2
                  go_wp2_with (at_builtin; refine wpList_append_own _ rfl (.tmp 146) (.tmp 152) 29 rfl w.heap.size 9 i0 (.string ByteArray.empty) 1 16 Tryd.underlying29 hi hz0 hz1 hz2 rfl (by decide) _ _ _ rfl (HO1.out.alloc _) ⟨wr.heap.size, 0, none⟩ 1 1 [Value.string (S k)] rfl rfl (by intro j u' hj; match j, hj with | 0, hj => simp at hj; subst hj; simp [Addr.add]) (by intro u' hu'; simp at hu'; subst hu'; rfl) (by unfold maxLen; omega) (by omega) (by simp; omega) ?_; intro v3 w3 hown3 hgrow3 _; refine Hid.out ?_)
                  refine Lib.hid ?_
                  have hb3 : Below w.heap.size w w3 := (HB.out.alloc hsz _).grown hgrow3 (by simp; omega) (fun k hk => (HO1.out.lt k hk).1)
                  have ho2 : w3.ownsRow w.heap.size 2 1 _ k (idxTo Ix k) := owns_keep (HO2.out.alloc _) (HO1.out.alloc _) (by decide) hgrow3
                  have hs3 := hb3.size
                  clear hgrow3 hcv
                  go_wp2_with (at_builtin; refine wpList_append_own _ rfl (.tmp 154) (.tmp 155) 35 rfl w.heap.size 2 j0 (.int .i64 0) 1 8 Tryd.underlying35 hj hy0 hy1 hy2 rfl (by decide) _ _ _ rfl (ho2.alloc _) ⟨w3.heap.size, 0, none⟩ 1 1 [Value.int .i64 (-1)] rfl rfl (by intro j u' hj; match j, hj with | 0, hj => simp at hj; subst hj; simp [Addr.add]) (by intro u' hu'; simp at hu'; subst hu'; rfl) (by unfold maxLen; omega) (by omega) (by simp; omega) ?_; intro v4 w4 hown4 hgrow4 _; refine Hid.out ?_)
                  refine Lib.hid ?_
                  have hb4 : Below w.heap.size w w4 := (hb3.alloc hs3 _).grown hgrow4 (by simp; omega) (fun k hk => (ho2.lt k hk).1)
                  have ho1 : w4.ownsRow w.heap.size 9 1 v3 (k + 1) _ := owns_keep (hown3.alloc _) (ho2.alloc _) (by decide) hgrow4
                  have F1 : Hid (w4.ownsRow w.heap.size 9 1 v3 (k + 1) (namesTo S Ix (k + 1))) := by
                    show World.ownsRow _ _ _ _ _ _ _
                    rw [namesTo_succ, gotN, if_pos HXN.out]
                    exact ho1
                  have F2 : Hid (w4.ownsRow w.heap.size 2 1 v4 (k + 1) (idxTo Ix (k + 1))) := by
                    show World.ownsRow _ _ _ _ _ _ _
                    rw [idxTo_succ, gotI, if_pos HXN.out]
                    exact hown4
                  have F3 := Lib.hid hb4
                  clear hgrow4 hown4 ho1 ho2 hown3 hb3 hb4 hs3
                  go_wp2
                  go_roundw
                  case rel => exact ⟨k + 1, by omega, by rw [HE3.out]; have := HER.out; go_num, F1.out, F2.out, F3.out⟩
                  case measure => simp [intOf]; have := HP.out; omega

    · have ek : k = n := by omega
      subst ek
      have HO1 := Lib.hid ho1
      have HO2 := Lib.hid ho2
      have HB := Lib.hid hb
      have hge : ¬ (at_ S Ix k : Int) < (N : Int) := by rw [HN.out]; omega
      clear ho1 ho2 hb
      go_wp2
      go_ret3
      exact ⟨_, _, rfl, HO1.out, HO2.out, HB.out⟩
end Go.Proofs.Qxb6000837aDoor
