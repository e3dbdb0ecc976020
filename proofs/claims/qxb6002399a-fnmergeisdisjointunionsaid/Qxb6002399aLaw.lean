/-
  The law, walked.
-/
import Derived.Test.Qxb6002399aWords
import Derived.Test.Qxb6002399aZMerge
namespace Go.Proofs.Qxb6002399a
open Go.RowKit
set_option linter.unusedVariables false

set_option maxRecDepth 20000 in
set_option maxHeartbeats 16000000 in
theorem law_any (wna hta haa hpa wnb htb hab hpb : Bool) (taa aaa pfa tab aab pfb : Int) (sfa pta ana sfb ptb anb : ByteArray) (w : World)
    (h1 : sfa.size ≤ 9223372036854775807) (h2 : pta.size ≤ 9223372036854775807) (h3 : ana.size ≤ 9223372036854775807) (h4 : sfb.size ≤ 9223372036854775807) (h5 : ptb.size ≤ 9223372036854775807) (h6 : anb.size ≤ 9223372036854775807) :
    Calls Try.prog 3 #[.agg #[.bool hta, .bool haa, .int .i64 taa, .int .i64 aaa, .string sfa, .bool hpa, .string pta, .int .i32 pfa, .string ana, .bool wna], .agg #[.bool htb, .bool hab, .int .i64 tab, .int .i64 aab, .string sfb, .bool hpb, .string ptb, .int .i32 pfb, .string anb, .bool wnb]] w
      fun e w' => e = .returned (.bool true) ∧ Below w.heap.size w w' := by
  go_enter Try.func3, Try.ntmps3
  go_wp2_with (go_at_call 6; refine (bytes6 wna hta haa hpa wnb htb hab hpb taa aaa pfa tab aab pfb sfa pta ana sfb ptb anb _ h1 h2 h3 h4 h5 h6).mono ?_; rintro e w1 ⟨⟨r, rfl, hr⟩, hb1⟩; refine Hid.out ?_)
  refine Lib.hid ?_
  obtain ⟨hc1, hf1⟩ := bcell hb1
  (have z10 : w.heap.size < w1.heap.size := by (have h9 := hb1.size; (try simp at h9); omega))
  (have z11 : w.heap.size + 1 < w1.heap.size := by (have h9 := hb1.size; (try simp at h9); omega))
  have HB1 : Hid (Below w.heap.size w w1) := Lib.hid ((below2 w _ _).trans (hb1.mono (by simp; omega)))
  clear hb1
  cases r with
  | false =>
    go_wp2
    go_ret
    exact ⟨rfl, HB1.out⟩
  | true =>
    have hr := hr rfl
    obtain ⟨na, nb, hn0, hn1, hn2, pA, pB⟩ : ∃ na nb : Int, 0 ≤ na ∧ 0 ≤ nb ∧ na + nb ≤ 1048576 ∧ Hid (∀ W : World, Calls Try.prog 7 #[.agg #[.bool hta, .bool haa, .int .i64 taa, .int .i64 aaa, .string sfa, .bool hpa, .string pta, .int .i32 pfa, .string ana, .bool wna]] W fun e w' => e = .returned (.int .i64 na) ∧ Below W.heap.size W w') ∧ Hid (∀ W : World, Calls Try.prog 7 #[.agg #[.bool htb, .bool hab, .int .i64 tab, .int .i64 aab, .string sfb, .bool hpb, .string ptb, .int .i32 pfb, .string anb, .bool wnb]] W fun e w' => e = .returned (.int .i64 nb) ∧ Below W.heap.size W w') :=
      ⟨_, _, by omega, by omega, by omega, fun W => props_any wna hta haa hpa taa aaa pfa sfa pta ana W (by omega), fun W => props_any wnb htb hab hpb tab aab pfb sfb ptb anb W (by omega)⟩
    clear hr h1 h2 h3 h4 h5 h6
    go_upto_region 3 with fail
    go_cut [27] (fun s27 wx => s27 = .bool false ∧ Below w1.heap.size w1 wx)
    case first =>
      go_region_with (first | (go_at_call_of 7 (Value.string sfa); refine (pA.out _).mono ?_; rintro e wa ⟨rfl, hba⟩; obtain ⟨hca, hfa⟩ := bcellD hba; (have za0 : w.heap.size < wa.heap.size := by (have h9 := hba.size; (try simp at h9); omega)); (have za1 : w.heap.size + 1 < wa.heap.size := by (have h9 := hba.size; (try simp at h9); omega)); replace hba := Lib.hid hba) | (go_at_call_of 7 (Value.string sfb); refine (pB.out _).mono ?_; rintro e wb ⟨rfl, hbb⟩; obtain ⟨hcb, hfb⟩ := bcell hbb; (have zb0 : w.heap.size < wb.heap.size := by (have h9 := hbb.size; (try simp at h9); omega)); (have zb1 : w.heap.size + 1 < wb.heap.size := by (have h9 := hbb.size; (try simp at h9); omega)); replace hbb := Lib.hid hbb))
      all_goals (go_wp2_with fail)
      all_goals (go_meet)
      all_goals (refine ⟨by rw [IntWalk.i64_in (na + nb) ⟨by omega, by omega⟩, decide_eq_false (by omega)], ?_⟩; have q1 := ((Below.refl _ w1).drew).trans hba.out; exact q1.trans (hbb.out.mono q1.size))
    case rest =>
      obtain ⟨rfl, hbx⟩ := hcut
      obtain ⟨hcx, hfx⟩ := bcell hbx
      (have zx0 : w.heap.size < wc.heap.size := by (have h9 := hbx.size; (try simp at h9); omega))
      (have zx1 : w.heap.size + 1 < wc.heap.size := by (have h9 := hbx.size; (try simp at h9); omega))
      have HBX : Hid (Below w.heap.size w wc) := Lib.hid (HB1.out.trans (hbx.mono HB1.out.size))
      have HF4x : Hid (F4 wc w.heap.size hta haa htb hab) := Lib.hid (by refine ⟨?_, ?_, ?_, ?_⟩ <;> simp [go_sem, hcx, hc1, z10, z11])
      clear hbx
      go_wp2_with (go_at_call 8; refine (toZZ_some wna hta haa hpa taa aaa pfa sfa pta ana _ _).mono ?_; rintro e w3 ⟨nda, rfl, HNA, hb3⟩; refine Hid.out ?_)
      refine Lib.hid ?_
      obtain ⟨hc3, hf3⟩ := bcell hb3
      (have z30 : w.heap.size < w3.heap.size := by (have h9 := hb3.size; (try simp at h9); omega))
      (have z31 : w.heap.size + 1 < w3.heap.size := by (have h9 := hb3.size; (try simp at h9); omega))
      (have z32 : wc.heap.size + 1 < w3.heap.size := by (have h9 := hb3.size; (try simp at h9); omega))
      have HB3 : Hid (Below w.heap.size w w3) := Lib.hid ((HBX.out.trans ((below2 wc _ _).mono HBX.out.size)).trans (hb3.mono (by have := HBX.out.size; simp; omega)))
      have HF43 : Hid (F4 w3 w.heap.size hta haa htb hab) := Lib.hid ((HF4x.out.on (below2 wc _ _) (by omega)).on hb3 (by simp; omega))
      clear hb3
      go_wp2_with (go_at_call 8; refine (toZZ_some wnb htb hab hpb tab aab pfb sfb ptb anb _ _).mono ?_; rintro e w4 ⟨ndb, rfl, HNB, hb4⟩; refine Hid.out ?_)
      refine Lib.hid ?_
      obtain ⟨hc4, hf4⟩ := bcell hb4
      (have z40 : w.heap.size < w4.heap.size := by (have h9 := hb4.size; (try simp at h9); omega))
      (have z41 : w.heap.size + 1 < w4.heap.size := by (have h9 := hb4.size; (try simp at h9); omega))
      (have z43 : w3.heap.size < w4.heap.size := by (have h9 := hb4.size; (try simp at h9); omega))
      have HB4 : Hid (Below w.heap.size w w4) := Lib.hid ((HB3.out.trans ((below1 w3 _).mono HB3.out.size)).trans (hb4.mono (by have := HB3.out.size; simp; omega)))
      have HF4 : Hid (F4 w4 w.heap.size hta haa htb hab) := Lib.hid ((HF43.out.on (below1 w3 _) (by omega)).on hb4 (by simp; omega))
      have HZA : Hid (Z10 w4 w3.heap.size hta haa taa aaa sfa hpa pta pfa ana nda) := Lib.hid (Z10.set.on hb4 (by simp))
      clear hb4
      go_upto_region 9 with fail
      go_cut [7, 8, 9, 10] (fun s7 s8 s9 s10 wx => CutL hta haa hpa htb hab hpb taa aaa pfa tab aab pfb sfa pta ana sfb ptb anb w wx s7 s8 s9 s10)
      case first =>
        go_wp2_with (go_at_call 9; refine (zmerge_any hta haa htb hab hpa hpb taa aaa pfa tab aab pfb sfa pta ana sfb ptb anb nda ndb _).mono ?_; rintro e w5 ⟨ht, ha, hp, ta, aa, pf, sf, pt, an, nd, err, rfl, HZ, hb5⟩; refine Hid.out ?_)
        refine Lib.hid ?_
        replace hb5 := Lib.hid hb5
        go_wp2_with fail
        go_meet
        have q4 := below1 w4 (.cells #[.bool htb, .bool hab, .int .i64 tab, .int .i64 aab, .string sfb, .bool hpb, .string ptb, .int .i32 pfb, .string anb, .pointer ndb] 37)
        have q5 : Below w4.heap.size w4 w5 := q4.trans (hb5.out.mono q4.size)
        have s5 : w4.heap.size < w5.heap.size := by have := hb5.out.size; simp at this; omega
        have b5 : Below w.heap.size w w5 := HB4.out.trans (q5.mono HB4.out.size)
        have q3 := below1 w3 (.cells #[.bool hta, .bool haa, .int .i64 taa, .int .i64 aaa, .string sfa, .bool hpa, .string pta, .int .i32 pfa, .string ana, .pointer nda] 37)
        refine ⟨w3.heap.size, w4.heap.size, w5.heap.size, nda, ndb, nd, ht, ha, hp, ta, aa, pf, sf, pt, an, rfl, rfl, rfl, ((HF4.out.on q5 (by omega)).on (below1 w5 _) (by omega)), ((HZA.out.on q5 (by omega)).on (below1 w5 _) (by omega)), ((Z10.set.on hb5.out (by simp)).on (below1 w5 _) (by omega)), Z10.set, ⟨by simp; omega, by simp; omega, by simp; omega, by simp; omega, by simp⟩, HZ.out, HNA, HNB, b5.alloc b5.size _⟩
      case rest =>
        obtain ⟨p, q, r, nda, ndb, nd, ht, ha, hp, ta, aa, pf, sf, pt, an, rfl, rfl, rfl, ⟨a0, a1, a2, a3⟩, ⟨p0, p1, p2, p3, p4, p5, p6, p7, p8, p9⟩, ⟨q0, q1, q2, q3, q4, q5, q6, q7, q8, q9⟩, ⟨r0, r1, r2, r3, r4, r5, r6, r7, r8, r9⟩, ⟨l0, l1, lp, lq, lr⟩, HZ, HNA, HNB, HB⟩ := hcut
        replace HZ := Lib.hid HZ
        replace HB := Lib.hid HB
        clear hc1 hf1 z10 z11 HB1 hcx hfx zx0 zx1 HBX HF4x hc3 hf3 z30 z31 z32 HB3 HF43 hc4 hf4 z40 z41 z43 HB4 HF4 HZA hn0 hn1 hn2 pA pB
        cases hta <;> cases haa <;> cases htb <;> cases hab
        · obtain ⟨rfl, rfl, rfl, rfl, rfl, rfl, rfl, rfl, rfl, rfl, rfl⟩ : u10 = .nilIface ∧ hp = hpa ∧ pt = pta ∧ sf = sfa ∧ pf = pfa ∧ ta = taa ∧ ht = false ∧ an = ana ∧ aa = aaa ∧ nd = nda ∧ ha = false := ZS.no HZ.out rfl
          clear HZ
          go_wp2_with (first | (go_at_call 10; refine (sameTag_yes _ _ _ _ _ _ _ _ _ _ _ _ _ _ _ _ _ (by intro h; simp [textOf, h])).mono ?_; rintro e wn ⟨rfl, hb⟩; obtain ⟨hc, hf⟩ := bcell hb; (have lp : p < wn.heap.size := by (have h9 := hb.size; (try simp at h9); omega)); (have lq : q < wn.heap.size := by (have h9 := hb.size; (try simp at h9); omega)); (have lr : r < wn.heap.size := by (have h9 := hb.size; (try simp at h9); omega)); (first | (have HB := Lib.hid (bnext HB.out hb)) | (have HB := Lib.hid (bnext1 HB.out hb))); clear hb) | (go_at_call 11; refine (sameAnchor_yes _ _ _ _ _ _ _ _ _ _ _ _ _ _ _ _ _ _ (by first | exact HNA.out | exact HNB.out)).mono ?_; rintro e wn ⟨rfl, hb⟩; obtain ⟨hc, hf⟩ := bcell hb; (have lp : p < wn.heap.size := by (have h9 := hb.size; (try simp at h9); omega)); (have lq : q < wn.heap.size := by (have h9 := hb.size; (try simp at h9); omega)); (have lr : r < wn.heap.size := by (have h9 := hb.size; (try simp at h9); omega)); (first | (have HB := Lib.hid (bnext HB.out hb)) | (have HB := Lib.hid (bnext1 HB.out hb))); clear hb) | (go_at_call 12; refine (zset_any _ _ _ _ _ _ _ _ _ _ _ ).mono ?_; rintro e wn ⟨rfl, hb⟩; obtain ⟨hc, hf⟩ := bcell hb; (have lp : p < wn.heap.size := by (have h9 := hb.size; (try simp at h9); omega)); (have lq : q < wn.heap.size := by (have h9 := hb.size; (try simp at h9); omega)); (have lr : r < wn.heap.size := by (have h9 := hb.size; (try simp at h9); omega)); (first | (have HB := Lib.hid (bnext HB.out hb)) | (have HB := Lib.hid (bnext1 HB.out hb))); clear hb) | (go_at_call 13; refine (zat_any _ _ _ _ _ _ _ _ _ _ _ ).mono ?_; rintro e wn ⟨he, hb⟩; simp [atOf] at he; subst he; obtain ⟨hc, hf⟩ := bcell hb; (have lp : p < wn.heap.size := by (have h9 := hb.size; (try simp at h9); omega)); (have lq : q < wn.heap.size := by (have h9 := hb.size; (try simp at h9); omega)); (have lr : r < wn.heap.size := by (have h9 := hb.size; (try simp at h9); omega)); (first | (have HB := Lib.hid (bnext HB.out hb)) | (have HB := Lib.hid (bnext1 HB.out hb))); clear hb))
          all_goals go_ret
          all_goals exact ⟨rfl, HB.out⟩
        · obtain ⟨rfl, rfl, rfl, rfl, rfl, rfl, rfl, rfl, rfl, rfl, rfl⟩ : u10 = .nilIface ∧ hp = hpa ∧ pt = pta ∧ sf = sfa ∧ pf = pfa ∧ ta = taa ∧ ht = false ∧ an = anb ∧ aa = aab ∧ nd = ndb ∧ ha = true := ZS.no HZ.out rfl
          clear HZ
          go_wp2_with (first | (go_at_call 10; refine (sameTag_yes _ _ _ _ _ _ _ _ _ _ _ _ _ _ _ _ _ (by intro h; simp [textOf, h])).mono ?_; rintro e wn ⟨rfl, hb⟩; obtain ⟨hc, hf⟩ := bcell hb; (have lp : p < wn.heap.size := by (have h9 := hb.size; (try simp at h9); omega)); (have lq : q < wn.heap.size := by (have h9 := hb.size; (try simp at h9); omega)); (have lr : r < wn.heap.size := by (have h9 := hb.size; (try simp at h9); omega)); (first | (have HB := Lib.hid (bnext HB.out hb)) | (have HB := Lib.hid (bnext1 HB.out hb))); clear hb) | (go_at_call 11; refine (sameAnchor_yes _ _ _ _ _ _ _ _ _ _ _ _ _ _ _ _ _ _ (by first | exact HNA.out | exact HNB.out)).mono ?_; rintro e wn ⟨rfl, hb⟩; obtain ⟨hc, hf⟩ := bcell hb; (have lp : p < wn.heap.size := by (have h9 := hb.size; (try simp at h9); omega)); (have lq : q < wn.heap.size := by (have h9 := hb.size; (try simp at h9); omega)); (have lr : r < wn.heap.size := by (have h9 := hb.size; (try simp at h9); omega)); (first | (have HB := Lib.hid (bnext HB.out hb)) | (have HB := Lib.hid (bnext1 HB.out hb))); clear hb) | (go_at_call 12; refine (zset_any _ _ _ _ _ _ _ _ _ _ _ ).mono ?_; rintro e wn ⟨rfl, hb⟩; obtain ⟨hc, hf⟩ := bcell hb; (have lp : p < wn.heap.size := by (have h9 := hb.size; (try simp at h9); omega)); (have lq : q < wn.heap.size := by (have h9 := hb.size; (try simp at h9); omega)); (have lr : r < wn.heap.size := by (have h9 := hb.size; (try simp at h9); omega)); (first | (have HB := Lib.hid (bnext HB.out hb)) | (have HB := Lib.hid (bnext1 HB.out hb))); clear hb) | (go_at_call 13; refine (zat_any _ _ _ _ _ _ _ _ _ _ _ ).mono ?_; rintro e wn ⟨he, hb⟩; simp [atOf] at he; subst he; obtain ⟨hc, hf⟩ := bcell hb; (have lp : p < wn.heap.size := by (have h9 := hb.size; (try simp at h9); omega)); (have lq : q < wn.heap.size := by (have h9 := hb.size; (try simp at h9); omega)); (have lr : r < wn.heap.size := by (have h9 := hb.size; (try simp at h9); omega)); (first | (have HB := Lib.hid (bnext HB.out hb)) | (have HB := Lib.hid (bnext1 HB.out hb))); clear hb))
          all_goals go_ret
          all_goals exact ⟨rfl, HB.out⟩
        · obtain ⟨rfl, rfl, rfl, rfl, rfl, rfl, rfl, rfl, rfl, rfl, rfl⟩ : u10 = .nilIface ∧ hp = hpb ∧ pt = ptb ∧ sf = sfb ∧ pf = pfb ∧ ta = tab ∧ ht = true ∧ an = ana ∧ aa = aaa ∧ nd = nda ∧ ha = false := ZS.no HZ.out rfl
          clear HZ
          go_wp2_with (first | (go_at_call 10; refine (sameTag_yes _ _ _ _ _ _ _ _ _ _ _ _ _ _ _ _ _ (by intro h; simp [textOf, h])).mono ?_; rintro e wn ⟨rfl, hb⟩; obtain ⟨hc, hf⟩ := bcell hb; (have lp : p < wn.heap.size := by (have h9 := hb.size; (try simp at h9); omega)); (have lq : q < wn.heap.size := by (have h9 := hb.size; (try simp at h9); omega)); (have lr : r < wn.heap.size := by (have h9 := hb.size; (try simp at h9); omega)); (first | (have HB := Lib.hid (bnext HB.out hb)) | (have HB := Lib.hid (bnext1 HB.out hb))); clear hb) | (go_at_call 11; refine (sameAnchor_yes _ _ _ _ _ _ _ _ _ _ _ _ _ _ _ _ _ _ (by first | exact HNA.out | exact HNB.out)).mono ?_; rintro e wn ⟨rfl, hb⟩; obtain ⟨hc, hf⟩ := bcell hb; (have lp : p < wn.heap.size := by (have h9 := hb.size; (try simp at h9); omega)); (have lq : q < wn.heap.size := by (have h9 := hb.size; (try simp at h9); omega)); (have lr : r < wn.heap.size := by (have h9 := hb.size; (try simp at h9); omega)); (first | (have HB := Lib.hid (bnext HB.out hb)) | (have HB := Lib.hid (bnext1 HB.out hb))); clear hb) | (go_at_call 12; refine (zset_any _ _ _ _ _ _ _ _ _ _ _ ).mono ?_; rintro e wn ⟨rfl, hb⟩; obtain ⟨hc, hf⟩ := bcell hb; (have lp : p < wn.heap.size := by (have h9 := hb.size; (try simp at h9); omega)); (have lq : q < wn.heap.size := by (have h9 := hb.size; (try simp at h9); omega)); (have lr : r < wn.heap.size := by (have h9 := hb.size; (try simp at h9); omega)); (first | (have HB := Lib.hid (bnext HB.out hb)) | (have HB := Lib.hid (bnext1 HB.out hb))); clear hb) | (go_at_call 13; refine (zat_any _ _ _ _ _ _ _ _ _ _ _ ).mono ?_; rintro e wn ⟨he, hb⟩; simp [atOf] at he; subst he; obtain ⟨hc, hf⟩ := bcell hb; (have lp : p < wn.heap.size := by (have h9 := hb.size; (try simp at h9); omega)); (have lq : q < wn.heap.size := by (have h9 := hb.size; (try simp at h9); omega)); (have lr : r < wn.heap.size := by (have h9 := hb.size; (try simp at h9); omega)); (first | (have HB := Lib.hid (bnext HB.out hb)) | (have HB := Lib.hid (bnext1 HB.out hb))); clear hb))
          all_goals go_ret
          all_goals exact ⟨rfl, HB.out⟩
        · obtain ⟨rfl, rfl, rfl, rfl, rfl, rfl, rfl, rfl, rfl, rfl, rfl⟩ : u10 = .nilIface ∧ hp = hpb ∧ pt = ptb ∧ sf = sfb ∧ pf = pfb ∧ ta = tab ∧ ht = true ∧ an = anb ∧ aa = aab ∧ nd = ndb ∧ ha = true := ZS.no HZ.out rfl
          clear HZ
          go_wp2_with (first | (go_at_call 10; refine (sameTag_yes _ _ _ _ _ _ _ _ _ _ _ _ _ _ _ _ _ (by intro h; simp [textOf, h])).mono ?_; rintro e wn ⟨rfl, hb⟩; obtain ⟨hc, hf⟩ := bcell hb; (have lp : p < wn.heap.size := by (have h9 := hb.size; (try simp at h9); omega)); (have lq : q < wn.heap.size := by (have h9 := hb.size; (try simp at h9); omega)); (have lr : r < wn.heap.size := by (have h9 := hb.size; (try simp at h9); omega)); (first | (have HB := Lib.hid (bnext HB.out hb)) | (have HB := Lib.hid (bnext1 HB.out hb))); clear hb) | (go_at_call 11; refine (sameAnchor_yes _ _ _ _ _ _ _ _ _ _ _ _ _ _ _ _ _ _ (by first | exact HNA.out | exact HNB.out)).mono ?_; rintro e wn ⟨rfl, hb⟩; obtain ⟨hc, hf⟩ := bcell hb; (have lp : p < wn.heap.size := by (have h9 := hb.size; (try simp at h9); omega)); (have lq : q < wn.heap.size := by (have h9 := hb.size; (try simp at h9); omega)); (have lr : r < wn.heap.size := by (have h9 := hb.size; (try simp at h9); omega)); (first | (have HB := Lib.hid (bnext HB.out hb)) | (have HB := Lib.hid (bnext1 HB.out hb))); clear hb) | (go_at_call 12; refine (zset_any _ _ _ _ _ _ _ _ _ _ _ ).mono ?_; rintro e wn ⟨rfl, hb⟩; obtain ⟨hc, hf⟩ := bcell hb; (have lp : p < wn.heap.size := by (have h9 := hb.size; (try simp at h9); omega)); (have lq : q < wn.heap.size := by (have h9 := hb.size; (try simp at h9); omega)); (have lr : r < wn.heap.size := by (have h9 := hb.size; (try simp at h9); omega)); (first | (have HB := Lib.hid (bnext HB.out hb)) | (have HB := Lib.hid (bnext1 HB.out hb))); clear hb) | (go_at_call 13; refine (zat_any _ _ _ _ _ _ _ _ _ _ _ ).mono ?_; rintro e wn ⟨he, hb⟩; simp [atOf] at he; subst he; obtain ⟨hc, hf⟩ := bcell hb; (have lp : p < wn.heap.size := by (have h9 := hb.size; (try simp at h9); omega)); (have lq : q < wn.heap.size := by (have h9 := hb.size; (try simp at h9); omega)); (have lr : r < wn.heap.size := by (have h9 := hb.size; (try simp at h9); omega)); (first | (have HB := Lib.hid (bnext HB.out hb)) | (have HB := Lib.hid (bnext1 HB.out hb))); clear hb))
          all_goals go_ret
          all_goals exact ⟨rfl, HB.out⟩
        · obtain ⟨rfl, rfl, rfl, rfl, rfl, rfl, rfl, rfl, rfl, rfl, rfl⟩ : u10 = .nilIface ∧ hp = hpa ∧ pt = pta ∧ sf = sfa ∧ pf = pfa ∧ ta = taa ∧ ht = false ∧ an = ana ∧ aa = aaa ∧ nd = nda ∧ ha = true := ZS.no HZ.out rfl
          clear HZ
          go_wp2_with (first | (go_at_call 10; refine (sameTag_yes _ _ _ _ _ _ _ _ _ _ _ _ _ _ _ _ _ (by intro h; simp [textOf, h])).mono ?_; rintro e wn ⟨rfl, hb⟩; obtain ⟨hc, hf⟩ := bcell hb; (have lp : p < wn.heap.size := by (have h9 := hb.size; (try simp at h9); omega)); (have lq : q < wn.heap.size := by (have h9 := hb.size; (try simp at h9); omega)); (have lr : r < wn.heap.size := by (have h9 := hb.size; (try simp at h9); omega)); (first | (have HB := Lib.hid (bnext HB.out hb)) | (have HB := Lib.hid (bnext1 HB.out hb))); clear hb) | (go_at_call 11; refine (sameAnchor_yes _ _ _ _ _ _ _ _ _ _ _ _ _ _ _ _ _ _ (by first | exact HNA.out | exact HNB.out)).mono ?_; rintro e wn ⟨rfl, hb⟩; obtain ⟨hc, hf⟩ := bcell hb; (have lp : p < wn.heap.size := by (have h9 := hb.size; (try simp at h9); omega)); (have lq : q < wn.heap.size := by (have h9 := hb.size; (try simp at h9); omega)); (have lr : r < wn.heap.size := by (have h9 := hb.size; (try simp at h9); omega)); (first | (have HB := Lib.hid (bnext HB.out hb)) | (have HB := Lib.hid (bnext1 HB.out hb))); clear hb) | (go_at_call 12; refine (zset_any _ _ _ _ _ _ _ _ _ _ _ ).mono ?_; rintro e wn ⟨rfl, hb⟩; obtain ⟨hc, hf⟩ := bcell hb; (have lp : p < wn.heap.size := by (have h9 := hb.size; (try simp at h9); omega)); (have lq : q < wn.heap.size := by (have h9 := hb.size; (try simp at h9); omega)); (have lr : r < wn.heap.size := by (have h9 := hb.size; (try simp at h9); omega)); (first | (have HB := Lib.hid (bnext HB.out hb)) | (have HB := Lib.hid (bnext1 HB.out hb))); clear hb) | (go_at_call 13; refine (zat_any _ _ _ _ _ _ _ _ _ _ _ ).mono ?_; rintro e wn ⟨he, hb⟩; simp [atOf] at he; subst he; obtain ⟨hc, hf⟩ := bcell hb; (have lp : p < wn.heap.size := by (have h9 := hb.size; (try simp at h9); omega)); (have lq : q < wn.heap.size := by (have h9 := hb.size; (try simp at h9); omega)); (have lr : r < wn.heap.size := by (have h9 := hb.size; (try simp at h9); omega)); (first | (have HB := Lib.hid (bnext HB.out hb)) | (have HB := Lib.hid (bnext1 HB.out hb))); clear hb))
          all_goals go_ret
          all_goals exact ⟨rfl, HB.out⟩
        · obtain ⟨v, rfl⟩ := ZS.yes HZ.out rfl
          clear HZ HNA HNB
          go_wp2
          go_ret
          exact ⟨rfl, HB.out⟩
        · obtain ⟨rfl, rfl, rfl, rfl, rfl, rfl, rfl, rfl, rfl, rfl, rfl⟩ : u10 = .nilIface ∧ hp = hpb ∧ pt = ptb ∧ sf = sfb ∧ pf = pfb ∧ ta = tab ∧ ht = true ∧ an = ana ∧ aa = aaa ∧ nd = nda ∧ ha = true := ZS.no HZ.out rfl
          clear HZ
          go_wp2_with (first | (go_at_call 10; refine (sameTag_yes _ _ _ _ _ _ _ _ _ _ _ _ _ _ _ _ _ (by intro h; simp [textOf, h])).mono ?_; rintro e wn ⟨rfl, hb⟩; obtain ⟨hc, hf⟩ := bcell hb; (have lp : p < wn.heap.size := by (have h9 := hb.size; (try simp at h9); omega)); (have lq : q < wn.heap.size := by (have h9 := hb.size; (try simp at h9); omega)); (have lr : r < wn.heap.size := by (have h9 := hb.size; (try simp at h9); omega)); (first | (have HB := Lib.hid (bnext HB.out hb)) | (have HB := Lib.hid (bnext1 HB.out hb))); clear hb) | (go_at_call 11; refine (sameAnchor_yes _ _ _ _ _ _ _ _ _ _ _ _ _ _ _ _ _ _ (by first | exact HNA.out | exact HNB.out)).mono ?_; rintro e wn ⟨rfl, hb⟩; obtain ⟨hc, hf⟩ := bcell hb; (have lp : p < wn.heap.size := by (have h9 := hb.size; (try simp at h9); omega)); (have lq : q < wn.heap.size := by (have h9 := hb.size; (try simp at h9); omega)); (have lr : r < wn.heap.size := by (have h9 := hb.size; (try simp at h9); omega)); (first | (have HB := Lib.hid (bnext HB.out hb)) | (have HB := Lib.hid (bnext1 HB.out hb))); clear hb) | (go_at_call 12; refine (zset_any _ _ _ _ _ _ _ _ _ _ _ ).mono ?_; rintro e wn ⟨rfl, hb⟩; obtain ⟨hc, hf⟩ := bcell hb; (have lp : p < wn.heap.size := by (have h9 := hb.size; (try simp at h9); omega)); (have lq : q < wn.heap.size := by (have h9 := hb.size; (try simp at h9); omega)); (have lr : r < wn.heap.size := by (have h9 := hb.size; (try simp at h9); omega)); (first | (have HB := Lib.hid (bnext HB.out hb)) | (have HB := Lib.hid (bnext1 HB.out hb))); clear hb) | (go_at_call 13; refine (zat_any _ _ _ _ _ _ _ _ _ _ _ ).mono ?_; rintro e wn ⟨he, hb⟩; simp [atOf] at he; subst he; obtain ⟨hc, hf⟩ := bcell hb; (have lp : p < wn.heap.size := by (have h9 := hb.size; (try simp at h9); omega)); (have lq : q < wn.heap.size := by (have h9 := hb.size; (try simp at h9); omega)); (have lr : r < wn.heap.size := by (have h9 := hb.size; (try simp at h9); omega)); (first | (have HB := Lib.hid (bnext HB.out hb)) | (have HB := Lib.hid (bnext1 HB.out hb))); clear hb))
          all_goals go_ret
          all_goals exact ⟨rfl, HB.out⟩
        · obtain ⟨v, rfl⟩ := ZS.yes HZ.out rfl
          clear HZ HNA HNB
          go_wp2
          go_ret
          exact ⟨rfl, HB.out⟩
        · obtain ⟨rfl, rfl, rfl, rfl, rfl, rfl, rfl, rfl, rfl, rfl, rfl⟩ : u10 = .nilIface ∧ hp = hpa ∧ pt = pta ∧ sf = sfa ∧ pf = pfa ∧ ta = taa ∧ ht = true ∧ an = ana ∧ aa = aaa ∧ nd = nda ∧ ha = false := ZS.no HZ.out rfl
          clear HZ
          go_wp2_with (first | (go_at_call 10; refine (sameTag_yes _ _ _ _ _ _ _ _ _ _ _ _ _ _ _ _ _ (by intro h; simp [textOf, h])).mono ?_; rintro e wn ⟨rfl, hb⟩; obtain ⟨hc, hf⟩ := bcell hb; (have lp : p < wn.heap.size := by (have h9 := hb.size; (try simp at h9); omega)); (have lq : q < wn.heap.size := by (have h9 := hb.size; (try simp at h9); omega)); (have lr : r < wn.heap.size := by (have h9 := hb.size; (try simp at h9); omega)); (first | (have HB := Lib.hid (bnext HB.out hb)) | (have HB := Lib.hid (bnext1 HB.out hb))); clear hb) | (go_at_call 11; refine (sameAnchor_yes _ _ _ _ _ _ _ _ _ _ _ _ _ _ _ _ _ _ (by first | exact HNA.out | exact HNB.out)).mono ?_; rintro e wn ⟨rfl, hb⟩; obtain ⟨hc, hf⟩ := bcell hb; (have lp : p < wn.heap.size := by (have h9 := hb.size; (try simp at h9); omega)); (have lq : q < wn.heap.size := by (have h9 := hb.size; (try simp at h9); omega)); (have lr : r < wn.heap.size := by (have h9 := hb.size; (try simp at h9); omega)); (first | (have HB := Lib.hid (bnext HB.out hb)) | (have HB := Lib.hid (bnext1 HB.out hb))); clear hb) | (go_at_call 12; refine (zset_any _ _ _ _ _ _ _ _ _ _ _ ).mono ?_; rintro e wn ⟨rfl, hb⟩; obtain ⟨hc, hf⟩ := bcell hb; (have lp : p < wn.heap.size := by (have h9 := hb.size; (try simp at h9); omega)); (have lq : q < wn.heap.size := by (have h9 := hb.size; (try simp at h9); omega)); (have lr : r < wn.heap.size := by (have h9 := hb.size; (try simp at h9); omega)); (first | (have HB := Lib.hid (bnext HB.out hb)) | (have HB := Lib.hid (bnext1 HB.out hb))); clear hb) | (go_at_call 13; refine (zat_any _ _ _ _ _ _ _ _ _ _ _ ).mono ?_; rintro e wn ⟨he, hb⟩; simp [atOf] at he; subst he; obtain ⟨hc, hf⟩ := bcell hb; (have lp : p < wn.heap.size := by (have h9 := hb.size; (try simp at h9); omega)); (have lq : q < wn.heap.size := by (have h9 := hb.size; (try simp at h9); omega)); (have lr : r < wn.heap.size := by (have h9 := hb.size; (try simp at h9); omega)); (first | (have HB := Lib.hid (bnext HB.out hb)) | (have HB := Lib.hid (bnext1 HB.out hb))); clear hb))
          all_goals go_ret
          all_goals exact ⟨rfl, HB.out⟩
        · obtain ⟨rfl, rfl, rfl, rfl, rfl, rfl, rfl, rfl, rfl, rfl, rfl⟩ : u10 = .nilIface ∧ hp = hpa ∧ pt = pta ∧ sf = sfa ∧ pf = pfa ∧ ta = taa ∧ ht = true ∧ an = anb ∧ aa = aab ∧ nd = ndb ∧ ha = true := ZS.no HZ.out rfl
          clear HZ
          go_wp2_with (first | (go_at_call 10; refine (sameTag_yes _ _ _ _ _ _ _ _ _ _ _ _ _ _ _ _ _ (by intro h; simp [textOf, h])).mono ?_; rintro e wn ⟨rfl, hb⟩; obtain ⟨hc, hf⟩ := bcell hb; (have lp : p < wn.heap.size := by (have h9 := hb.size; (try simp at h9); omega)); (have lq : q < wn.heap.size := by (have h9 := hb.size; (try simp at h9); omega)); (have lr : r < wn.heap.size := by (have h9 := hb.size; (try simp at h9); omega)); (first | (have HB := Lib.hid (bnext HB.out hb)) | (have HB := Lib.hid (bnext1 HB.out hb))); clear hb) | (go_at_call 11; refine (sameAnchor_yes _ _ _ _ _ _ _ _ _ _ _ _ _ _ _ _ _ _ (by first | exact HNA.out | exact HNB.out)).mono ?_; rintro e wn ⟨rfl, hb⟩; obtain ⟨hc, hf⟩ := bcell hb; (have lp : p < wn.heap.size := by (have h9 := hb.size; (try simp at h9); omega)); (have lq : q < wn.heap.size := by (have h9 := hb.size; (try simp at h9); omega)); (have lr : r < wn.heap.size := by (have h9 := hb.size; (try simp at h9); omega)); (first | (have HB := Lib.hid (bnext HB.out hb)) | (have HB := Lib.hid (bnext1 HB.out hb))); clear hb) | (go_at_call 12; refine (zset_any _ _ _ _ _ _ _ _ _ _ _ ).mono ?_; rintro e wn ⟨rfl, hb⟩; obtain ⟨hc, hf⟩ := bcell hb; (have lp : p < wn.heap.size := by (have h9 := hb.size; (try simp at h9); omega)); (have lq : q < wn.heap.size := by (have h9 := hb.size; (try simp at h9); omega)); (have lr : r < wn.heap.size := by (have h9 := hb.size; (try simp at h9); omega)); (first | (have HB := Lib.hid (bnext HB.out hb)) | (have HB := Lib.hid (bnext1 HB.out hb))); clear hb) | (go_at_call 13; refine (zat_any _ _ _ _ _ _ _ _ _ _ _ ).mono ?_; rintro e wn ⟨he, hb⟩; simp [atOf] at he; subst he; obtain ⟨hc, hf⟩ := bcell hb; (have lp : p < wn.heap.size := by (have h9 := hb.size; (try simp at h9); omega)); (have lq : q < wn.heap.size := by (have h9 := hb.size; (try simp at h9); omega)); (have lr : r < wn.heap.size := by (have h9 := hb.size; (try simp at h9); omega)); (first | (have HB := Lib.hid (bnext HB.out hb)) | (have HB := Lib.hid (bnext1 HB.out hb))); clear hb))
          all_goals go_ret
          all_goals exact ⟨rfl, HB.out⟩
        · obtain ⟨v, rfl⟩ := ZS.yes HZ.out rfl
          clear HZ HNA HNB
          go_wp2
          go_ret
          exact ⟨rfl, HB.out⟩
        · obtain ⟨v, rfl⟩ := ZS.yes HZ.out rfl
          clear HZ HNA HNB
          go_wp2
          go_ret
          exact ⟨rfl, HB.out⟩
        · obtain ⟨rfl, rfl, rfl, rfl, rfl, rfl, rfl, rfl, rfl, rfl, rfl⟩ : u10 = .nilIface ∧ hp = hpa ∧ pt = pta ∧ sf = sfa ∧ pf = pfa ∧ ta = taa ∧ ht = true ∧ an = ana ∧ aa = aaa ∧ nd = nda ∧ ha = true := ZS.no HZ.out rfl
          clear HZ
          go_wp2_with (first | (go_at_call 10; refine (sameTag_yes _ _ _ _ _ _ _ _ _ _ _ _ _ _ _ _ _ (by intro h; simp [textOf, h])).mono ?_; rintro e wn ⟨rfl, hb⟩; obtain ⟨hc, hf⟩ := bcell hb; (have lp : p < wn.heap.size := by (have h9 := hb.size; (try simp at h9); omega)); (have lq : q < wn.heap.size := by (have h9 := hb.size; (try simp at h9); omega)); (have lr : r < wn.heap.size := by (have h9 := hb.size; (try simp at h9); omega)); (first | (have HB := Lib.hid (bnext HB.out hb)) | (have HB := Lib.hid (bnext1 HB.out hb))); clear hb) | (go_at_call 11; refine (sameAnchor_yes _ _ _ _ _ _ _ _ _ _ _ _ _ _ _ _ _ _ (by first | exact HNA.out | exact HNB.out)).mono ?_; rintro e wn ⟨rfl, hb⟩; obtain ⟨hc, hf⟩ := bcell hb; (have lp : p < wn.heap.size := by (have h9 := hb.size; (try simp at h9); omega)); (have lq : q < wn.heap.size := by (have h9 := hb.size; (try simp at h9); omega)); (have lr : r < wn.heap.size := by (have h9 := hb.size; (try simp at h9); omega)); (first | (have HB := Lib.hid (bnext HB.out hb)) | (have HB := Lib.hid (bnext1 HB.out hb))); clear hb) | (go_at_call 12; refine (zset_any _ _ _ _ _ _ _ _ _ _ _ ).mono ?_; rintro e wn ⟨rfl, hb⟩; obtain ⟨hc, hf⟩ := bcell hb; (have lp : p < wn.heap.size := by (have h9 := hb.size; (try simp at h9); omega)); (have lq : q < wn.heap.size := by (have h9 := hb.size; (try simp at h9); omega)); (have lr : r < wn.heap.size := by (have h9 := hb.size; (try simp at h9); omega)); (first | (have HB := Lib.hid (bnext HB.out hb)) | (have HB := Lib.hid (bnext1 HB.out hb))); clear hb) | (go_at_call 13; refine (zat_any _ _ _ _ _ _ _ _ _ _ _ ).mono ?_; rintro e wn ⟨he, hb⟩; simp [atOf] at he; subst he; obtain ⟨hc, hf⟩ := bcell hb; (have lp : p < wn.heap.size := by (have h9 := hb.size; (try simp at h9); omega)); (have lq : q < wn.heap.size := by (have h9 := hb.size; (try simp at h9); omega)); (have lr : r < wn.heap.size := by (have h9 := hb.size; (try simp at h9); omega)); (first | (have HB := Lib.hid (bnext HB.out hb)) | (have HB := Lib.hid (bnext1 HB.out hb))); clear hb))
          all_goals go_ret
          all_goals exact ⟨rfl, HB.out⟩
        · obtain ⟨v, rfl⟩ := ZS.yes HZ.out rfl
          clear HZ HNA HNB
          go_wp2
          go_ret
          exact ⟨rfl, HB.out⟩
        · obtain ⟨v, rfl⟩ := ZS.yes HZ.out rfl
          clear HZ HNA HNB
          go_wp2
          go_ret
          exact ⟨rfl, HB.out⟩
        · obtain ⟨v, rfl⟩ := ZS.yes HZ.out rfl
          clear HZ HNA HNB
          go_wp2
          go_ret
          exact ⟨rfl, HB.out⟩



end Go.Proofs.Qxb6002399a
