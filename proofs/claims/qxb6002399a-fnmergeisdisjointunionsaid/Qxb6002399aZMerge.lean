/-
  ZZMerge, for every input.
-/
import Derived.Test.Qxb6002399aCut
namespace Go.Proofs.Qxb6002399a
open Go.RowKit
set_option linter.unusedVariables false

set_option maxHeartbeats 8000000 in
theorem zmerge_any (hta haa htb hab hpa hpb : Bool) (taa aaa pfa tab aab pfb : Int) (sfa pta ana sfb ptb anb : ByteArray) (nda ndb : Option Addr) (w : World) :
    Calls Try.prog 9 #[.agg #[.bool hta, .bool haa, .int .i64 taa, .int .i64 aaa, .string sfa, .bool hpa, .string pta, .int .i32 pfa, .string ana, .pointer nda], .agg #[.bool htb, .bool hab, .int .i64 tab, .int .i64 aab, .string sfb, .bool hpb, .string ptb, .int .i32 pfb, .string anb, .pointer ndb]] w
      fun e w' => ∃ (ht ha hp : Bool) (ta aa pf : Int) (sf pt an : ByteArray) (nd : Option Addr) (err : Value), e = .returned (.tuple #[.agg #[.bool ht, .bool ha, .int .i64 ta, .int .i64 aa, .string sf, .bool hp, .string (textOf hp pt), .int .i32 pf, .string an, .pointer nd], err]) ∧
        Hid (ZS hta haa htb hab hpa hpb taa aaa pfa tab aab pfb sfa pta ana sfb ptb anb nda ndb ht ha hp ta aa pf sf pt an nd err) ∧ Below w.heap.size w w' := by
  go_enter Try.func9, Try.ntmps9
  go_upto_region 1 with fail
  go_cut [6, 7] (fun s6 s7 wx => CutZ hta haa htb hab hpa hpb taa aaa pfa tab aab pfb sfa pta ana sfb ptb anb nda ndb w wx s6 s7)
  case first =>
    go_region_with (first | (go_at_call_of 18 (Value.string sfa); refine (toProps_any hpa hta haa taa aaa pfa sfa pta ana nda _).mono ?_; rintro e wa ⟨ppa, rfl, hppa, hba⟩; obtain ⟨hca, hfa⟩ := bcell hba; (first | (have za0 : w.heap.size < wa.heap.size := by (have h9 := hba.size; (try simp at h9); omega)) | skip); (first | (have za1 : w.heap.size + 1 < wa.heap.size := by (have h9 := hba.size; (try simp at h9); omega)) | skip); (first | (have za2 : w.heap.size + 1 + 1 < wa.heap.size := by (have h9 := hba.size; (try simp at h9); omega)) | skip); (first | (have za3 : w.heap.size + 1 + 1 + 1 < wa.heap.size := by (have h9 := hba.size; (try simp at h9); omega)) | skip); replace hppa := Lib.hid hppa; replace hba := Lib.hid hba) | (go_at_call_of 18 (Value.string sfb); refine (toProps_any hpb htb hab tab aab pfb sfb ptb anb ndb _).mono ?_; rintro e wb ⟨ppb, rfl, hppb, hbb⟩; obtain ⟨hcb, hfb⟩ := bcell hbb; (first | (have zb0 : w.heap.size < wb.heap.size := by (have h9 := hbb.size; (try simp at h9); omega)) | skip); (first | (have zb1 : w.heap.size + 1 < wb.heap.size := by (have h9 := hbb.size; (try simp at h9); omega)) | skip); (first | (have zb2 : w.heap.size + 1 + 1 < wb.heap.size := by (have h9 := hbb.size; (try simp at h9); omega)) | skip); (first | (have zb3 : w.heap.size + 1 + 1 + 1 < wb.heap.size := by (have h9 := hbb.size; (try simp at h9); omega)) | skip); (first | (have zb4 : wa.heap.size < wb.heap.size := by (have h9 := hbb.size; (try simp at h9); omega)) | skip); replace hppb := Lib.hid hppb; replace hbb := Lib.hid hbb) | (go_at_call 17; refine (merge_any hta haa htb hab taa aaa pfa tab aab pfb sfa ana sfb anb ppa nda ppb ndb _).mono ?_; rintro e wm ⟨ht, ha, ta, aa, pf, sf, an, pp, nd, err, rfl, hms, hbm⟩; obtain ⟨hcm, hfm⟩ := bcell hbm; (first | (have zm0 : w.heap.size < wm.heap.size := by (have h9 := hbm.size; (try simp at h9); omega)) | skip); (first | (have zm1 : w.heap.size + 1 < wm.heap.size := by (have h9 := hbm.size; (try simp at h9); omega)) | skip); (first | (have zm2 : w.heap.size + 1 + 1 < wm.heap.size := by (have h9 := hbm.size; (try simp at h9); omega)) | skip); (first | (have zm3 : w.heap.size + 1 + 1 + 1 < wm.heap.size := by (have h9 := hbm.size; (try simp at h9); omega)) | skip); (first | (have zm4 : wa.heap.size < wm.heap.size := by (have h9 := hbm.size; (try simp at h9); omega)) | skip); (first | (have zm5 : wb.heap.size < wm.heap.size := by (have h9 := hbm.size; (try simp at h9); omega)) | skip); replace hbm := Lib.hid hbm))
    all_goals (go_wp2_with fail)
    all_goals (go_meet)
    all_goals (first | with_reducible exact shape1 hba hbb hbm hms hppa hppb | with_reducible exact shape2 hba hbb hbm hms hppa hppb | with_reducible exact shape3 hba hbb hbm hms hppa hppb | with_reducible exact shape4 hba hbb hbm hms hppa hppb)
  case rest =>
    obtain ⟨k, ht, ha, hp, ta, aa, pf, sf, pt, an, pp, nd, rfl, ⟨r0, r1, r2, r3, r4, r5, r6, r7, r8⟩, ⟨o0, o1, o2, o3, o4, o5, o6, o7, o8, o9⟩, ⟨f0, f1, f2, f3, f4, f5, f6, f7, f8, f9⟩, hk, hk2, hk3, hpp, hzs, hbx⟩ := hcut
    have HZ := Lib.hid hzs
    have HB := Lib.hid hbx
    have HP := Lib.hid hpp
    clear hzs hbx hpp
    go_wp2_with (go_at_call 19; refine (fromProps_any hp pp ht ha ta aa pf sf pt an nd _ HP.out).mono ?_; rintro e wf ⟨rfl, hbf⟩; refine Hid.out ?_)
    refine Lib.hid ?_
    have HF := Lib.hid hbf
    obtain ⟨hcf, hff⟩ := bcell hbf
    have hs : w.heap.size + 1 + 1 < wf.heap.size := by have := hbf.size; omega
    clear hbf
    go_wp2
    refine bodyPost_ret (v := .tuple #[.agg #[.bool ht, .bool ha, .int .i64 ta, .int .i64 aa, .string sf, .bool hp, .string (textOf hp pt), .int .i32 pf, .string an, .pointer nd], u7]) (by simp [results, Try.results9, go_sem, hcf, hk3, o0, o1, o2, o3, o4, o5, o6, o7, o8, o9]) rfl ⟨ht, ha, hp, ta, aa, pf, sf, pt, an, nd, u7, rfl, HZ, ?_⟩
    have hle : w.heap.size ≤ w.heap.size + 1 + 1 := by omega
    have hw : Below w.heap.size w wf := HB.out.trans (HF.out.mono HB.out.size)
    exact (((((((((hw.setCell hle _).setCell hle _).setCell hle _).setCell hle _).setCell hle _).setCell hle _).setCell hle _).setCell hle _).setCell hle _).setCell hle _
end Go.Proofs.Qxb6002399a
