/-
  ZZMerge: what its first region leaves, in each of its orders.
-/
import Derived.Test.Qxb6002399aMS
import Derived.Deep.DeepCutAuto
namespace Go.Proofs.Qxb6002399a
open Go.RowKit
set_option linter.unusedVariables false

/-- A props value laid over a row. -/
theorem PP.set9 {w : World} {hp : Bool} {pt : ByteArray} {pp : Option Addr} (h : PP w hp pt pp) {r : Nat} (hr : w.cell? ⟨r, 0, none⟩ = some (.pointer none)) (v0 v1 v2 v3 v4 v5 v6 v7 v8 : Value) :
    PP (((((((((w.setCell ⟨r, 0, none⟩ v0).setCell ⟨r, 1, none⟩ v1).setCell ⟨r, 2, none⟩ v2).setCell ⟨r, 3, none⟩ v3).setCell ⟨r, 4, none⟩ v4).setCell ⟨r, 5, none⟩ v5).setCell ⟨r, 6, none⟩ v6).setCell ⟨r, 7, none⟩ v7).setCell ⟨r, 8, none⟩ v8) hp pt pp := by
  rcases h with h | ⟨h1, k, h2, h3, h4⟩
  · exact .inl h
  · have hne : k ≠ r := fun e => by subst e; rw [hr] at h4; cases h4
    have e : (((((((((w.setCell ⟨r, 0, none⟩ v0).setCell ⟨r, 1, none⟩ v1).setCell ⟨r, 2, none⟩ v2).setCell ⟨r, 3, none⟩ v3).setCell ⟨r, 4, none⟩ v4).setCell ⟨r, 5, none⟩ v5).setCell ⟨r, 6, none⟩ v6).setCell ⟨r, 7, none⟩ v7).setCell ⟨r, 8, none⟩ v8).heap[k]? = w.heap[k]? := by
      rw [Below.heap_setCell _ _ _ _ hne, Below.heap_setCell _ _ _ _ hne, Below.heap_setCell _ _ _ _ hne, Below.heap_setCell _ _ _ _ hne, Below.heap_setCell _ _ _ _ hne, Below.heap_setCell _ _ _ _ hne, Below.heap_setCell _ _ _ _ hne, Below.heap_setCell _ _ _ _ hne, Below.heap_setCell _ _ _ _ hne]
    refine .inr ⟨h1, k, h2, by simpa [World.setCell] using h3, ?_⟩
    rw [World.cell?_of_block (w := w) (a := ⟨k, 0, none⟩) e]
    exact h4
theorem below_set9 {B : Nat} {a w : World} (h : Below B a w) {r : Nat} (hr : B ≤ r) (v0 v1 v2 v3 v4 v5 v6 v7 v8 : Value) :
    Below B a (((((((((w.setCell ⟨r, 0, none⟩ v0).setCell ⟨r, 1, none⟩ v1).setCell ⟨r, 2, none⟩ v2).setCell ⟨r, 3, none⟩ v3).setCell ⟨r, 4, none⟩ v4).setCell ⟨r, 5, none⟩ v5).setCell ⟨r, 6, none⟩ v6).setCell ⟨r, 7, none⟩ v7).setCell ⟨r, 8, none⟩ v8) :=
  ((((((((h.setCell hr v0).setCell hr v1).setCell hr v2).setCell hr v3).setCell hr v4).setCell hr v5).setCell hr v6).setCell hr v7).setCell hr v8

/-- Where the region's ways meet: slot 6 leads to the merged properties, slot 7 holds the error. -/
def CutZ (hta haa htb hab hpa hpb : Bool) (taa aaa pfa tab aab pfb : Int) (sfa pta ana sfb ptb anb : ByteArray) (nda ndb : Option Addr) (w wx : World) (s6 s7 : Value) : Prop :=
  ∃ (k : Nat) (ht ha hp : Bool) (ta aa pf : Int) (sf pt an : ByteArray) (pp nd : Option Addr), s6 = .pointer (some ⟨k, 0, none⟩) ∧
    (wx.cell? ⟨k, 0, none⟩ = some (.pointer pp) ∧ wx.cell? ⟨k, 1, none⟩ = some (.string sf) ∧ wx.cell? ⟨k, 2, none⟩ = some (.int .i32 pf) ∧ wx.cell? ⟨k, 3, none⟩ = some (.string an) ∧ wx.cell? ⟨k, 4, none⟩ = some (.bool ht) ∧ wx.cell? ⟨k, 5, none⟩ = some (.bool ha) ∧ wx.cell? ⟨k, 6, none⟩ = some (.int .i64 ta) ∧ wx.cell? ⟨k, 7, none⟩ = some (.int .i64 aa) ∧ wx.cell? ⟨k, 8, none⟩ = some (.pointer nd)) ∧ (wx.cell? ⟨w.heap.size + 1 + 1, 0, none⟩ = some (.bool false) ∧ wx.cell? ⟨w.heap.size + 1 + 1, 1, none⟩ = some (.bool false) ∧ wx.cell? ⟨w.heap.size + 1 + 1, 2, none⟩ = some (.int .i64 0) ∧ wx.cell? ⟨w.heap.size + 1 + 1, 3, none⟩ = some (.int .i64 0) ∧ wx.cell? ⟨w.heap.size + 1 + 1, 4, none⟩ = some (.string ⟨#[]⟩) ∧ wx.cell? ⟨w.heap.size + 1 + 1, 5, none⟩ = some (.bool false) ∧ wx.cell? ⟨w.heap.size + 1 + 1, 6, none⟩ = some (.string ⟨#[]⟩) ∧ wx.cell? ⟨w.heap.size + 1 + 1, 7, none⟩ = some (.int .i32 0) ∧ wx.cell? ⟨w.heap.size + 1 + 1, 8, none⟩ = some (.string ⟨#[]⟩) ∧ wx.cell? ⟨w.heap.size + 1 + 1, 9, none⟩ = some (.pointer none)) ∧ (wx.frozen? ⟨w.heap.size + 1 + 1, 0, none⟩ = false ∧ wx.frozen? ⟨w.heap.size + 1 + 1, 1, none⟩ = false ∧ wx.frozen? ⟨w.heap.size + 1 + 1, 2, none⟩ = false ∧ wx.frozen? ⟨w.heap.size + 1 + 1, 3, none⟩ = false ∧ wx.frozen? ⟨w.heap.size + 1 + 1, 4, none⟩ = false ∧ wx.frozen? ⟨w.heap.size + 1 + 1, 5, none⟩ = false ∧ wx.frozen? ⟨w.heap.size + 1 + 1, 6, none⟩ = false ∧ wx.frozen? ⟨w.heap.size + 1 + 1, 7, none⟩ = false ∧ wx.frozen? ⟨w.heap.size + 1 + 1, 8, none⟩ = false ∧ wx.frozen? ⟨w.heap.size + 1 + 1, 9, none⟩ = false) ∧ k ≠ w.heap.size + 1 + 1 ∧ k < wx.heap.size ∧ w.heap.size + 1 + 1 < wx.heap.size ∧ PP wx hp pt pp ∧
    ZS hta haa htb hab hpa hpb taa aaa pfa tab aab pfb sfa pta ana sfb ptb anb nda ndb ht ha hp ta aa pf sf pt an nd s7 ∧ Below w.heap.size w wx


abbrev C37 : Obj := .cells #[.bool false, .bool false, .int .i64 0, .int .i64 0, .string ⟨#[]⟩, .bool false, .string ⟨#[]⟩, .int .i32 0, .string ⟨#[]⟩, .pointer none] 37
abbrev D48 : Obj := .cells #[.pointer none, .string ⟨#[]⟩, .int .i32 0, .string ⟨#[]⟩, .bool false, .bool false, .int .i64 0, .int .i64 0, .pointer none] 48

theorem cutA {hta haa htb hab hpa hpb : Bool} {taa aaa pfa tab aab pfb : Int} {sfa pta ana sfb ptb anb : ByteArray} {nda ndb ppa ppb : Option Addr} {w wm : World} {ht ha : Bool} {ta aa pf : Int} {sf an : ByteArray} {pp nd : Option Addr} {err : Value} (a b : Obj) (hr : w.heap.size + 1 + 1 < wm.heap.size)
    (hc : ∀ o, wm.cell? ⟨w.heap.size + 1 + 1, o, none⟩ = (((w.alloc a).alloc b).alloc C37).cell? ⟨w.heap.size + 1 + 1, o, none⟩) (hf : ∀ o, wm.frozen? ⟨w.heap.size + 1 + 1, o, none⟩ = (((w.alloc a).alloc b).alloc C37).frozen? ⟨w.heap.size + 1 + 1, o, none⟩)
    (hB : Below w.heap.size w wm) (hms : MS hta haa htb hab taa aaa pfa tab aab pfb sfa ana sfb anb ppa nda ppb ndb ht ha ta aa pf sf an pp nd err) (pa : PP wm hpa pta ppa) (pb : PP wm hpb ptb ppb) :
    CutZ hta haa htb hab hpa hpb taa aaa pfa tab aab pfb sfa pta ana sfb ptb anb nda ndb w (wm.alloc (.cells #[Value.pointer pp, Value.string sf, Value.int .i32 pf, Value.string an, Value.bool ht, Value.bool ha, Value.int .i64 ta, Value.int .i64 aa, Value.pointer nd] 48)) (.pointer (some ⟨wm.heap.size, 0, none⟩)) err := by
  obtain ⟨hp, pt, h1, h2⟩ := hms.pick pa pb
  refine ⟨wm.heap.size, ht, ha, hp, ta, aa, pf, sf, pt, an, pp, nd, rfl, ⟨by simp [go_sem], by simp [go_sem], by simp [go_sem], by simp [go_sem], by simp [go_sem], by simp [go_sem], by simp [go_sem], by simp [go_sem], by simp [go_sem]⟩, ⟨by (simp [go_sem, C37, hr, hc]), by (simp [go_sem, C37, hr, hc]), by (simp [go_sem, C37, hr, hc]), by (simp [go_sem, C37, hr, hc]), by (simp [go_sem, C37, hr, hc]), by (simp [go_sem, C37, hr, hc]), by (simp [go_sem, C37, hr, hc]), by (simp [go_sem, C37, hr, hc]), by (simp [go_sem, C37, hr, hc]), by (simp [go_sem, C37, hr, hc])⟩, ⟨by (simp [go_sem, C37, hr, hf]), by (simp [go_sem, C37, hr, hf]), by (simp [go_sem, C37, hr, hf]), by (simp [go_sem, C37, hr, hf]), by (simp [go_sem, C37, hr, hf]), by (simp [go_sem, C37, hr, hf]), by (simp [go_sem, C37, hr, hf]), by (simp [go_sem, C37, hr, hf]), by (simp [go_sem, C37, hr, hf]), by (simp [go_sem, C37, hr, hf])⟩, by omega, by simp, by simp; omega, h1.on (below1 _ _), h2, hB.alloc hB.size _⟩

theorem cutB {hta haa htb hab hpa hpb : Bool} {taa aaa pfa tab aab pfb : Int} {sfa pta ana sfb ptb anb : ByteArray} {nda ndb ppa ppb : Option Addr} {w wm : World} {ht ha : Bool} {ta aa pf : Int} {sf an : ByteArray} {pp nd : Option Addr} {err : Value} (a b : Obj) (hr : w.heap.size + 1 + 1 < wm.heap.size)
    (hc : ∀ o, wm.cell? ⟨w.heap.size + 1 + 1, o, none⟩ = (((w.alloc a).alloc b).alloc C37).cell? ⟨w.heap.size + 1 + 1, o, none⟩) (hf : ∀ o, wm.frozen? ⟨w.heap.size + 1 + 1, o, none⟩ = (((w.alloc a).alloc b).alloc C37).frozen? ⟨w.heap.size + 1 + 1, o, none⟩)
    (hB : Below w.heap.size w wm) (hms : MS hta haa htb hab taa aaa pfa tab aab pfb sfa ana sfb anb ppa nda ppb ndb ht ha ta aa pf sf an pp nd err) (pa : PP wm hpa pta ppa) (pb : PP wm hpb ptb ppb)
    {r : Nat} (hr1 : r ≠ w.heap.size + 1 + 1) (hr2 : w.heap.size ≤ r) (hr3 : r < wm.heap.size) (wd : World) (hd : wd.heap.size = r) (hcd : ∀ o, wm.cell? ⟨r, o, none⟩ = (wd.alloc D48).cell? ⟨r, o, none⟩) :
    CutZ hta haa htb hab hpa hpb taa aaa pfa tab aab pfb sfa pta ana sfb ptb anb nda ndb w (((((((((wm.setCell ⟨r, 0, none⟩ (Value.pointer pp)).setCell ⟨r, 1, none⟩ (Value.string sf)).setCell ⟨r, 2, none⟩ (Value.int .i32 pf)).setCell ⟨r, 3, none⟩ (Value.string an)).setCell ⟨r, 4, none⟩ (Value.bool ht)).setCell ⟨r, 5, none⟩ (Value.bool ha)).setCell ⟨r, 6, none⟩ (Value.int .i64 ta)).setCell ⟨r, 7, none⟩ (Value.int .i64 aa)).setCell ⟨r, 8, none⟩ (Value.pointer nd)) (.pointer (some ⟨r, 0, none⟩)) err := by
  obtain ⟨hp, pt, h1, h2⟩ := hms.pick pa pb
  subst hd
  refine ⟨wd.heap.size, ht, ha, hp, ta, aa, pf, sf, pt, an, pp, nd, rfl, ⟨by (simp [go_sem, D48, hcd]), by (simp [go_sem, D48, hcd]), by (simp [go_sem, D48, hcd]), by (simp [go_sem, D48, hcd]), by (simp [go_sem, D48, hcd]), by (simp [go_sem, D48, hcd]), by (simp [go_sem, D48, hcd]), by (simp [go_sem, D48, hcd]), by (simp [go_sem, D48, hcd])⟩, ⟨by (simp [go_sem, C37, hc]), by (simp [go_sem, C37, hc]), by (simp [go_sem, C37, hc]), by (simp [go_sem, C37, hc]), by (simp [go_sem, C37, hc]), by (simp [go_sem, C37, hc]), by (simp [go_sem, C37, hc]), by (simp [go_sem, C37, hc]), by (simp [go_sem, C37, hc]), by (simp [go_sem, C37, hc])⟩, ⟨by (simp [go_sem, C37, hf]), by (simp [go_sem, C37, hf]), by (simp [go_sem, C37, hf]), by (simp [go_sem, C37, hf]), by (simp [go_sem, C37, hf]), by (simp [go_sem, C37, hf]), by (simp [go_sem, C37, hf]), by (simp [go_sem, C37, hf]), by (simp [go_sem, C37, hf]), by (simp [go_sem, C37, hf])⟩, hr1, by simpa using hr3, by simpa using hr, h1.set9 (by simp [go_sem, D48, hcd]) _ _ _ _ _ _ _ _ _, h2, below_set9 hB hr2 _ _ _ _ _ _ _ _ _⟩

theorem shape1 {hta haa htb hab hpa hpb : Bool} {taa aaa pfa tab aab pfb : Int} {sfa pta ana sfb ptb anb : ByteArray} {nda ndb ppa ppb : Option Addr} {w wa wb wm : World} {ht ha : Bool} {ta aa pf : Int} {sf an : ByteArray} {pp nd : Option Addr} {err : Value} {a b : Obj} (hba : Hid (Below (((w.alloc a).alloc b).alloc C37).drew.heap.size (((w.alloc a).alloc b).alloc C37).drew wa)) (hbb : Hid (Below wa.heap.size wa wb)) (hbm : Hid (Below wb.heap.size wb wm)) (hms : Hid (MS hta haa htb hab taa aaa pfa tab aab pfb sfa ana sfb anb ppa nda ppb ndb ht ha ta aa pf sf an pp nd err)) (pa : Hid (PP wa hpa pta ppa)) (pb : Hid (PP wb hpb ptb ppb)) : CutZ hta haa htb hab hpa hpb taa aaa pfa tab aab pfb sfa pta ana sfb ptb anb nda ndb w (wm.alloc (.cells #[Value.pointer pp, Value.string sf, Value.int .i32 pf, Value.string an, Value.bool ht, Value.bool ha, Value.int .i64 ta, Value.int .i64 aa, Value.pointer nd] 48)) (.pointer (some ⟨wm.heap.size, 0, none⟩)) err := by
  have s3 := size3 w a b C37
  have hB0 := (below3 w a b C37).drew
  have hB1 := hB0.trans (hba.out.mono hB0.size)
  have t1 : w.heap.size + 1 + 1 < wa.heap.size := by have := hba.out.size; simp at this; omega
  have hA := hB1
  have hB2 := hA.trans (hbb.out.mono hA.size)
  have t2 : w.heap.size + 1 + 1 < wb.heap.size := by have := hbb.out.size; (try simp at this); omega
  have hB := hB2
  have hB3 := hB.trans (hbm.out.mono hB.size)
  have t3 : w.heap.size + 1 + 1 < wm.heap.size := by have := hbm.out.size; (try simp at this); omega
  have hc : ∀ o, wm.cell? ⟨w.heap.size + 1 + 1, o, none⟩ = (((w.alloc a).alloc b).alloc C37).cell? ⟨w.heap.size + 1 + 1, o, none⟩ := fun o => (((bcell hbm.out).1 _ o (by omega)).trans (((bcell hbb.out).1 _ o (by omega)).trans ((bcell hba.out).1 _ o (by simp))))
  have hf : ∀ o, wm.frozen? ⟨w.heap.size + 1 + 1, o, none⟩ = (((w.alloc a).alloc b).alloc C37).frozen? ⟨w.heap.size + 1 + 1, o, none⟩ := fun o => (((bcell hbm.out).2 _ o (by omega)).trans (((bcell hbb.out).2 _ o (by omega)).trans ((bcell hba.out).2 _ o (by simp))))
  exact cutA a b (by omega) hc hf hB3 hms.out ((pa.out.on hbb.out).on hbm.out) (pb.out.on hbm.out)

theorem shape2 {hta haa htb hab hpa hpb : Bool} {taa aaa pfa tab aab pfb : Int} {sfa pta ana sfb ptb anb : ByteArray} {nda ndb ppa ppb : Option Addr} {w wa wb wm : World} {ht ha : Bool} {ta aa pf : Int} {sf an : ByteArray} {pp nd : Option Addr} {err : Value} {a b : Obj} (hba : Hid (Below (((w.alloc a).alloc b).alloc C37).drew.heap.size (((w.alloc a).alloc b).alloc C37).drew wa)) (hbb : Hid (Below wa.heap.size wa wb)) (hbm : Hid (Below (wb.alloc D48).heap.size (wb.alloc D48) wm)) (hms : Hid (MS hta haa htb hab taa aaa pfa tab aab pfb sfa ana sfb anb ppa nda ppb ndb ht ha ta aa pf sf an pp nd err)) (pa : Hid (PP wa hpa pta ppa)) (pb : Hid (PP wb hpb ptb ppb)) : CutZ hta haa htb hab hpa hpb taa aaa pfa tab aab pfb sfa pta ana sfb ptb anb nda ndb w (((((((((wm.setCell ⟨wb.heap.size, 0, none⟩ (Value.pointer pp)).setCell ⟨wb.heap.size, 1, none⟩ (Value.string sf)).setCell ⟨wb.heap.size, 2, none⟩ (Value.int .i32 pf)).setCell ⟨wb.heap.size, 3, none⟩ (Value.string an)).setCell ⟨wb.heap.size, 4, none⟩ (Value.bool ht)).setCell ⟨wb.heap.size, 5, none⟩ (Value.bool ha)).setCell ⟨wb.heap.size, 6, none⟩ (Value.int .i64 ta)).setCell ⟨wb.heap.size, 7, none⟩ (Value.int .i64 aa)).setCell ⟨wb.heap.size, 8, none⟩ (Value.pointer nd)) (.pointer (some ⟨wb.heap.size, 0, none⟩)) err := by
  have s3 := size3 w a b C37
  have hB0 := (below3 w a b C37).drew
  have hB1 := hB0.trans (hba.out.mono hB0.size)
  have t1 : w.heap.size + 1 + 1 < wa.heap.size := by have := hba.out.size; simp at this; omega
  have hA := hB1
  have hB2 := hA.trans (hbb.out.mono hA.size)
  have t2 : w.heap.size + 1 + 1 < wb.heap.size := by have := hbb.out.size; (try simp at this); omega
  have hB := hB2.alloc hB2.size D48
  have hB3 := hB.trans (hbm.out.mono hB.size)
  have t3 : w.heap.size + 1 + 1 < wm.heap.size := by have := hbm.out.size; (try simp at this); omega
  have hc : ∀ o, wm.cell? ⟨w.heap.size + 1 + 1, o, none⟩ = (((w.alloc a).alloc b).alloc C37).cell? ⟨w.heap.size + 1 + 1, o, none⟩ := fun o => (((bcell hbm.out).1 _ o (by simp; omega)).trans ((show (wb.alloc D48).cell? _ = wb.cell? ⟨w.heap.size + 1 + 1, o, none⟩ from by simp [go_sem, t2]).trans (((bcell hbb.out).1 _ o (by omega)).trans ((bcell hba.out).1 _ o (by simp)))))
  have hf : ∀ o, wm.frozen? ⟨w.heap.size + 1 + 1, o, none⟩ = (((w.alloc a).alloc b).alloc C37).frozen? ⟨w.heap.size + 1 + 1, o, none⟩ := fun o => (((bcell hbm.out).2 _ o (by simp; omega)).trans ((show (wb.alloc D48).frozen? _ = wb.frozen? ⟨w.heap.size + 1 + 1, o, none⟩ from by simp [go_sem, t2]).trans (((bcell hbb.out).2 _ o (by omega)).trans ((bcell hba.out).2 _ o (by simp)))))
  exact cutB a b (by omega) hc hf hB3 hms.out (((pa.out.on hbb.out).on (below1 _ _)).on hbm.out) ((pb.out.on (below1 _ _)).on hbm.out) (r := wb.heap.size) (by omega) (by omega) (by (have := hbm.out.size; (try simp at this)); (have := hbb.out.size; (try simp at this)); omega) wb rfl (fun o => (bcell hbm.out).1 _ o (by simp))

theorem shape3 {hta haa htb hab hpa hpb : Bool} {taa aaa pfa tab aab pfb : Int} {sfa pta ana sfb ptb anb : ByteArray} {nda ndb ppa ppb : Option Addr} {w wa wb wm : World} {ht ha : Bool} {ta aa pf : Int} {sf an : ByteArray} {pp nd : Option Addr} {err : Value} {a b : Obj} (hba : Hid (Below (((w.alloc a).alloc b).alloc C37).drew.heap.size (((w.alloc a).alloc b).alloc C37).drew wa)) (hbb : Hid (Below (wa.alloc D48).heap.size (wa.alloc D48) wb)) (hbm : Hid (Below wb.heap.size wb wm)) (hms : Hid (MS hta haa htb hab taa aaa pfa tab aab pfb sfa ana sfb anb ppa nda ppb ndb ht ha ta aa pf sf an pp nd err)) (pa : Hid (PP wa hpa pta ppa)) (pb : Hid (PP wb hpb ptb ppb)) : CutZ hta haa htb hab hpa hpb taa aaa pfa tab aab pfb sfa pta ana sfb ptb anb nda ndb w (((((((((wm.setCell ⟨wa.heap.size, 0, none⟩ (Value.pointer pp)).setCell ⟨wa.heap.size, 1, none⟩ (Value.string sf)).setCell ⟨wa.heap.size, 2, none⟩ (Value.int .i32 pf)).setCell ⟨wa.heap.size, 3, none⟩ (Value.string an)).setCell ⟨wa.heap.size, 4, none⟩ (Value.bool ht)).setCell ⟨wa.heap.size, 5, none⟩ (Value.bool ha)).setCell ⟨wa.heap.size, 6, none⟩ (Value.int .i64 ta)).setCell ⟨wa.heap.size, 7, none⟩ (Value.int .i64 aa)).setCell ⟨wa.heap.size, 8, none⟩ (Value.pointer nd)) (.pointer (some ⟨wa.heap.size, 0, none⟩)) err := by
  have s3 := size3 w a b C37
  have hB0 := (below3 w a b C37).drew
  have hB1 := hB0.trans (hba.out.mono hB0.size)
  have t1 : w.heap.size + 1 + 1 < wa.heap.size := by have := hba.out.size; simp at this; omega
  have hA := hB1.alloc hB1.size D48
  have hB2 := hA.trans (hbb.out.mono hA.size)
  have t2 : w.heap.size + 1 + 1 < wb.heap.size := by have := hbb.out.size; (try simp at this); omega
  have hB := hB2
  have hB3 := hB.trans (hbm.out.mono hB.size)
  have t3 : w.heap.size + 1 + 1 < wm.heap.size := by have := hbm.out.size; (try simp at this); omega
  have hc : ∀ o, wm.cell? ⟨w.heap.size + 1 + 1, o, none⟩ = (((w.alloc a).alloc b).alloc C37).cell? ⟨w.heap.size + 1 + 1, o, none⟩ := fun o => (((bcell hbm.out).1 _ o (by omega)).trans (((bcell hbb.out).1 _ o (by simp; omega)).trans ((show (wa.alloc D48).cell? _ = wa.cell? ⟨w.heap.size + 1 + 1, o, none⟩ from by simp [go_sem, t1]).trans ((bcell hba.out).1 _ o (by simp)))))
  have hf : ∀ o, wm.frozen? ⟨w.heap.size + 1 + 1, o, none⟩ = (((w.alloc a).alloc b).alloc C37).frozen? ⟨w.heap.size + 1 + 1, o, none⟩ := fun o => (((bcell hbm.out).2 _ o (by omega)).trans (((bcell hbb.out).2 _ o (by simp; omega)).trans ((show (wa.alloc D48).frozen? _ = wa.frozen? ⟨w.heap.size + 1 + 1, o, none⟩ from by simp [go_sem, t1]).trans ((bcell hba.out).2 _ o (by simp)))))
  exact cutB a b (by omega) hc hf hB3 hms.out (((pa.out.on (below1 _ _)).on hbb.out).on hbm.out) (pb.out.on hbm.out) (r := wa.heap.size) (by omega) (by omega) (by (have := hbm.out.size; (try simp at this)); (have := hbb.out.size; (try simp at this)); omega) wa rfl (fun o => ((bcell hbm.out).1 _ o (by have := hbb.out.size; simp at this; omega)).trans ((bcell hbb.out).1 _ o (by simp)))

theorem shape4 {hta haa htb hab hpa hpb : Bool} {taa aaa pfa tab aab pfb : Int} {sfa pta ana sfb ptb anb : ByteArray} {nda ndb ppa ppb : Option Addr} {w wa wb wm : World} {ht ha : Bool} {ta aa pf : Int} {sf an : ByteArray} {pp nd : Option Addr} {err : Value} {a b : Obj} (hba : Hid (Below ((((w.alloc a).alloc b).alloc C37).alloc D48).drew.heap.size ((((w.alloc a).alloc b).alloc C37).alloc D48).drew wa)) (hbb : Hid (Below wa.heap.size wa wb)) (hbm : Hid (Below wb.heap.size wb wm)) (hms : Hid (MS hta haa htb hab taa aaa pfa tab aab pfb sfa ana sfb anb ppa nda ppb ndb ht ha ta aa pf sf an pp nd err)) (pa : Hid (PP wa hpa pta ppa)) (pb : Hid (PP wb hpb ptb ppb)) : CutZ hta haa htb hab hpa hpb taa aaa pfa tab aab pfb sfa pta ana sfb ptb anb nda ndb w (((((((((wm.setCell ⟨(w.heap.size + 1 + 1 + 1), 0, none⟩ (Value.pointer pp)).setCell ⟨(w.heap.size + 1 + 1 + 1), 1, none⟩ (Value.string sf)).setCell ⟨(w.heap.size + 1 + 1 + 1), 2, none⟩ (Value.int .i32 pf)).setCell ⟨(w.heap.size + 1 + 1 + 1), 3, none⟩ (Value.string an)).setCell ⟨(w.heap.size + 1 + 1 + 1), 4, none⟩ (Value.bool ht)).setCell ⟨(w.heap.size + 1 + 1 + 1), 5, none⟩ (Value.bool ha)).setCell ⟨(w.heap.size + 1 + 1 + 1), 6, none⟩ (Value.int .i64 ta)).setCell ⟨(w.heap.size + 1 + 1 + 1), 7, none⟩ (Value.int .i64 aa)).setCell ⟨(w.heap.size + 1 + 1 + 1), 8, none⟩ (Value.pointer nd)) (.pointer (some ⟨w.heap.size + 1 + 1 + 1, 0, none⟩)) err := by
  have s3 := size4 w a b C37 D48
  have hB0 := (below4 w a b C37 D48).drew
  have hB1 := hB0.trans (hba.out.mono hB0.size)
  have t1 : w.heap.size + 1 + 1 + 1 < wa.heap.size := by have := hba.out.size; simp at this; omega
  have hA := hB1
  have hB2 := hA.trans (hbb.out.mono hA.size)
  have t2 : w.heap.size + 1 + 1 + 1 < wb.heap.size := by have := hbb.out.size; (try simp at this); omega
  have hB := hB2
  have hB3 := hB.trans (hbm.out.mono hB.size)
  have t3 : w.heap.size + 1 + 1 + 1 < wm.heap.size := by have := hbm.out.size; (try simp at this); omega
  have hc : ∀ o, wm.cell? ⟨w.heap.size + 1 + 1, o, none⟩ = (((w.alloc a).alloc b).alloc C37).cell? ⟨w.heap.size + 1 + 1, o, none⟩ := fun o => (((bcell hbm.out).1 _ o (by omega)).trans (((bcell hbb.out).1 _ o (by omega)).trans (((bcell hba.out).1 _ o (by simp)).trans (by simp [go_sem]))))
  have hf : ∀ o, wm.frozen? ⟨w.heap.size + 1 + 1, o, none⟩ = (((w.alloc a).alloc b).alloc C37).frozen? ⟨w.heap.size + 1 + 1, o, none⟩ := fun o => (((bcell hbm.out).2 _ o (by omega)).trans (((bcell hbb.out).2 _ o (by omega)).trans (((bcell hba.out).2 _ o (by simp)).trans (by simp [go_sem]))))
  exact cutB a b (by omega) hc hf hB3 hms.out ((pa.out.on hbb.out).on hbm.out) (pb.out.on hbm.out) (r := w.heap.size + 1 + 1 + 1) (by omega) (by omega) (by (have := hbm.out.size; (try simp at this)); (have := hbb.out.size; (try simp at this)); omega) (((w.alloc a).alloc b).alloc C37) (size3 w a b C37) (fun o => ((bcell hbm.out).1 _ o (by omega)).trans (((bcell hbb.out).1 _ o (by omega)).trans ((bcell hba.out).1 _ o (by simp))))
end Go.Proofs.Qxb6002399a
