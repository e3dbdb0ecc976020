/-
  The law: words for her walk.
-/
import Derived.Test.Qxb6002399aCut
import Derived.Test.Qxb6002399aBytes
namespace Go.Proofs.Qxb6002399a
open Go.RowKit
set_option linter.unusedVariables false

theorem toZZ_some (wn : Bool) (ht ha hp : Bool) (ta aa pf : Int) (sf pt an : ByteArray) (k : Nat) (w : World) :
    Calls Try.prog 8 #[.agg #[.bool ht, .bool ha, .int .i64 ta, .int .i64 aa, .string sf, .bool hp, .string pt, .int .i32 pf, .string an, .bool wn], .pointer (some ⟨k, 0, none⟩)] w
      fun e w' => ∃ nd : Option Addr, e = .returned (.agg #[.bool ht, .bool ha, .int .i64 ta, .int .i64 aa, .string sf, .bool hp, .string pt, .int .i32 pf, .string an, .pointer nd]) ∧ Hid (nd = none ∨ ∃ k, nd = some ⟨k, 0, none⟩) ∧ Below w.heap.size w w' :=
  (toZZ_any wn ht ha hp ta aa pf sf pt an (some ⟨k, 0, none⟩) w).mono fun e w' h => ⟨_, h.1, by cases wn <;> simp [Hid], h.2⟩
theorem bcellD {W w1 : World} (hb : Below W.drew.heap.size W.drew w1) : (∀ b o, b < W.heap.size → w1.cell? ⟨b, o, none⟩ = W.cell? ⟨b, o, none⟩) ∧ (∀ b o, b < W.heap.size → w1.frozen? ⟨b, o, none⟩ = W.frozen? ⟨b, o, none⟩) := @bcell W.drew w1 hb

/-- A ZZProps lies in block b. -/
def Z10 (wx : World) (b : Nat) (ht ha : Bool) (ta aa : Int) (sf : ByteArray) (hp : Bool) (pt : ByteArray) (pf : Int) (an : ByteArray) (nd : Option Addr) : Prop :=
  wx.cell? ⟨b, 0, none⟩ = some (.bool ht) ∧ wx.cell? ⟨b, 1, none⟩ = some (.bool ha) ∧ wx.cell? ⟨b, 2, none⟩ = some (.int .i64 ta) ∧ wx.cell? ⟨b, 3, none⟩ = some (.int .i64 aa) ∧ wx.cell? ⟨b, 4, none⟩ = some (.string sf) ∧ wx.cell? ⟨b, 5, none⟩ = some (.bool hp) ∧ wx.cell? ⟨b, 6, none⟩ = some (.string pt) ∧ wx.cell? ⟨b, 7, none⟩ = some (.int .i32 pf) ∧ wx.cell? ⟨b, 8, none⟩ = some (.string an) ∧ wx.cell? ⟨b, 9, none⟩ = some (.pointer nd)
theorem Z10.set {w : World} {ht ha : Bool} {ta aa : Int} {sf : ByteArray} {hp : Bool} {pt : ByteArray} {pf : Int} {an : ByteArray} {nd : Option Addr} :
    Z10 (w.alloc (.cells #[.bool ht, .bool ha, .int .i64 ta, .int .i64 aa, .string sf, .bool hp, .string pt, .int .i32 pf, .string an, .pointer nd] 37)) w.heap.size ht ha ta aa sf hp pt pf an nd := by
  refine ⟨by simp [go_sem], by simp [go_sem], by simp [go_sem], by simp [go_sem], by simp [go_sem], by simp [go_sem], by simp [go_sem], by simp [go_sem], by simp [go_sem], by simp [go_sem]⟩
theorem Z10.on {w w' : World} {b : Nat} {ht ha : Bool} {ta aa : Int} {sf : ByteArray} {hp : Bool} {pt : ByteArray} {pf : Int} {an : ByteArray} {nd : Option Addr} (h : Z10 w b ht ha ta aa sf hp pt pf an nd) (hb : Below w.heap.size w w') (hl : b < w.heap.size) :
    Z10 w' b ht ha ta aa sf hp pt pf an nd := by
  obtain ⟨h0, h1, h2, h3, h4, h5, h6, h7, h8, h9⟩ := h
  have hc := (bcell hb).1
  exact ⟨(hc _ _ hl).trans h0, (hc _ _ hl).trans h1, (hc _ _ hl).trans h2, (hc _ _ hl).trans h3, (hc _ _ hl).trans h4, (hc _ _ hl).trans h5, (hc _ _ hl).trans h6, (hc _ _ hl).trans h7, (hc _ _ hl).trans h8, (hc _ _ hl).trans h9⟩

/-- The two arguments' flags. -/
def F4 (wx : World) (k : Nat) (hta haa htb hab : Bool) : Prop := wx.cell? ⟨k, 0, none⟩ = some (.bool hta) ∧ wx.cell? ⟨k, 1, none⟩ = some (.bool haa) ∧ wx.cell? ⟨k + 1, 0, none⟩ = some (.bool htb) ∧ wx.cell? ⟨k + 1, 1, none⟩ = some (.bool hab)
theorem F4.on {w w' : World} {k : Nat} {hta haa htb hab : Bool} (h : F4 w k hta haa htb hab) (hb : Below w.heap.size w w') (hl : k + 1 < w.heap.size) : F4 w' k hta haa htb hab := by
  obtain ⟨h0, h1, h2, h3⟩ := h
  have hc := (bcell hb).1
  exact ⟨(hc _ _ (by omega)).trans h0, (hc _ _ (by omega)).trans h1, (hc _ _ hl).trans h2, (hc _ _ hl).trans h3⟩

/-- What stands behind ZZMerge: slot 7 leads to za, slot 8 to zb, slot 9 to r, slot 10 holds the error. -/
def CutL (hta haa hpa htb hab hpb : Bool) (taa aaa pfa tab aab pfb : Int) (sfa pta ana sfb ptb anb : ByteArray) (w wx : World) (s7 s8 s9 s10 : Value) : Prop :=
  ∃ (p q r : Nat) (nda ndb nd : Option Addr) (ht ha hp : Bool) (ta aa pf : Int) (sf pt an : ByteArray), s7 = .pointer (some ⟨p, 0, none⟩) ∧ s8 = .pointer (some ⟨q, 0, none⟩) ∧ s9 = .pointer (some ⟨r, 0, none⟩) ∧
    F4 wx w.heap.size hta haa htb hab ∧ Z10 wx p hta haa taa aaa sfa hpa pta pfa ana nda ∧ Z10 wx q htb hab tab aab sfb hpb ptb pfb anb ndb ∧ Z10 wx r ht ha ta aa sf hp (textOf hp pt) pf an nd ∧
    (w.heap.size < wx.heap.size ∧ w.heap.size + 1 < wx.heap.size ∧ p < wx.heap.size ∧ q < wx.heap.size ∧ r < wx.heap.size) ∧
    ZS hta haa htb hab hpa hpb taa aaa pfa tab aab pfb sfa pta ana sfb ptb anb nda ndb ht ha hp ta aa pf sf pt an nd s10 ∧
    Hid (nda = none ∨ ∃ k, nda = some ⟨k, 0, none⟩) ∧ Hid (ndb = none ∨ ∃ k, ndb = some ⟨k, 0, none⟩) ∧ Below w.heap.size w wx

theorem ZS.no {hta haa htb hab hpa hpb : Bool} {taa aaa pfa tab aab pfb : Int} {sfa pta ana sfb ptb anb : ByteArray} {nda ndb : Option Addr} {ht ha hp : Bool} {ta aa pf : Int} {sf pt an : ByteArray} {nd : Option Addr} {err : Value}
    (h : ZS hta haa htb hab hpa hpb taa aaa pfa tab aab pfb sfa pta ana sfb ptb anb nda ndb ht ha hp ta aa pf sf pt an nd err) (hc : clash hta haa htb hab = false) :
    err = .nilIface ∧ hp = (if htb then hpb else hpa) ∧ pt = (if htb then ptb else pta) ∧ sf = (if htb then sfb else sfa) ∧ pf = (if htb then pfb else pfa) ∧ ta = (if htb then tab else taa) ∧ ht = (hta || htb) ∧
    an = (if hab then anb else ana) ∧ aa = (if hab then aab else aaa) ∧ nd = (if hab then ndb else nda) ∧ ha = (haa || hab) := by
  rcases h with ⟨h, _⟩ | ⟨_, h⟩
  · rw [hc] at h; cases h
  · exact h
theorem ZS.yes {hta haa htb hab hpa hpb : Bool} {taa aaa pfa tab aab pfb : Int} {sfa pta ana sfb ptb anb : ByteArray} {nda ndb : Option Addr} {ht ha hp : Bool} {ta aa pf : Int} {sf pt an : ByteArray} {nd : Option Addr} {err : Value}
    (h : ZS hta haa htb hab hpa hpb taa aaa pfa tab aab pfb sfa pta ana sfb ptb anb nda ndb ht ha hp ta aa pf sf pt an nd err) (hc : clash hta haa htb hab = true) : ∃ v, err = .iface 55 v := by
  rcases h with ⟨_, h⟩ | ⟨h, _⟩
  · exact h
  · rw [hc] at h; cases h

theorem bnext {w W w' : World} (h : Below w.heap.size w W) (hb : Below W.heap.size W w') : Below w.heap.size w w' := h.trans (hb.mono h.size)
theorem bnext1 {w W w' : World} {o : Obj} (h : Below w.heap.size w W) (hb : Below (W.alloc o).heap.size (W.alloc o) w') : Below w.heap.size w w' := bnext h (bnext (below1 W o) hb)
end Go.Proofs.Qxb6002399a
