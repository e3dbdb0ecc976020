/-
  merge and ZZMerge, one contract each for every input: what comes back is told by the words 'MS', 'ZS'.
-/
import Derived.Test.Qxb6002399aMerge
import Derived.Deep.RegionWith
namespace Go.Proofs.Qxb6002399a
open Go.RowKit
set_option linter.unusedVariables false

/-- Both sides give a tag, or both an anchor. -/
def clash (hta haa htb hab : Bool) : Bool := (hta && htb) || (haa && hab)
/-- What merge gives. -/
def MS (hta haa htb hab : Bool) (taa aaa pfa tab aab pfb : Int) (sfa ana sfb anb : ByteArray) (ppa nda ppb ndb : Option Addr) (ht ha : Bool) (ta aa pf : Int) (sf an : ByteArray) (pp nd : Option Addr) (err : Value) : Prop :=
  (clash hta haa htb hab = true ∧ pp = none ∧ ∃ v, err = .iface 55 v) ∨
  (clash hta haa htb hab = false ∧ err = .nilIface ∧ pp = (if htb then ppb else ppa) ∧ sf = (if htb then sfb else sfa) ∧ pf = (if htb then pfb else pfa) ∧ ta = (if htb then tab else taa) ∧ ht = (hta || htb) ∧
    an = (if hab then anb else ana) ∧ aa = (if hab then aab else aaa) ∧ nd = (if hab then ndb else nda) ∧ ha = (haa || hab))

theorem merge_any (hta haa htb hab : Bool) (taa aaa pfa tab aab pfb : Int) (sfa ana sfb anb : ByteArray) (ppa nda ppb ndb : Option Addr) (w : World) :
    Calls Try.prog 17 #[.agg #[.pointer ppa, .string sfa, .int .i32 pfa, .string ana, .bool hta, .bool haa, .int .i64 taa, .int .i64 aaa, .pointer nda], .agg #[.pointer ppb, .string sfb, .int .i32 pfb, .string anb, .bool htb, .bool hab, .int .i64 tab, .int .i64 aab, .pointer ndb]] w
      fun e w' => ∃ (ht ha : Bool) (ta aa pf : Int) (sf an : ByteArray) (pp nd : Option Addr) (err : Value), e = .returned (.tuple #[.agg #[.pointer pp, .string sf, .int .i32 pf, .string an, .bool ht, .bool ha, .int .i64 ta, .int .i64 aa, .pointer nd], err]) ∧
        Hid (MS hta haa htb hab taa aaa pfa tab aab pfb sfa ana sfb anb ppa nda ppb ndb ht ha ta aa pf sf an pp nd err) ∧ Below w.heap.size w w' := by
  cases htb with
  | false =>
    cases hab with
    | false =>
      refine (merge_00 hta haa taa aaa pfa tab aab pfb sfa ana sfb anb ppa nda ppb ndb w).mono fun e w' ⟨he, hb⟩ => ?_
      exact ⟨_, _, _, _, _, _, _, _, _, _, he, .inr ⟨by simp [clash], rfl, by simp⟩, hb⟩
    | true =>
      cases haa with
      | false =>
        refine (merge_01 hta taa aaa pfa tab aab pfb sfa ana sfb anb ppa nda ppb ndb w).mono fun e w' ⟨he, hb⟩ => ?_
        exact ⟨_, _, _, _, _, _, _, _, _, _, he, .inr ⟨by simp [clash], rfl, by simp⟩, hb⟩
      | true =>
        refine (merge_errA0 hta taa aaa pfa tab aab pfb sfa ana sfb anb ppa nda ppb ndb w).mono fun e w' ⟨v, he, hb⟩ => ?_
        exact ⟨_, _, _, _, _, _, _, _, _, _, he, .inl ⟨by simp [clash], rfl, v, rfl⟩, hb⟩
  | true =>
    cases hta with
    | true =>
      refine (merge_errT haa hab taa aaa pfa tab aab pfb sfa ana sfb anb ppa nda ppb ndb w).mono fun e w' ⟨v, he, hb⟩ => ?_
      exact ⟨_, _, _, _, _, _, _, _, _, _, he, .inl ⟨by simp [clash], rfl, v, rfl⟩, hb⟩
    | false =>
      cases hab with
      | false =>
        refine (merge_10 haa taa aaa pfa tab aab pfb sfa ana sfb anb ppa nda ppb ndb w).mono fun e w' ⟨he, hb⟩ => ?_
        exact ⟨_, _, _, _, _, _, _, _, _, _, he, .inr ⟨by simp [clash], rfl, by simp⟩, hb⟩
      | true =>
        cases haa with
        | false =>
          refine (merge_11 taa aaa pfa tab aab pfb sfa ana sfb anb ppa nda ppb ndb w).mono fun e w' ⟨he, hb⟩ => ?_
          exact ⟨_, _, _, _, _, _, _, _, _, _, he, .inr ⟨by simp [clash], rfl, by simp⟩, hb⟩
        | true =>
          refine (merge_errA1 taa aaa pfa tab aab pfb sfa ana sfb anb ppa nda ppb ndb w).mono fun e w' ⟨v, he, hb⟩ => ?_
          exact ⟨_, _, _, _, _, _, _, _, _, _, he, .inl ⟨by simp [clash], rfl, v, rfl⟩, hb⟩

/-- What ZZMerge gives. -/
def ZS (hta haa htb hab hpa hpb : Bool) (taa aaa pfa tab aab pfb : Int) (sfa pta ana sfb ptb anb : ByteArray) (nda ndb : Option Addr) (ht ha hp : Bool) (ta aa pf : Int) (sf pt an : ByteArray) (nd : Option Addr) (err : Value) : Prop :=
  (clash hta haa htb hab = true ∧ ∃ v, err = .iface 55 v) ∨
  (clash hta haa htb hab = false ∧ err = .nilIface ∧ hp = (if htb then hpb else hpa) ∧ pt = (if htb then ptb else pta) ∧ sf = (if htb then sfb else sfa) ∧ pf = (if htb then pfb else pfa) ∧ ta = (if htb then tab else taa) ∧ ht = (hta || htb) ∧
    an = (if hab then anb else ana) ∧ aa = (if hab then aab else aaa) ∧ nd = (if hab then ndb else nda) ∧ ha = (haa || hab))

theorem MS.pick {W : World} {hta haa htb hab hpa hpb ht ha : Bool} {taa aaa pfa tab aab pfb ta aa pf : Int} {sfa pta ana sfb ptb anb sf an : ByteArray} {ppa nda ppb ndb pp nd : Option Addr} {err : Value}
    (h : MS hta haa htb hab taa aaa pfa tab aab pfb sfa ana sfb anb ppa nda ppb ndb ht ha ta aa pf sf an pp nd err) (ha' : PP W hpa pta ppa) (hb' : PP W hpb ptb ppb) :
    ∃ hp pt, PP W hp pt pp ∧ ZS hta haa htb hab hpa hpb taa aaa pfa tab aab pfb sfa pta ana sfb ptb anb nda ndb ht ha hp ta aa pf sf pt an nd err := by
  rcases h with ⟨h1, h2, v, h3⟩ | ⟨h1, h2, h3, h4, h5, h6, h7, h8, h9, h10, h11⟩
  · exact ⟨false, ⟨#[]⟩, .inl ⟨rfl, h2⟩, .inl ⟨h1, v, h3⟩⟩
  · cases htb with
    | true => exact ⟨hpb, ptb, by rw [h3]; exact hb', .inr ⟨h1, h2, rfl, rfl, h4, h5, h6, h7, h8, h9, h10, h11⟩⟩
    | false => exact ⟨hpa, pta, by rw [h3]; exact ha', .inr ⟨h1, h2, rfl, rfl, h4, h5, h6, h7, h8, h9, h10, h11⟩⟩

/-- A store elsewhere leaves the prefix's text. -/
theorem PP.setCell {w : World} {hp : Bool} {pt : ByteArray} {pp : Option Addr} (h : PP w hp pt pp) {r o : Nat} (v : Value) (hr : ∀ s, w.cell? ⟨r, 0, none⟩ ≠ some (.string s)) : PP (w.setCell ⟨r, o, none⟩ v) hp pt pp := by
  rcases h with h | ⟨h1, k, h2, h3, h4⟩
  · exact .inl h
  · have hne : k ≠ r := fun e => by subst e; exact hr _ h4
    refine .inr ⟨h1, k, h2, by simpa [World.setCell] using h3, ?_⟩
    rw [World.cell?_of_block (w := w) (Below.heap_setCell w _ v k hne)]
    exact h4

theorem bcell {W w1 : World} (hb : Below W.heap.size W w1) : (∀ b o, b < W.heap.size → w1.cell? ⟨b, o, none⟩ = W.cell? ⟨b, o, none⟩) ∧ (∀ b o, b < W.heap.size → w1.frozen? ⟨b, o, none⟩ = W.frozen? ⟨b, o, none⟩) :=
  ⟨fun b o h => hb.cell (p := ⟨b, o, none⟩) h, fun b o h => hb.frozen (p := ⟨b, o, none⟩) h⟩
end Go.Proofs.Qxb6002399a
