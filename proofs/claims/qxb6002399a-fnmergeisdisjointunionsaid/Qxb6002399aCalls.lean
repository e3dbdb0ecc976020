/-
  The contracts of zzToProps, zzFromProps, set, at, ZZSet, ZZAt, toZZ, propsBytes.
-/
import Derived.Test.Qxb6002399aRows
import Derived.WalkKit
import Derived.Outline
import Derived.Below
import Derived.Lib.Hide
import Derived.LaidEqlPtr
namespace Go.Proofs.Qxb6002399a
open Go.RowKit
set_option linter.unusedVariables false

theorem below1 (w : World) (a : Obj) : Below w.heap.size w (w.alloc a) := (Below.refl _ _).alloc (Nat.le_refl _) _
theorem below2 (w : World) (a b : Obj) : Below w.heap.size w ((w.alloc a).alloc b) := (below1 w a).alloc (by simp) _
theorem below3 (w : World) (a b c : Obj) : Below w.heap.size w (((w.alloc a).alloc b).alloc c) := (below2 w a b).alloc (by simp; omega) _
theorem below4 (w : World) (a b c d : Obj) : Below w.heap.size w ((((w.alloc a).alloc b).alloc c).alloc d) := (below3 w a b c).alloc (by simp; omega) _

theorem size3 (w : World) (a b c : Obj) : (((w.alloc a).alloc b).alloc c).heap.size = w.heap.size + 1 + 1 + 1 := by simp
theorem size4 (w : World) (a b c d : Obj) : ((((w.alloc a).alloc b).alloc c).alloc d).heap.size = w.heap.size + 1 + 1 + 1 + 1 := by simp
theorem cell_new4 (w : World) (a b c : Obj) (v : Value) (t : TypeId) : ((((w.alloc a).alloc b).alloc c).alloc (.cells #[v] t)).cell? ⟨w.heap.size + 1 + 1 + 1, 0, none⟩ = some v := by
  rw [World.cell?_alloc_at _ _ _ _ (size3 w a b c).symm]
  rfl

/-- Where the prefix's text lies. -/
def PP (w : World) (hp : Bool) (pt : ByteArray) (pp : Option Addr) : Prop :=
  (hp = false ∧ pp = none) ∨ (hp = true ∧ ∃ k, pp = some ⟨k, 0, none⟩ ∧ k < w.heap.size ∧ w.cell? ⟨k, 0, none⟩ = some (.string pt))
theorem PP.on {w w' : World} {hp : Bool} {pt : ByteArray} {pp : Option Addr} (h : PP w hp pt pp) (hb : Below w.heap.size w w') : PP w' hp pt pp := by
  rcases h with h | ⟨h1, k, h2, h3, h4⟩
  · exact .inl h
  · exact .inr ⟨h1, k, h2, by have := hb.size; omega, (hb.cell (p := ⟨k, 0, none⟩) h3).trans h4⟩

set_option maxHeartbeats 1000000 in
theorem toProps_any (hp : Bool) (ht ha : Bool) (ta aa pf : Int) (sf pt an : ByteArray) (nd : Option Addr) (w : World) :
    Calls Try.prog 18 #[.agg #[.bool ht, .bool ha, .int .i64 ta, .int .i64 aa, .string sf, .bool hp, .string pt, .int .i32 pf, .string an, .pointer nd]] w
      fun e w' => ∃ pp, e = .returned (.agg #[.pointer pp, .string sf, .int .i32 pf, .string an, .bool ht, .bool ha, .int .i64 ta, .int .i64 aa, .pointer nd]) ∧ PP w' hp pt pp ∧ Below w.heap.size w w' := by
  cases hp with
  | false =>
    go_enter Try.func18, Try.ntmps18
    go_wp2
    exact bodyPost_ret (v := .agg #[.pointer none, .string sf, .int .i32 pf, .string an, .bool ht, .bool ha, .int .i64 ta, .int .i64 aa, .pointer nd]) (by simp [results, Try.results18, go_sem]) rfl ⟨none, rfl, .inl ⟨rfl, rfl⟩, below3 _ _ _ _⟩
  | true =>
    go_enter Try.func18, Try.ntmps18
    go_wp2
    refine bodyPost_ret (v := .agg #[.pointer (some ⟨w.heap.size + 1 + 1 + 1, 0, none⟩), .string sf, .int .i32 pf, .string an, .bool ht, .bool ha, .int .i64 ta, .int .i64 aa, .pointer nd]) (by simp [results, Try.results18, go_sem]) rfl ⟨some ⟨w.heap.size + 1 + 1 + 1, 0, none⟩, rfl, .inr ⟨rfl, w.heap.size + 1 + 1 + 1, rfl, ?_, ?_⟩, ?_⟩
    · rw [size4]; omega
    · exact cell_new4 _ _ _ _ _ _
    · exact below4 _ _ _ _ _

/-- What zzFromProps makes of a prefix. -/
def textOf (hp : Bool) (pt : ByteArray) : ByteArray := if hp then pt else ⟨#[]⟩

set_option maxHeartbeats 1000000 in
theorem fromProps_any (hp : Bool) (pp : Option Addr) (ht ha : Bool) (ta aa pf : Int) (sf pt an : ByteArray) (nd : Option Addr) (w : World) (hpp : PP w hp pt pp) :
    Calls Try.prog 19 #[.agg #[.pointer pp, .string sf, .int .i32 pf, .string an, .bool ht, .bool ha, .int .i64 ta, .int .i64 aa, .pointer nd]] w
      fun e w' => e = .returned (.agg #[.bool ht, .bool ha, .int .i64 ta, .int .i64 aa, .string sf, .bool hp, .string (textOf hp pt), .int .i32 pf, .string an, .pointer nd]) ∧ Below w.heap.size w w' := by
  rcases hpp with ⟨rfl, rfl⟩ | ⟨rfl, k, rfl, hk, hc⟩
  · go_enter Try.func19, Try.ntmps19
    go_wp2
    exact bodyPost_ret (v := .agg #[.bool ht, .bool ha, .int .i64 ta, .int .i64 aa, .string sf, .bool false, .string ⟨#[]⟩, .int .i32 pf, .string an, .pointer nd]) (by simp [results, Try.results19, go_sem]) rfl ⟨rfl, below3 _ _ _ _⟩
  · have hne : k ≠ w.heap.size := by omega
    have hk1 : k < w.heap.size + 1 := by omega
    have hk2 : k < w.heap.size + 1 + 1 := by omega
    go_enter Try.func19, Try.ntmps19
    go_wp2
    exact bodyPost_ret (v := .agg #[.bool ht, .bool ha, .int .i64 ta, .int .i64 aa, .string sf, .bool true, .string pt, .int .i32 pf, .string an, .pointer nd]) (by simp [results, Try.results19, go_sem]) rfl ⟨rfl, below3 _ _ _ _⟩

theorem set_any (ht ha : Bool) (ta aa pf : Int) (sf an : ByteArray) (pp nd : Option Addr) (w : World) :
    Calls Try.prog 20 #[.agg #[.pointer pp, .string sf, .int .i32 pf, .string an, .bool ht, .bool ha, .int .i64 ta, .int .i64 aa, .pointer nd]] w fun e w' => e = .returned (.bool (ht || ha)) ∧ Below w.heap.size w w' := by
  cases ht with
  | false =>
    go_enter Try.func20, Try.ntmps20
    go_wp2
    go_ret
    exact ⟨rfl, below1 _ _⟩
  | true =>
    go_enter Try.func20, Try.ntmps20
    go_wp2
    go_ret
    exact ⟨rfl, below1 _ _⟩

/-- Where the first property set begins. -/
def atOf (ht ha : Bool) (ta aa : Int) : Int := if ht = false then aa else if ha = false then ta else if ta ≤ aa then ta else aa

set_option maxHeartbeats 1000000 in
theorem at_any (ht ha : Bool) (ta aa pf : Int) (sf an : ByteArray) (pp nd : Option Addr) (w : World) :
    Calls Try.prog 21 #[.agg #[.pointer pp, .string sf, .int .i32 pf, .string an, .bool ht, .bool ha, .int .i64 ta, .int .i64 aa, .pointer nd]] w fun e w' => e = .returned (.int .i64 (atOf ht ha ta aa)) ∧ Below w.heap.size w w' := by
  cases ht with
  | false =>
    go_enter Try.func21, Try.ntmps21
    go_wp2
    go_ret
    exact ⟨rfl, below1 _ _⟩
  | true =>
    cases ha with
    | false =>
      go_enter Try.func21, Try.ntmps21
      go_wp2
      go_ret
      exact ⟨rfl, below1 _ _⟩
    | true =>
      by_cases h : ta ≤ aa
      · have R : Hid (atOf true true ta aa = ta) := by show _ = _; simp [atOf, h]
        rw [R.out]
        go_enter Try.func21, Try.ntmps21
        go_wp2
        go_ret
        exact ⟨rfl, below1 _ _⟩
      · have R : Hid (atOf true true ta aa = aa) := by show _ = _; simp [atOf, h]
        rw [R.out]
        go_enter Try.func21, Try.ntmps21
        go_wp2
        go_ret
        exact ⟨rfl, below1 _ _⟩

set_option maxHeartbeats 1000000 in
theorem zset_any (ht ha hp : Bool) (ta aa pf : Int) (sf pt an : ByteArray) (nd : Option Addr) (w : World) :
    Calls Try.prog 12 #[.agg #[.bool ht, .bool ha, .int .i64 ta, .int .i64 aa, .string sf, .bool hp, .string pt, .int .i32 pf, .string an, .pointer nd]] w fun e w' => e = .returned (.bool (ht || ha)) ∧ Below w.heap.size w w' := by
  go_enter Try.func12, Try.ntmps12
  go_wp2_with (first | (go_at_call 18; refine (toProps_any hp ht ha ta aa pf sf pt an nd _).mono ?_; rintro e w1 ⟨pp, rfl, hpp, hb1⟩) | (go_at_call 20; refine (set_any ht ha ta aa pf sf an pp nd _).mono ?_; rintro e w2 ⟨rfl, hb2⟩))
  go_ret
  have b1 : Below w.heap.size w w1 := (below1 w _).trans (hb1.mono (by simp))
  exact ⟨rfl, b1.trans (hb2.mono b1.size)⟩

set_option maxHeartbeats 1000000 in
theorem zat_any (ht ha hp : Bool) (ta aa pf : Int) (sf pt an : ByteArray) (nd : Option Addr) (w : World) :
    Calls Try.prog 13 #[.agg #[.bool ht, .bool ha, .int .i64 ta, .int .i64 aa, .string sf, .bool hp, .string pt, .int .i32 pf, .string an, .pointer nd]] w fun e w' => e = .returned (.int .i64 (atOf ht ha ta aa)) ∧ Below w.heap.size w w' := by
  go_enter Try.func13, Try.ntmps13
  go_wp2_with (first | (go_at_call 18; refine (toProps_any hp ht ha ta aa pf sf pt an nd _).mono ?_; rintro e w1 ⟨pp, rfl, hpp, hb1⟩) | (go_at_call 21; refine (at_any ht ha ta aa pf sf an pp nd _).mono ?_; rintro e w2 ⟨rfl, hb2⟩))
  go_ret
  have b1 : Below w.heap.size w w1 := (below1 w _).trans (hb1.mono (by simp))
  exact ⟨rfl, b1.trans (hb2.mono b1.size)⟩

set_option maxHeartbeats 1000000 in
theorem toZZ_any (wn : Bool) (ht ha hp : Bool) (ta aa pf : Int) (sf pt an : ByteArray) (nd : Option Addr) (w : World) :
    Calls Try.prog 8 #[.agg #[.bool ht, .bool ha, .int .i64 ta, .int .i64 aa, .string sf, .bool hp, .string pt, .int .i32 pf, .string an, .bool wn], .pointer nd] w
      fun e w' => e = .returned (.agg #[.bool ht, .bool ha, .int .i64 ta, .int .i64 aa, .string sf, .bool hp, .string pt, .int .i32 pf, .string an, .pointer (if wn then nd else none)]) ∧ Below w.heap.size w w' := by
  cases wn with
  | false =>
    go_enter Try.func8, Try.ntmps8
    go_wp2
    exact bodyPost_ret (v := .agg #[.bool ht, .bool ha, .int .i64 ta, .int .i64 aa, .string sf, .bool hp, .string pt, .int .i32 pf, .string an, .pointer none]) (by simp [results, Try.results8, go_sem]) rfl ⟨rfl, below3 _ _ _ _⟩
  | true =>
    go_enter Try.func8, Try.ntmps8
    go_wp2
    exact bodyPost_ret (v := .agg #[.bool ht, .bool ha, .int .i64 ta, .int .i64 aa, .string sf, .bool hp, .string pt, .int .i32 pf, .string an, .pointer nd]) (by simp [results, Try.results8, go_sem]) rfl ⟨rfl, below3 _ _ _ _⟩

set_option maxHeartbeats 1000000 in
theorem props_any (wn ht ha hp : Bool) (ta aa pf : Int) (sf pt an : ByteArray) (w : World) (h : sf.size + pt.size + an.size ≤ 1048576) :
    Calls Try.prog 7 #[.agg #[.bool ht, .bool ha, .int .i64 ta, .int .i64 aa, .string sf, .bool hp, .string pt, .int .i32 pf, .string an, .bool wn]] w
      fun e w' => e = .returned (.int .i64 ((sf.size : Int) + pt.size + an.size)) ∧ Below w.heap.size w w' := by
  go_enter Try.func7, Try.ntmps7
  go_wp2
  go_ret
  exact ⟨rfl, below1 _ _⟩

theorem infoNode : (Try.prog.info? 35).isSome = true := by kernel_rfl
theorem eqSame (w : World) (a : Addr) : (binOp .eql 26 (.pointer (some a)) (.pointer (some a))).run Try.prog w = .ok (.bool true) w := by
  obtain ⟨j, hj⟩ := Option.isSome_iff_exists.1 infoNode
  exact run_eql_ptr_same w a Try.underlying26 hj

/-! ### sameTag, sameAnchor: where they agree -/
set_option maxHeartbeats 1000000 in
theorem sameTag_yes (ht ha ht' ha' hp : Bool) (ta aa aa' pf : Int) (sf pt pt' an an' : ByteArray) (nd nd' : Option Addr) (w : World) (h : hp = true → pt = pt') :
    Calls Try.prog 10 #[.agg #[.bool ht, .bool ha, .int .i64 ta, .int .i64 aa, .string sf, .bool hp, .string pt, .int .i32 pf, .string an, .pointer nd], .agg #[.bool ht', .bool ha', .int .i64 ta, .int .i64 aa', .string sf, .bool hp, .string pt', .int .i32 pf, .string an', .pointer nd']] w
      fun e w' => e = .returned (.bool true) ∧ Below w.heap.size w w' := by
  cases hp with
  | false =>
    clear h
    go_enter Try.func10, Try.ntmps10
    go_wp2
    go_ret
    exact ⟨rfl, below2 _ _ _⟩
  | true =>
    obtain rfl := h rfl
    go_enter Try.func10, Try.ntmps10
    go_wp2
    go_ret
    exact ⟨rfl, below2 _ _ _⟩

set_option maxHeartbeats 1000000 in
theorem sameAnchor_yes (ht ha ht' ha' hp hp' : Bool) (ta ta' aa pf pf' : Int) (sf sf' pt pt' an : ByteArray) (nd : Option Addr) (w : World) (hnd : nd = none ∨ ∃ k, nd = some ⟨k, 0, none⟩) :
    Calls Try.prog 11 #[.agg #[.bool ht, .bool ha, .int .i64 ta, .int .i64 aa, .string sf, .bool hp, .string pt, .int .i32 pf, .string an, .pointer nd], .agg #[.bool ht', .bool ha', .int .i64 ta', .int .i64 aa, .string sf', .bool hp', .string pt', .int .i32 pf', .string an, .pointer nd]] w
      fun e w' => e = .returned (.bool true) ∧ Below w.heap.size w w' := by
  rcases hnd with rfl | ⟨k, rfl⟩
  · go_enter Try.func11, Try.ntmps11
    go_wp2
    go_ret
    exact ⟨rfl, below2 _ _ _⟩
  · have hq := eqSame
    go_enter Try.func11, Try.ntmps11
    go_wp2
    go_ret
    exact ⟨rfl, below2 _ _ _⟩
end Go.Proofs.Qxb6002399a
