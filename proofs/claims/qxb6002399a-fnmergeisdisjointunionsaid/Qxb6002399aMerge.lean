/-
  The contracts of merge: each property from the side that set it; an error where both set one.
-/
import Derived.Test.Qxb6002399aCalls
import Derived.RegionTactic
import Derived.ChangeAlike
import Derived.BigRegion
namespace Go.Proofs.Qxb6002399a
open Go.RowKit
set_option linter.unusedVariables false

set_option maxHeartbeats 4000000 in
/-- b gives neither. -/
theorem merge_00 (hta haa : Bool) (taa aaa pfa tab aab pfb : Int) (sfa ana sfb anb : ByteArray) (ppa nda ppb ndb : Option Addr) (w : World) :
    Calls Try.prog 17 #[.agg #[.pointer ppa, .string sfa, .int .i32 pfa, .string ana, .bool hta, .bool haa, .int .i64 taa, .int .i64 aaa, .pointer nda], .agg #[.pointer ppb, .string sfb, .int .i32 pfb, .string anb, .bool false, .bool false, .int .i64 tab, .int .i64 aab, .pointer ndb]] w
      fun e w' => e = .returned (.tuple #[.agg #[.pointer ppa, .string sfa, .int .i32 pfa, .string ana, .bool hta, .bool haa, .int .i64 taa, .int .i64 aaa, .pointer nda], .nilIface]) ∧ Below w.heap.size w w' := by
  go_enter Try.func17, Try.ntmps17
  go_wp2
  exact bodyPost_ret (v := .tuple #[.agg #[.pointer ppa, .string sfa, .int .i32 pfa, .string ana, .bool hta, .bool haa, .int .i64 taa, .int .i64 aaa, .pointer nda], .nilIface]) (by simp [results, Try.results17, go_sem]) rfl ⟨rfl, below3 _ _ _ _⟩

set_option maxHeartbeats 4000000 in
/-- b gives a tag alone. -/
theorem merge_10 (haa : Bool) (taa aaa pfa tab aab pfb : Int) (sfa ana sfb anb : ByteArray) (ppa nda ppb ndb : Option Addr) (w : World) :
    Calls Try.prog 17 #[.agg #[.pointer ppa, .string sfa, .int .i32 pfa, .string ana, .bool false, .bool haa, .int .i64 taa, .int .i64 aaa, .pointer nda], .agg #[.pointer ppb, .string sfb, .int .i32 pfb, .string anb, .bool true, .bool false, .int .i64 tab, .int .i64 aab, .pointer ndb]] w
      fun e w' => e = .returned (.tuple #[.agg #[.pointer ppb, .string sfb, .int .i32 pfb, .string ana, .bool true, .bool haa, .int .i64 tab, .int .i64 aaa, .pointer nda], .nilIface]) ∧ Below w.heap.size w w' := by
  go_enter Try.func17, Try.ntmps17
  go_wp2
  go_region
  go_wp2
  exact bodyPost_ret (v := .tuple #[.agg #[.pointer ppb, .string sfb, .int .i32 pfb, .string ana, .bool true, .bool haa, .int .i64 tab, .int .i64 aaa, .pointer nda], .nilIface]) (by simp [results, Try.results17, go_sem]) rfl ⟨rfl, (below3 _ _ _ _).drew⟩

set_option maxHeartbeats 4000000 in
/-- b gives an anchor alone. -/
theorem merge_01 (hta : Bool) (taa aaa pfa tab aab pfb : Int) (sfa ana sfb anb : ByteArray) (ppa nda ppb ndb : Option Addr) (w : World) :
    Calls Try.prog 17 #[.agg #[.pointer ppa, .string sfa, .int .i32 pfa, .string ana, .bool hta, .bool false, .int .i64 taa, .int .i64 aaa, .pointer nda], .agg #[.pointer ppb, .string sfb, .int .i32 pfb, .string anb, .bool false, .bool true, .int .i64 tab, .int .i64 aab, .pointer ndb]] w
      fun e w' => e = .returned (.tuple #[.agg #[.pointer ppa, .string sfa, .int .i32 pfa, .string anb, .bool hta, .bool true, .int .i64 taa, .int .i64 aab, .pointer ndb], .nilIface]) ∧ Below w.heap.size w w' := by
  go_enter Try.func17, Try.ntmps17
  go_wp2
  go_region
  go_wp2
  exact bodyPost_ret (v := .tuple #[.agg #[.pointer ppa, .string sfa, .int .i32 pfa, .string anb, .bool hta, .bool true, .int .i64 taa, .int .i64 aab, .pointer ndb], .nilIface]) (by simp [results, Try.results17, go_sem]) rfl ⟨rfl, (below3 _ _ _ _).drew⟩

set_option maxHeartbeats 4000000 in
/-- b gives both, a neither. -/
theorem merge_11 (taa aaa pfa tab aab pfb : Int) (sfa ana sfb anb : ByteArray) (ppa nda ppb ndb : Option Addr) (w : World) :
    Calls Try.prog 17 #[.agg #[.pointer ppa, .string sfa, .int .i32 pfa, .string ana, .bool false, .bool false, .int .i64 taa, .int .i64 aaa, .pointer nda], .agg #[.pointer ppb, .string sfb, .int .i32 pfb, .string anb, .bool true, .bool true, .int .i64 tab, .int .i64 aab, .pointer ndb]] w
      fun e w' => e = .returned (.tuple #[.agg #[.pointer ppb, .string sfb, .int .i32 pfb, .string anb, .bool true, .bool true, .int .i64 tab, .int .i64 aab, .pointer ndb], .nilIface]) ∧ Below w.heap.size w w' := by
  go_enter Try.func17, Try.ntmps17
  go_wp2
  go_region
  go_wp2
  go_region
  go_wp2
  exact bodyPost_ret (v := .tuple #[.agg #[.pointer ppb, .string sfb, .int .i32 pfb, .string anb, .bool true, .bool true, .int .i64 tab, .int .i64 aab, .pointer ndb], .nilIface]) (by simp [results, Try.results17, go_sem]) rfl ⟨rfl, (below3 _ _ _ _).drew.drew⟩

set_option maxHeartbeats 4000000 in
/-- Both give a tag. -/
theorem merge_errT (haa hab : Bool) (taa aaa pfa tab aab pfb : Int) (sfa ana sfb anb : ByteArray) (ppa nda ppb ndb : Option Addr) (w : World) :
    Calls Try.prog 17 #[.agg #[.pointer ppa, .string sfa, .int .i32 pfa, .string ana, .bool true, .bool haa, .int .i64 taa, .int .i64 aaa, .pointer nda], .agg #[.pointer ppb, .string sfb, .int .i32 pfb, .string anb, .bool true, .bool hab, .int .i64 tab, .int .i64 aab, .pointer ndb]] w
      fun e w' => ∃ v, e = .returned (.tuple #[.agg #[.pointer none, .string ⟨#[]⟩, .int .i32 0, .string ⟨#[]⟩, .bool false, .bool false, .int .i64 0, .int .i64 0, .pointer none], .iface 55 v]) ∧ Below w.heap.size w w' := by
  go_enter Try.func17, Try.ntmps17
  go_wp2
  go_region
  go_wp2
  exact bodyPost_ret (v := .tuple #[.agg #[.pointer none, .string ⟨#[]⟩, .int .i32 0, .string ⟨#[]⟩, .bool false, .bool false, .int .i64 0, .int .i64 0, .pointer none], .iface 55 (.pointer (some ⟨w.heap.size + 1 + 1 + 1, 0, none⟩))]) (by simp [results, Try.results17, go_sem]) rfl ⟨_, rfl, (below4 _ _ _ _ _).drew⟩

set_option maxHeartbeats 4000000 in
/-- Both give an anchor, b no tag. -/
theorem merge_errA0 (hta : Bool) (taa aaa pfa tab aab pfb : Int) (sfa ana sfb anb : ByteArray) (ppa nda ppb ndb : Option Addr) (w : World) :
    Calls Try.prog 17 #[.agg #[.pointer ppa, .string sfa, .int .i32 pfa, .string ana, .bool hta, .bool true, .int .i64 taa, .int .i64 aaa, .pointer nda], .agg #[.pointer ppb, .string sfb, .int .i32 pfb, .string anb, .bool false, .bool true, .int .i64 tab, .int .i64 aab, .pointer ndb]] w
      fun e w' => ∃ v, e = .returned (.tuple #[.agg #[.pointer none, .string ⟨#[]⟩, .int .i32 0, .string ⟨#[]⟩, .bool false, .bool false, .int .i64 0, .int .i64 0, .pointer none], .iface 55 v]) ∧ Below w.heap.size w w' := by
  go_enter Try.func17, Try.ntmps17
  go_wp2
  go_region
  go_wp2
  exact bodyPost_ret (v := .tuple #[.agg #[.pointer none, .string ⟨#[]⟩, .int .i32 0, .string ⟨#[]⟩, .bool false, .bool false, .int .i64 0, .int .i64 0, .pointer none], .iface 55 (.pointer (some ⟨w.heap.size + 1 + 1 + 1, 0, none⟩))]) (by simp [results, Try.results17, go_sem]) rfl ⟨_, rfl, (below4 _ _ _ _ _).drew⟩

set_option maxHeartbeats 4000000 in
/-- Both give an anchor, b alone a tag. -/
theorem merge_errA1 (taa aaa pfa tab aab pfb : Int) (sfa ana sfb anb : ByteArray) (ppa nda ppb ndb : Option Addr) (w : World) :
    Calls Try.prog 17 #[.agg #[.pointer ppa, .string sfa, .int .i32 pfa, .string ana, .bool false, .bool true, .int .i64 taa, .int .i64 aaa, .pointer nda], .agg #[.pointer ppb, .string sfb, .int .i32 pfb, .string anb, .bool true, .bool true, .int .i64 tab, .int .i64 aab, .pointer ndb]] w
      fun e w' => ∃ v, e = .returned (.tuple #[.agg #[.pointer none, .string ⟨#[]⟩, .int .i32 0, .string ⟨#[]⟩, .bool false, .bool false, .int .i64 0, .int .i64 0, .pointer none], .iface 55 v]) ∧ Below w.heap.size w w' := by
  go_enter Try.func17, Try.ntmps17
  go_wp2
  go_region
  go_wp2
  go_region
  go_wp2
  exact bodyPost_ret (v := .tuple #[.agg #[.pointer none, .string ⟨#[]⟩, .int .i32 0, .string ⟨#[]⟩, .bool false, .bool false, .int .i64 0, .int .i64 0, .pointer none], .iface 55 (.pointer (some ⟨w.heap.size + 1 + 1 + 1, 0, none⟩))]) (by simp [results, Try.results17, go_sem]) rfl ⟨_, rfl, (below4 _ _ _ _ _).drew.drew⟩
end Go.Proofs.Qxb6002399a
