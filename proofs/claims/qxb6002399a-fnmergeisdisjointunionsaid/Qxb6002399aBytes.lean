/-
  The bound on the total length.
-/
import Derived.Test.Qxb6002399aCalls
namespace Go.Proofs.Qxb6002399a
open Go.RowKit
set_option linter.unusedVariables false

/-- A bool comes back; where it is true, q holds. -/
def Answers (q : Prop) (e : Ending) : Prop := ∃ r, e = .returned (.bool r) ∧ (r = true → q)
theorem Answers.no {q : Prop} : Answers q (.returned (.bool false)) := ⟨false, rfl, fun h => by cases h⟩
theorem Answers.yes {q : Prop} (h : q) : Answers q (.returned (.bool true)) := ⟨true, rfl, fun _ => h⟩

set_option maxHeartbeats 4000000 in
theorem bytes6 (wna hta haa hpa wnb htb hab hpb : Bool) (taa aaa pfa tab aab pfb : Int) (sfa pta ana sfb ptb anb : ByteArray) (w : World)
    (h1 : sfa.size ≤ 9223372036854775807) (h2 : pta.size ≤ 9223372036854775807) (h3 : ana.size ≤ 9223372036854775807) (h4 : sfb.size ≤ 9223372036854775807) (h5 : ptb.size ≤ 9223372036854775807) (h6 : anb.size ≤ 9223372036854775807) :
    Calls Try.prog 6 #[.agg #[.bool hta, .bool haa, .int .i64 taa, .int .i64 aaa, .string sfa, .bool hpa, .string pta, .int .i32 pfa, .string ana, .bool wna], .agg #[.bool htb, .bool hab, .int .i64 tab, .int .i64 aab, .string sfb, .bool hpb, .string ptb, .int .i32 pfb, .string anb, .bool wnb]] w
      fun e w' => Answers (sfa.size + pta.size + ana.size + sfb.size + ptb.size + anb.size ≤ 1048576) e ∧ Below w.heap.size w w' := by
  go_enter Try.func6, Try.ntmps6
  go_wp2
  all_goals
    go_ret
    first
      | exact ⟨Answers.no, below2 _ _ _⟩
      | exact ⟨Answers.yes (by omega), below2 _ _ _⟩
end Go.Proofs.Qxb6002399a
