/-
  strconv.AppendInt at base 10, laid at this dump: the plain text that the shelf's tool wrote for this program, under this seat's names.
-/
import Derived.Shelf.LaysM
import Derived.Shelf.Strconv.AppendIntPublic10
import Derived.Test.Qxb6000837aDoorRows
namespace Go.Proofs.Qxb6000837aDoor
open Go.Shelf
def lays176_ren : Go.Shelf.Ren := ⟨fun | 176 => 21 | 249 => 22 | 288 => 23 | 283 => 24 | 284 => 25 | 285 => 26 | 286 => 27 | 129 => 29 | 317 => 28 | 318 => 30 | 319 => 31 | 320 => 32 | 337 => 33 | 338 => 34 | n => n, fun | 37 => 22 | 2 => 2 | 3 => 3 | 53 => 27 | 4 => 4 | 9 => 9 | 171 => 47 | 0 => 0 | 173 => 50 | 212 => 54 | 51 => 55 | 5 => 5 | 20 => 20 | 213 => 56 | 46 => 57 | 232 => 60 | 233 => 61 | n => n, fun | 17 => 0 | 18 => 1 | 19 => 2 | n => n⟩
theorem lays176 : Go.Proofs.LaysM.n176 Tryd.prog lays176_ren := {
  mixed := by kernel_rfl
  f129 := Tryd.func29.trans (congrArg some (by kernel_rfl))
  f176 := Tryd.func21.trans (congrArg some (by kernel_rfl))
  f249 := Tryd.func22.trans (congrArg some (by kernel_rfl))
  f283 := Tryd.func24.trans (congrArg some (by kernel_rfl))
  f284 := Tryd.func25.trans (congrArg some (by kernel_rfl))
  f285 := Tryd.func26.trans (congrArg some (by kernel_rfl))
  f286 := Tryd.func27.trans (congrArg some (by kernel_rfl))
  f288 := Tryd.func23.trans (congrArg some (by kernel_rfl))
  f317 := Tryd.func28.trans (congrArg some (by kernel_rfl))
  f318 := Tryd.func30.trans (congrArg some (by kernel_rfl))
  f319 := Tryd.func31.trans (congrArg some (by kernel_rfl))
  f320 := Tryd.func32.trans (congrArg some (by kernel_rfl))
  f337 := Tryd.func33.trans (congrArg some (by kernel_rfl))
  f338 := Tryd.func34.trans (congrArg some (by kernel_rfl))
  t0 := Tryd.underlying0
  a0 := Tryd.isAgg0
  z0 := Tryd.sizeOf0
  v0 := Tryd.zeroValue0
  t2 := Tryd.underlying2
  a2 := Tryd.isAgg2
  z2 := Tryd.sizeOf2
  v2 := Tryd.zeroValue2
  t3 := Tryd.underlying3
  a3 := Tryd.isAgg3
  z3 := Tryd.sizeOf3
  v3 := Tryd.zeroValue3
  t4 := Tryd.underlying4
  a4 := Tryd.isAgg4
  z4 := Tryd.sizeOf4
  v4 := Tryd.zeroValue4
  t5 := Tryd.underlying5
  a5 := Tryd.isAgg5
  z5 := Tryd.sizeOf5
  v5 := Tryd.zeroValue5
  t9 := Tryd.underlying9
  a9 := Tryd.isAgg9
  z9 := Tryd.sizeOf9
  v9 := Tryd.zeroValue9
  t20 := Tryd.underlying20
  a20 := Tryd.isAgg20
  z20 := Tryd.sizeOf20
  v20 := Tryd.zeroValue20
  t37 := Tryd.underlying22
  a37 := Tryd.isAgg22
  z37 := Tryd.sizeOf22
  v37 := Tryd.zeroValue22
  t46 := Tryd.underlying57
  a46 := Tryd.isAgg57
  z46 := Tryd.sizeOf57
  v46 := Tryd.zeroValue57
  t51 := Tryd.underlying55
  a51 := Tryd.isAgg55
  z51 := Tryd.sizeOf55
  v51 := Tryd.zeroValue55
  t53 := Tryd.underlying27
  a53 := Tryd.isAgg27
  z53 := Tryd.sizeOf27
  v53 := Tryd.zeroValue27
  t171 := Tryd.underlying47
  a171 := Tryd.isAgg47
  z171 := Tryd.sizeOf47
  v171 := Tryd.zeroValue47
  t173 := Tryd.underlying50
  a173 := Tryd.isAgg50
  z173 := Tryd.sizeOf50
  v173 := Tryd.zeroValue50
  t212 := Tryd.underlying54
  a212 := Tryd.isAgg54
  z212 := Tryd.sizeOf54
  v212 := Tryd.zeroValue54
  t213 := Tryd.underlying56
  a213 := Tryd.isAgg56
  z213 := Tryd.sizeOf56
  t232 := Tryd.underlying60
  a232 := Tryd.isAgg60
  z232 := Tryd.sizeOf60
  v232 := Tryd.zeroValue60
  t233 := Tryd.underlying61
  a233 := Tryd.isAgg61
  z233 := Tryd.sizeOf61
  v233 := Tryd.zeroValue61
  g17 := by kernel_rfl
  g18 := by kernel_rfl
  g19 := by kernel_rfl
  i0 := by kernel_rfl
  i2 := by kernel_rfl
  i3 := by kernel_rfl
  i4 := by kernel_rfl
  i5 := by kernel_rfl
  i9 := by kernel_rfl
  i20 := by kernel_rfl
  i37 := by kernel_rfl
  i46 := by kernel_rfl
  i51 := by kernel_rfl
  i53 := by kernel_rfl
  i171 := by kernel_rfl
  i173 := by kernel_rfl
  i212 := by kernel_rfl
  i232 := by kernel_rfl
  i233 := by kernel_rfl
  m17 := by kernel_rfl
  m18 := by kernel_rfl
  m19 := by kernel_rfl }
/-- The table's name, as the row spells it. -/
def powName : String := Rows.fnIsDigitsAcceptsWrittenIndexRow.named.headD ""

open Go.RowKit Go.Sort Go.Lib in
/-- strconv.AppendInt at base 10, the shelf's contract at this dump. -/
theorem appendInt_any (B n : Nat) (i : Int) (h0 : -9223372036854775808 ≤ i) (h1 : i ≤ 9223372036854775807) (sv : Value) (xs : List Value) (w : World) (hown : w.ownsRow B 5 1 sv n xs) (hBw : B ≤ w.heap.size) (hlim : n + 21 ≤ 140737488355328) (htab : Lib.TabBelow Tryd.prog B w powName .u64 Lib.pow10Tab) :
    Calls Tryd.prog 21 #[sv, .int .i64 i, .int .i64 10] w fun e w' => ∃ v', e = .returned v' ∧ w'.ownsRow B 5 1 v' (n + (Lib.itoa i).length) (xs ++ Lib.byteCells (Lib.itoa i)) ∧ Below B w w' :=
  (Any.strconv_AppendInt_10 lays176 B n i h0 h1 sv xs w hown hBw hlim htab).mono fun _ _ ⟨v', h1, h2, h3, _⟩ => ⟨v', h1, h2, h3⟩
end Go.Proofs.Qxb6000837aDoor
