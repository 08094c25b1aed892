/-
  THE CONTRACT OF strconv.AppendInt AT BASE 10 AT THIS DUMP: one application of the shelf's theorem. 'laysM176' as the shelf's plain mode wrote it.
-/
import Derived.Shelf.LaysM
import Derived.Shelf.Strconv.AppendIntPublic10
import Derived.Test.Qxb6619558aDoorRows
namespace Go.Proofs
open Go.Shelf
def Tryd.laysM176_ren : Go.Shelf.Ren := ⟨fun | 176 => 17 | 249 => 18 | 288 => 19 | 283 => 20 | 284 => 21 | 285 => 22 | 286 => 23 | 129 => 25 | 317 => 24 | 318 => 26 | 319 => 27 | 320 => 28 | 337 => 29 | 338 => 30 | n => n, fun | 37 => 22 | 2 => 2 | 3 => 3 | 53 => 51 | 4 => 4 | 9 => 9 | 171 => 54 | 0 => 0 | 173 => 57 | 212 => 61 | 51 => 62 | 5 => 5 | 20 => 20 | 213 => 63 | 46 => 65 | 232 => 68 | 233 => 69 | n => n, fun | 17 => 0 | 18 => 1 | 19 => 2 | n => n⟩
theorem Tryd.laysM176 : Go.Proofs.LaysM.n176 Tryd.prog Tryd.laysM176_ren := {
  mixed := by kernel_rfl
  f129 := Tryd.func25.trans (congrArg some (by kernel_rfl))
  f176 := Tryd.func17.trans (congrArg some (by kernel_rfl))
  f249 := Tryd.func18.trans (congrArg some (by kernel_rfl))
  f283 := Tryd.func20.trans (congrArg some (by kernel_rfl))
  f284 := Tryd.func21.trans (congrArg some (by kernel_rfl))
  f285 := Tryd.func22.trans (congrArg some (by kernel_rfl))
  f286 := Tryd.func23.trans (congrArg some (by kernel_rfl))
  f288 := Tryd.func19.trans (congrArg some (by kernel_rfl))
  f317 := Tryd.func24.trans (congrArg some (by kernel_rfl))
  f318 := Tryd.func26.trans (congrArg some (by kernel_rfl))
  f319 := Tryd.func27.trans (congrArg some (by kernel_rfl))
  f320 := Tryd.func28.trans (congrArg some (by kernel_rfl))
  f337 := Tryd.func29.trans (congrArg some (by kernel_rfl))
  f338 := Tryd.func30.trans (congrArg some (by kernel_rfl))
  t0 := Tryd.underlying0
  a0 := Tryd.isAgg0
  z0 := Tryd.sizeOf0
  v0 := Tryd.zeroValue0
  t2 := Tryd.underlying2
  a2 := Tryd.isAgg2
  z2 := Tryd.sizeOf2
  v2 := Tryd.zeroValue2
  t3 := Tryd.underlying3
  a3 := Tryd.isAgg3
  z3 := Tryd.sizeOf3
  v3 := Tryd.zeroValue3
  t4 := Tryd.underlying4
  a4 := Tryd.isAgg4
  z4 := Tryd.sizeOf4
  v4 := Tryd.zeroValue4
  t5 := Tryd.underlying5
  a5 := Tryd.isAgg5
  z5 := Tryd.sizeOf5
  v5 := Tryd.zeroValue5
  t9 := Tryd.underlying9
  a9 := Tryd.isAgg9
  z9 := Tryd.sizeOf9
  v9 := Tryd.zeroValue9
  t20 := Tryd.underlying20
  a20 := Tryd.isAgg20
  z20 := Tryd.sizeOf20
  v20 := Tryd.zeroValue20
  t37 := Tryd.underlying22
  a37 := Tryd.isAgg22
  z37 := Tryd.sizeOf22
  v37 := Tryd.zeroValue22
  t46 := Tryd.underlying65
  a46 := Tryd.isAgg65
  z46 := Tryd.sizeOf65
  v46 := Tryd.zeroValue65
  t51 := Tryd.underlying62
  a51 := Tryd.isAgg62
  z51 := Tryd.sizeOf62
  v51 := Tryd.zeroValue62
  t53 := Tryd.underlying51
  a53 := Tryd.isAgg51
  z53 := Tryd.sizeOf51
  v53 := Tryd.zeroValue51
  t171 := Tryd.underlying54
  a171 := Tryd.isAgg54
  z171 := Tryd.sizeOf54
  v171 := Tryd.zeroValue54
  t173 := Tryd.underlying57
  a173 := Tryd.isAgg57
  z173 := Tryd.sizeOf57
  v173 := Tryd.zeroValue57
  t212 := Tryd.underlying61
  a212 := Tryd.isAgg61
  z212 := Tryd.sizeOf61
  v212 := Tryd.zeroValue61
  t213 := Tryd.underlying63
  a213 := Tryd.isAgg63
  z213 := Tryd.sizeOf63
  t232 := Tryd.underlying68
  a232 := Tryd.isAgg68
  z232 := Tryd.sizeOf68
  v232 := Tryd.zeroValue68
  t233 := Tryd.underlying69
  a233 := Tryd.isAgg69
  z233 := Tryd.sizeOf69
  v233 := Tryd.zeroValue69
  g17 := by kernel_rfl
  g18 := by kernel_rfl
  g19 := by kernel_rfl
  i0 := by kernel_rfl
  i2 := by kernel_rfl
  i3 := by kernel_rfl
  i4 := by kernel_rfl
  i5 := by kernel_rfl
  i9 := by kernel_rfl
  i20 := by kernel_rfl
  i37 := by kernel_rfl
  i46 := by kernel_rfl
  i51 := by kernel_rfl
  i53 := by kernel_rfl
  i171 := by kernel_rfl
  i173 := by kernel_rfl
  i212 := by kernel_rfl
  i232 := by kernel_rfl
  i233 := by kernel_rfl
  m17 := by kernel_rfl
  m18 := by kernel_rfl
  m19 := by kernel_rfl }
/-- the table of powers of ten, by the name that the row lists first -/
def Qxb6619558aDoor.powName : String := Qxb6619558aDoor.Rows.fnVCWriterAppendSplitsAtAnyCutRow.named.headD ""
open Go.RowKit Go.Sort Go.Lib in
/-- strconv.AppendInt at base 10. -/
theorem Tryd.strconv_AppendInt_10 (B n : Nat) (i : Int) (h0 : -9223372036854775808 ≤ i) (h1 : i ≤ 9223372036854775807) (sv : Value) (xs : List Value) (w : World) (hown : w.ownsRow B 5 1 sv n xs) (hBw : B ≤ w.heap.size) (hlim : n + 21 ≤ 140737488355328) (htab : Lib.TabBelow Tryd.prog B w Qxb6619558aDoor.powName .u64 Lib.pow10Tab) :
    Calls Tryd.prog 17 #[sv, .int .i64 i, .int .i64 10] w fun e w' => ∃ v', e = .returned v' ∧ w'.ownsRow B 5 1 v' (n + (Lib.itoa i).length) (xs ++ Lib.byteCells (Lib.itoa i)) ∧ Below B w w' ∧ Lib.OthersKept 5 none w w' := Any.strconv_AppendInt_10 Tryd.laysM176 B n i h0 h1 sv xs w hown hBw hlim htab
end Go.Proofs
