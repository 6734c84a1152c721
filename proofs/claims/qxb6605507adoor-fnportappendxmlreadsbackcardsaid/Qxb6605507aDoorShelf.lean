/-
  Seat b6605507aD: the contract of strconv.AppendInt, laid at this program by the kit's lay-shelf.mjs and lay-plain.mjs; the table's name is taken from the given row.
-/
import Derived.Shelf.Strconv.Itoa0
import Derived.Shelf.Strconv.Itoa1
import Derived.Shelf.LaysM
import Derived.Shelf.Strconv.Itoa2
import Derived.Shelf.Strconv.AppendUint10
import Derived.Shelf.Strconv.AppendInt10
import Derived.Shelf.Strconv.AppendIntPublic10
import Derived.Test.Qxb6605507aDoorRows
namespace Go.Proofs
open Go.Shelf

/-- The name of the table of powers of ten, as the given rows list it. -/
def Qxb6605507aDoor.powName : String := Qxb6605507aDoor.Rows.fnPortAppendJSONReadsBackRow.namedList.headD ""

def Tryd.laysM176_ren : Go.Shelf.Ren := ⟨fun | 176 => 33 | 249 => 37 | 288 => 39 | 283 => 40 | 284 => 41 | 285 => 42 | 286 => 43 | 129 => 45 | 317 => 44 | 318 => 46 | 319 => 47 | 320 => 48 | 337 => 49 | 338 => 50 | n => n, fun | 37 => 60 | 2 => 2 | 3 => 3 | 53 => 77 | 4 => 4 | 9 => 9 | 171 => 85 | 0 => 0 | 173 => 88 | 212 => 92 | 51 => 93 | 5 => 5 | 20 => 20 | 213 => 94 | 46 => 96 | 232 => 99 | 233 => 100 | n => n, fun | 17 => 0 | 18 => 1 | 19 => 2 | n => n⟩
theorem Tryd.laysM176 : Go.Proofs.LaysM.n176 Tryd.prog Tryd.laysM176_ren := {
  mixed := by kernel_rfl
  f129 := Tryd.func45.trans (congrArg some (by kernel_rfl))
  f176 := Tryd.func33.trans (congrArg some (by kernel_rfl))
  f249 := Tryd.func37.trans (congrArg some (by kernel_rfl))
  f283 := Tryd.func40.trans (congrArg some (by kernel_rfl))
  f284 := Tryd.func41.trans (congrArg some (by kernel_rfl))
  f285 := Tryd.func42.trans (congrArg some (by kernel_rfl))
  f286 := Tryd.func43.trans (congrArg some (by kernel_rfl))
  f288 := Tryd.func39.trans (congrArg some (by kernel_rfl))
  f317 := Tryd.func44.trans (congrArg some (by kernel_rfl))
  f318 := Tryd.func46.trans (congrArg some (by kernel_rfl))
  f319 := Tryd.func47.trans (congrArg some (by kernel_rfl))
  f320 := Tryd.func48.trans (congrArg some (by kernel_rfl))
  f337 := Tryd.func49.trans (congrArg some (by kernel_rfl))
  f338 := Tryd.func50.trans (congrArg some (by kernel_rfl))
  t0 := Tryd.underlying0
  a0 := Tryd.isAgg0
  z0 := Tryd.sizeOf0
  v0 := Tryd.zeroValue0
  t2 := Tryd.underlying2
  a2 := Tryd.isAgg2
  z2 := Tryd.sizeOf2
  v2 := Tryd.zeroValue2
  t3 := Tryd.underlying3
  a3 := Tryd.isAgg3
  z3 := Tryd.sizeOf3
  v3 := Tryd.zeroValue3
  t4 := Tryd.underlying4
  a4 := Tryd.isAgg4
  z4 := Tryd.sizeOf4
  v4 := Tryd.zeroValue4
  t5 := Tryd.underlying5
  a5 := Tryd.isAgg5
  z5 := Tryd.sizeOf5
  v5 := Tryd.zeroValue5
  t9 := Tryd.underlying9
  a9 := Tryd.isAgg9
  z9 := Tryd.sizeOf9
  v9 := Tryd.zeroValue9
  t20 := Tryd.underlying20
  a20 := Tryd.isAgg20
  z20 := Tryd.sizeOf20
  v20 := Tryd.zeroValue20
  t37 := Tryd.underlying60
  a37 := Tryd.isAgg60
  z37 := Tryd.sizeOf60
  v37 := Tryd.zeroValue60
  t46 := Tryd.underlying96
  a46 := Tryd.isAgg96
  z46 := Tryd.sizeOf96
  v46 := Tryd.zeroValue96
  t51 := Tryd.underlying93
  a51 := Tryd.isAgg93
  z51 := Tryd.sizeOf93
  v51 := Tryd.zeroValue93
  t53 := Tryd.underlying77
  a53 := Tryd.isAgg77
  z53 := Tryd.sizeOf77
  v53 := Tryd.zeroValue77
  t171 := Tryd.underlying85
  a171 := Tryd.isAgg85
  z171 := Tryd.sizeOf85
  v171 := Tryd.zeroValue85
  t173 := Tryd.underlying88
  a173 := Tryd.isAgg88
  z173 := Tryd.sizeOf88
  v173 := Tryd.zeroValue88
  t212 := Tryd.underlying92
  a212 := Tryd.isAgg92
  z212 := Tryd.sizeOf92
  v212 := Tryd.zeroValue92
  t213 := Tryd.underlying94
  a213 := Tryd.isAgg94
  z213 := Tryd.sizeOf94
  t232 := Tryd.underlying99
  a232 := Tryd.isAgg99
  z232 := Tryd.sizeOf99
  v232 := Tryd.zeroValue99
  t233 := Tryd.underlying100
  a233 := Tryd.isAgg100
  z233 := Tryd.sizeOf100
  v233 := Tryd.zeroValue100
  g17 := by kernel_rfl
  g18 := by kernel_rfl
  g19 := by kernel_rfl
  i0 := by kernel_rfl
  i2 := by kernel_rfl
  i3 := by kernel_rfl
  i4 := by kernel_rfl
  i5 := by kernel_rfl
  i9 := by kernel_rfl
  i20 := by kernel_rfl
  i37 := by kernel_rfl
  i46 := by kernel_rfl
  i51 := by kernel_rfl
  i53 := by kernel_rfl
  i171 := by kernel_rfl
  i173 := by kernel_rfl
  i212 := by kernel_rfl
  i232 := by kernel_rfl
  i233 := by kernel_rfl
  m17 := by kernel_rfl
  m18 := by kernel_rfl
  m19 := by kernel_rfl }
open Go.RowKit Go.Sort Go.Lib in
/-- strconv.AppendInt at base 10, dst a slice of the call's own: the shelf's contract, laid at this program. -/
theorem Tryd.strconv_AppendInt_10 (B n : Nat) (i : Int) (h0 : -9223372036854775808 ≤ i) (h1 : i ≤ 9223372036854775807) (sv : Value) (xs : List Value) (w : World) (hown : w.ownsRow B 5 1 sv n xs) (hBw : B ≤ w.heap.size) (hlim : n + 21 ≤ 140737488355328) (htab : Lib.TabBelow Tryd.prog B w Qxb6605507aDoor.powName .u64 Lib.pow10Tab) :
    Calls Tryd.prog 33 #[sv, .int .i64 i, .int .i64 10] w fun e w' => ∃ v', e = .returned v' ∧ w'.ownsRow B 5 1 v' (n + (Lib.itoa i).length) (xs ++ Lib.byteCells (Lib.itoa i)) ∧ Below B w w' ∧ Lib.OthersKept 5 none w w' := Any.strconv_AppendInt_10 Tryd.laysM176 B n i h0 h1 sv xs w hown hBw hlim htab
end Go.Proofs
