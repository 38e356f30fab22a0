/-
  Seat b1644a: the shelf's laying of math bits Len at this program, turned to plain words by lay-plain.mjs.
-/
import Derived.Shelf.Small.Bits
import Derived.Ground.NamesProg
import Derived.Test.YbulkahagProg
set_option maxRecDepth 100000
namespace Go.Proofs
open Go.Shelf
def Yba.lays125_ren : Go.Shelf.Ren := ⟨fun | 125 => 15 | 128 => 18 | 129 => 19 | n => n, fun | 46 => 85 | 3 => 3 | 51 => 104 | 53 => 54 | 4 => 4 | 5 => 5 | 9 => 9 | n => n, fun | n => n⟩
theorem Yba.lays125 : Go.Proofs.Lays.n125 Yba.prog Yba.lays125_ren := {
  mixed := by kernel_rfl
  f125 := Yba.func15.trans (congrArg some (by kernel_rfl))
  f128 := Yba.func18.trans (congrArg some (by kernel_rfl))
  f129 := Yba.func19.trans (congrArg some (by kernel_rfl))
  t3 := Yba.underlying3
  a3 := Yba.isAgg3
  z3 := Yba.sizeOf3
  v3 := Yba.zeroValue3
  t4 := Yba.underlying4
  a4 := Yba.isAgg4
  z4 := Yba.sizeOf4
  v4 := Yba.zeroValue4
  t5 := Yba.underlying5
  a5 := Yba.isAgg5
  z5 := Yba.sizeOf5
  v5 := Yba.zeroValue5
  t9 := Yba.underlying9
  a9 := Yba.isAgg9
  z9 := Yba.sizeOf9
  v9 := Yba.zeroValue9
  t46 := Yba.underlying85
  a46 := Yba.isAgg85
  z46 := Yba.sizeOf85
  v46 := Yba.zeroValue85
  t51 := Yba.underlying104
  a51 := Yba.isAgg104
  z51 := Yba.sizeOf104
  v51 := Yba.zeroValue104
  t53 := Yba.underlying54
  a53 := Yba.isAgg54
  z53 := Yba.sizeOf54
  v53 := Yba.zeroValue54 }
end Go.Proofs
