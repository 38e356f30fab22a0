/-
  Seat b1645a: the shelf's layings of slices.Sorted and maps.Keys at this program, turned to plain words by lay-plain.mjs.
-/
import Derived.Shelf.SlIter.Nil
import Derived.Shelf.SortM.Plain
import Derived.Shelf.SortM.SortNone
import Derived.Ground.GgzProg
import Derived.Ground.SlgmProg
import Derived.Test.YbulkahauProg
set_option maxRecDepth 100000
namespace Go.Proofs
open Go.Shelf
def Yba.keys16_ren : Go.Shelf.Ren := ⟨fun | 7 => 16 | 10 => 27 | n => n, fun | 23 => 33 | 26 => 9 | 3 => 28 | 28 => 55 | 0 => 0 | 27 => 54 | 33 => 65 | 4 => 4 | n => n, fun | n => n⟩
theorem Yba.keys16 : Go.Proofs.SlLaysZ.n7 Yba.prog Yba.keys16_ren := {
  mixed := by kernel_rfl
  f7 := ⟨Yba.f16.name, by decide, Yba.func16.trans (congrArg some (by kernel_rfl))⟩
  f10 := ⟨Yba.f27.name, by decide, Yba.func27.trans (congrArg some (by kernel_rfl))⟩
  t0 := Yba.underlying0
  a0 := Yba.isAgg0
  z0 := Yba.sizeOf0
  v0 := Yba.zeroValue0
  t4 := Yba.underlying4
  a4 := Yba.isAgg4
  z4 := Yba.sizeOf4
  v4 := Yba.zeroValue4
  t23 := Yba.underlying33
  a23 := Yba.isAgg33
  z23 := Yba.sizeOf33
  v23 := Yba.zeroValue33
  t26 := Yba.underlying9
  a26 := Yba.isAgg9
  z26 := Yba.sizeOf9
  v26 := Yba.zeroValue9
  t27 := Yba.underlying54
  a27 := Yba.isAgg54
  z27 := Yba.sizeOf54
  v27 := Yba.zeroValue54
  t28 := Yba.underlying55
  a28 := Yba.isAgg55
  z28 := Yba.sizeOf55
  v28 := Yba.zeroValue55
  t33 := Yba.underlying65
  a33 := Yba.isAgg65
  z33 := Yba.sizeOf65
  v33 := Yba.zeroValue65 }
def Yba.sorted15_ren : Go.Shelf.Ren := ⟨fun | 6 => 15 | 8 => 25 | 9 => 26 | 11 => 35 | 13 => 37 | 12 => 36 | 23 => 47 | 24 => 48 | 14 => 38 | 15 => 39 | 16 => 40 | 17 => 41 | 18 => 42 | 19 => 43 | 20 => 44 | 21 => 45 | 22 => 46 | 25 => 49 | 26 => 50 | 27 => 51 | 28 => 52 | 29 => 53 | 30 => 54 | 31 => 55 | n => n, fun | 26 => 9 | 28 => 55 | 24 => 52 | 0 => 0 | 3 => 3 | 37 => 67 | 48 => 41 | 50 => 46 | 4 => 4 | 40 => 77 | 39 => 76 | 45 => 82 | 5 => 5 | 9 => 9 | 51 => 86 | 55 => 90 | 57 => 92 | 58 => 93 | 33 => 65 | n => n, fun | n => n⟩
theorem Yba.sorted15 : Go.Proofs.SlLaysZ.n6 Yba.prog Yba.sorted15_ren := {
  mixed := by kernel_rfl
  f6 := ⟨Yba.f15.name, by decide, Yba.func15.trans (congrArg some (by kernel_rfl))⟩
  f8 := ⟨Yba.f25.name, by decide, Yba.func25.trans (congrArg some (by kernel_rfl))⟩
  f11 := ⟨Yba.f35.name, by decide, Yba.func35.trans (congrArg some (by kernel_rfl))⟩
  t0 := Yba.underlying0
  a0 := Yba.isAgg0
  z0 := Yba.sizeOf0
  v0 := Yba.zeroValue0
  t24 := Yba.underlying52
  a24 := Yba.isAgg52
  z24 := Yba.sizeOf52
  v24 := Yba.zeroValue52
  t26 := Yba.underlying9
  a26 := Yba.isAgg9
  z26 := Yba.sizeOf9
  v26 := Yba.zeroValue9
  t28 := Yba.underlying55
  a28 := Yba.isAgg55
  z28 := Yba.sizeOf55
  v28 := Yba.zeroValue55
  i26 := by kernel_rfl }
def Yba.sort26_ren : Go.Shelf.Ren := ⟨fun | 6 => 26 | 8 => 37 | 9 => 36 | 19 => 47 | 20 => 48 | 21 => 38 | 22 => 39 | 23 => 40 | 24 => 41 | 25 => 42 | 26 => 43 | 27 => 44 | 28 => 45 | 29 => 46 | 36 => 49 | 31 => 50 | 32 => 51 | 37 => 52 | 38 => 53 | 39 => 54 | 41 => 55 | n => n, fun | 27 => 52 | 29 => 9 | 3 => 3 | 32 => 67 | 26 => 52 | 0 => 0 | 44 => 41 | 46 => 46 | 4 => 4 | 36 => 77 | 35 => 76 | 41 => 82 | 5 => 5 | 9 => 9 | 53 => 86 | 57 => 90 | 63 => 92 | 64 => 93 | n => n, fun | n => n⟩
theorem Yba.sort26 : Go.Proofs.SlLaysM.n6 Yba.prog Yba.sort26_ren := {
  mixed := by kernel_rfl
  f6 := ⟨Yba.f26.name, by decide, Yba.func26.trans (congrArg some (by kernel_rfl))⟩
  f8 := Yba.func37.trans (congrArg some (by kernel_rfl))
  f9 := ⟨Yba.f36.name, by decide, Yba.func36.trans (congrArg some (by kernel_rfl))⟩
  f19 := Yba.func47.trans (congrArg some (by kernel_rfl))
  f20 := Yba.func48.trans (congrArg some (by kernel_rfl))
  f21 := ⟨Yba.f38.name, by decide, Yba.func38.trans (congrArg some (by kernel_rfl))⟩
  f22 := ⟨Yba.f39.name, by decide, Yba.func39.trans (congrArg some (by kernel_rfl))⟩
  f23 := ⟨Yba.f40.name, by decide, Yba.func40.trans (congrArg some (by kernel_rfl))⟩
  f24 := ⟨Yba.f41.name, by decide, Yba.func41.trans (congrArg some (by kernel_rfl))⟩
  f25 := ⟨Yba.f42.name, by decide, Yba.func42.trans (congrArg some (by kernel_rfl))⟩
  f26 := ⟨Yba.f43.name, by decide, Yba.func43.trans (congrArg some (by kernel_rfl))⟩
  f27 := ⟨Yba.f44.name, by decide, Yba.func44.trans (congrArg some (by kernel_rfl))⟩
  f28 := ⟨Yba.f45.name, by decide, Yba.func45.trans (congrArg some (by kernel_rfl))⟩
  f29 := ⟨Yba.f46.name, by decide, Yba.func46.trans (congrArg some (by kernel_rfl))⟩
  f31 := Yba.func50.trans (congrArg some (by kernel_rfl))
  f32 := Yba.func51.trans (congrArg some (by kernel_rfl))
  f36 := ⟨Yba.f49.name, by decide, Yba.func49.trans (congrArg some (by kernel_rfl))⟩
  f37 := ⟨Yba.f52.name, by decide, Yba.func52.trans (congrArg some (by kernel_rfl))⟩
  f38 := ⟨Yba.f53.name, by decide, Yba.func53.trans (congrArg some (by kernel_rfl))⟩
  f39 := ⟨Yba.f54.name, by decide, Yba.func54.trans (congrArg some (by kernel_rfl))⟩
  f41 := ⟨Yba.f55.name, by decide, Yba.func55.trans (congrArg some (by kernel_rfl))⟩
  t0 := Yba.underlying0
  a0 := Yba.isAgg0
  z0 := Yba.sizeOf0
  v0 := Yba.zeroValue0
  t3 := Yba.underlying3
  a3 := Yba.isAgg3
  z3 := Yba.sizeOf3
  v3 := Yba.zeroValue3
  t4 := Yba.underlying4
  a4 := Yba.isAgg4
  z4 := Yba.sizeOf4
  v4 := Yba.zeroValue4
  t5 := Yba.underlying5
  a5 := Yba.isAgg5
  z5 := Yba.sizeOf5
  v5 := Yba.zeroValue5
  t9 := Yba.underlying9
  a9 := Yba.isAgg9
  z9 := Yba.sizeOf9
  v9 := Yba.zeroValue9
  t26 := Yba.underlying52
  a26 := Yba.isAgg52
  z26 := Yba.sizeOf52
  v26 := Yba.zeroValue52
  t27 := Yba.underlying52
  a27 := Yba.isAgg52
  z27 := Yba.sizeOf52
  v27 := Yba.zeroValue52
  t29 := Yba.underlying9
  a29 := Yba.isAgg9
  z29 := Yba.sizeOf9
  v29 := Yba.zeroValue9
  t32 := Yba.underlying67
  a32 := Yba.isAgg67
  z32 := Yba.sizeOf67
  v32 := Yba.zeroValue67
  t35 := Yba.underlying76
  a35 := Yba.isAgg76
  z35 := Yba.sizeOf76
  v35 := Yba.zeroValue76
  t36 := Yba.underlying77
  a36 := Yba.isAgg77
  z36 := Yba.sizeOf77
  v36 := Yba.zeroValue77
  t41 := Yba.underlying82
  a41 := Yba.isAgg82
  z41 := Yba.sizeOf82
  v41 := Yba.zeroValue82
  t44 := Yba.underlying41
  a44 := Yba.isAgg41
  z44 := Yba.sizeOf41
  v44 := Yba.zeroValue41
  t46 := Yba.underlying46
  a46 := Yba.isAgg46
  z46 := Yba.sizeOf46
  v46 := Yba.zeroValue46
  t53 := Yba.underlying86
  a53 := Yba.isAgg86
  z53 := Yba.sizeOf86
  v53 := Yba.zeroValue86
  t57 := Yba.underlying90
  a57 := Yba.isAgg90
  z57 := Yba.sizeOf90
  v57 := Yba.zeroValue90
  t63 := Yba.underlying92
  a63 := Yba.isAgg92
  z63 := Yba.sizeOf92
  v63 := Yba.zeroValue92
  t64 := Yba.underlying93
  a64 := Yba.isAgg93
  z64 := Yba.sizeOf93
  v64 := Yba.zeroValue93 }
end Go.Proofs
