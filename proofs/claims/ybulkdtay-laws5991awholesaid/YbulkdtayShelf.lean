import Derived.Shelf.Lays
import Derived.Shelf.Small.Bits
import Derived.Test.YbulkdtayProg
namespace Go.Proofs
open Go.Shelf
def Yba.lays125_ren : Go.Shelf.Ren := ⟨fun | 125 => 17 | 128 => 27 | 129 => 28 | n => n, fun | 46 => 44 | 3 => 3 | 51 => 25 | 53 => 56 | 4 => 4 | 5 => 5 | 9 => 9 | n => n, fun | n => n⟩
theorem Yba.lays125 : Go.Proofs.Lays.n125 Yba.prog Yba.lays125_ren := {
  mixed := by kernel_rfl
  f125 := Yba.func17.trans (congrArg some (by kernel_rfl))
  f128 := Yba.func27.trans (congrArg some (by kernel_rfl))
  f129 := Yba.func28.trans (congrArg some (by kernel_rfl))
  t3 := Yba.underlying3
  a3 := Yba.isAgg3
  z3 := Yba.sizeOf3
  v3 := Yba.zeroValue3
  t4 := Yba.underlying4
  a4 := Yba.isAgg4
  z4 := Yba.sizeOf4
  v4 := Yba.zeroValue4
  t5 := Yba.underlying5
  a5 := Yba.isAgg5
  z5 := Yba.sizeOf5
  v5 := Yba.zeroValue5
  t9 := Yba.underlying9
  a9 := Yba.isAgg9
  z9 := Yba.sizeOf9
  v9 := Yba.zeroValue9
  t46 := Yba.underlying44
  a46 := Yba.isAgg44
  z46 := Yba.sizeOf44
  v46 := Yba.zeroValue44
  t51 := Yba.underlying25
  a51 := Yba.isAgg25
  z51 := Yba.sizeOf25
  v51 := Yba.zeroValue25
  t53 := Yba.underlying56
  a53 := Yba.isAgg56
  z53 := Yba.sizeOf56
  v53 := Yba.zeroValue56 }
end Go.Proofs
