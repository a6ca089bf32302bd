import Derived.Test.Qxb6605907aGreatFmtShelf
import Derived.Shelf.Small.Wraps
namespace Go.Proofs
open Go.Shelf
def Tryz.lays103_ren : Go.Shelf.Ren := ⟨fun | 103 => 47 | 206 => 79 | 210 => 71 | n => n, fun | 3 => 3 | 4 => 4 | 9 => 9 | 24 => 108 | n => n, fun | n => n⟩
theorem Tryz.lays103 : Go.Proofs.Lays.n103 Tryz.prog Tryz.lays103_ren := {
  mixed := by kernel_rfl
  f103 := Tryz.func47.trans (congrArg some (by kernel_rfl))
  f206 := Tryz.func79.trans (congrArg some (by kernel_rfl))
  f210 := Tryz.func71.trans (congrArg some (by kernel_rfl))
  t3 := Tryz.underlying3
  a3 := Tryz.isAgg3
  z3 := Tryz.sizeOf3
  v3 := Tryz.zeroValue3
  t4 := Tryz.underlying4
  a4 := Tryz.isAgg4
  z4 := Tryz.sizeOf4
  v4 := Tryz.zeroValue4
  t9 := Tryz.underlying9
  a9 := Tryz.isAgg9
  z9 := Tryz.sizeOf9
  v9 := Tryz.zeroValue9
  t24 := Tryz.underlying108
  a24 := Tryz.isAgg108
  z24 := Tryz.sizeOf108
  v24 := Tryz.zeroValue108 }
end Go.Proofs
