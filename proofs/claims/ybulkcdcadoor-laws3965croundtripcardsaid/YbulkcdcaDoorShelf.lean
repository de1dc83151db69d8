import Derived.Shelf.Bin.Uvarint
import Derived.Shelf.Bin.AppendUvarint
import Derived.KernelRfl
import Derived.Test.YbulkcdcaDoorProg
namespace Go.Proofs
open Go.Shelf
def Ybad.laysBin45_ren : Go.Shelf.Ren := ⟨fun | 45 => 21 | n => n, fun | 22 => 24 | 33 => 26 | 45 => 46 | n => n, fun n => n⟩
theorem Ybad.laysBin45 : Go.Proofs.LaysBin.n45 Ybad.prog Ybad.laysBin45_ren := {
  mixed := by kernel_rfl
  f45 := Ybad.func21.trans (congrArg some (by kernel_rfl))
  t0 := Ybad.underlying0
  a0 := Ybad.isAgg0
  z0 := Ybad.sizeOf0
  v0 := Ybad.zeroValue0
  i0 := by kernel_rfl
  t3 := Ybad.underlying3
  a3 := Ybad.isAgg3
  z3 := Ybad.sizeOf3
  v3 := Ybad.zeroValue3
  i3 := by kernel_rfl
  t4 := Ybad.underlying4
  a4 := Ybad.isAgg4
  z4 := Ybad.sizeOf4
  v4 := Ybad.zeroValue4
  i4 := by kernel_rfl
  t5 := Ybad.underlying5
  a5 := Ybad.isAgg5
  z5 := Ybad.sizeOf5
  v5 := Ybad.zeroValue5
  i5 := by kernel_rfl
  t22 := Ybad.underlying24
  a22 := Ybad.isAgg24
  z22 := Ybad.sizeOf24
  v22 := Ybad.zeroValue24
  i22 := by kernel_rfl
  t33 := Ybad.underlying26
  a33 := Ybad.isAgg26
  z33 := Ybad.sizeOf26
  v33 := Ybad.zeroValue26
  i33 := by kernel_rfl
  t45 := Ybad.underlying46
  a45 := Ybad.isAgg46
  z45 := Ybad.sizeOf46
  v45 := Ybad.zeroValue46
  i45 := by kernel_rfl }
def Ybad.laysBin47_ren : Go.Shelf.Ren := ⟨fun | 47 => 5 | n => n, fun | 22 => 24 | 33 => 26 | 45 => 46 | n => n, fun n => n⟩
theorem Ybad.laysBin47 : Go.Proofs.LaysBin.n47 Ybad.prog Ybad.laysBin47_ren := {
  mixed := by kernel_rfl
  f47 := Ybad.func5.trans (congrArg some (by kernel_rfl))
  t4 := Ybad.underlying4
  a4 := Ybad.isAgg4
  z4 := Ybad.sizeOf4
  v4 := Ybad.zeroValue4
  i4 := by kernel_rfl
  t5 := Ybad.underlying5
  a5 := Ybad.isAgg5
  z5 := Ybad.sizeOf5
  v5 := Ybad.zeroValue5
  i5 := by kernel_rfl
  t22 := Ybad.underlying24
  a22 := Ybad.isAgg24
  z22 := Ybad.sizeOf24
  v22 := Ybad.zeroValue24
  i22 := by kernel_rfl
  t33 := Ybad.underlying26
  a33 := Ybad.isAgg26
  z33 := Ybad.sizeOf26
  v33 := Ybad.zeroValue26
  i33 := by kernel_rfl
  t45 := Ybad.underlying46
  a45 := Ybad.isAgg46
  z45 := Ybad.sizeOf46
  v45 := Ybad.zeroValue46
  i45 := by kernel_rfl }
end Go.Proofs
