/- The contracts of the package encoding/binary, at this seat. -/
import Derived.Test.YtmficcifapfkdabDoorKf4
import Derived.Test.YtmficcifapfkdabDoorProg
namespace Go.Proofs
open Go.Shelf
def Tryd.laysBin36_ren : Go.Shelf.Ren := ⟨fun | 36 => 51 | n => n, fun | 37 => 102 | 22 => 22 | 23 => 99 | 0 => 0 | 5 => 5 | 45 => 109 | n => n, fun | n => n⟩
theorem Tryd.laysBin36 : Go.Proofs.LaysBin.n36 Tryd.prog Tryd.laysBin36_ren := {
  mixed := by kernel_rfl
  f36 := Tryd.func51.trans (congrArg some (by kernel_rfl))
  t0 := Tryd.underlying0
  a0 := Tryd.isAgg0
  z0 := Tryd.sizeOf0
  v0 := Tryd.zeroValue0
  i0 := by kernel_rfl
  t5 := Tryd.underlying5
  a5 := Tryd.isAgg5
  z5 := Tryd.sizeOf5
  v5 := Tryd.zeroValue5
  i5 := by kernel_rfl
  t22 := Tryd.underlying22
  a22 := Tryd.isAgg22
  z22 := Tryd.sizeOf22
  v22 := Tryd.zeroValue22
  i22 := by kernel_rfl
  t23 := Tryd.underlying99
  a23 := Tryd.isAgg99
  z23 := Tryd.sizeOf99
  v23 := Tryd.zeroValue99
  i23 := by kernel_rfl
  t37 := Tryd.underlying102
  a37 := Tryd.isAgg102
  z37 := Tryd.sizeOf102
  v37 := Tryd.zeroValue102
  i37 := by kernel_rfl
  t45 := Tryd.underlying109
  a45 := Tryd.isAgg109
  z45 := Tryd.sizeOf109
  v45 := Tryd.zeroValue109
  i45 := by kernel_rfl }
def Tryd.laysBin39_ren : Go.Shelf.Ren := ⟨fun | 39 => 54 | n => n, fun | 37 => 102 | 22 => 22 | 29 => 65 | 0 => 0 | 5 => 5 | 45 => 109 | n => n, fun | n => n⟩
theorem Tryd.laysBin39 : Go.Proofs.LaysBin.n39 Tryd.prog Tryd.laysBin39_ren := {
  mixed := by kernel_rfl
  f39 := Tryd.func54.trans (congrArg some (by kernel_rfl))
  t0 := Tryd.underlying0
  a0 := Tryd.isAgg0
  z0 := Tryd.sizeOf0
  v0 := Tryd.zeroValue0
  i0 := by kernel_rfl
  t5 := Tryd.underlying5
  a5 := Tryd.isAgg5
  z5 := Tryd.sizeOf5
  v5 := Tryd.zeroValue5
  i5 := by kernel_rfl
  t22 := Tryd.underlying22
  a22 := Tryd.isAgg22
  z22 := Tryd.sizeOf22
  v22 := Tryd.zeroValue22
  i22 := by kernel_rfl
  t29 := Tryd.underlying65
  a29 := Tryd.isAgg65
  z29 := Tryd.sizeOf65
  v29 := Tryd.zeroValue65
  i29 := by kernel_rfl
  t37 := Tryd.underlying102
  a37 := Tryd.isAgg102
  z37 := Tryd.sizeOf102
  v37 := Tryd.zeroValue102
  i37 := by kernel_rfl
  t45 := Tryd.underlying109
  a45 := Tryd.isAgg109
  z45 := Tryd.sizeOf109
  v45 := Tryd.zeroValue109
  i45 := by kernel_rfl }
end Go.Proofs
