/- The contracts of the package encoding/binary, at this seat. -/
import Derived.Test.YtjmkldppfkfcoaaDoorKf3
import Derived.Test.YtjmkldppfkfcoaaDoorProg
namespace Go.Proofs
open Go.Shelf
def Tryd.laysBin36_ren : Go.Shelf.Ren := ⟨fun | 36 => 25 | n => n, fun | 37 => 65 | 22 => 22 | 23 => 63 | 0 => 0 | 5 => 5 | 45 => 69 | n => n, fun | n => n⟩
theorem Tryd.laysBin36 : Go.Proofs.LaysBin.n36 Tryd.prog Tryd.laysBin36_ren := {
  mixed := by kernel_rfl
  f36 := Tryd.func25.trans (congrArg some (by kernel_rfl))
  t0 := Tryd.underlying0
  a0 := Tryd.isAgg0
  z0 := Tryd.sizeOf0
  v0 := Tryd.zeroValue0
  i0 := by kernel_rfl
  t5 := Tryd.underlying5
  a5 := Tryd.isAgg5
  z5 := Tryd.sizeOf5
  v5 := Tryd.zeroValue5
  i5 := by kernel_rfl
  t22 := Tryd.underlying22
  a22 := Tryd.isAgg22
  z22 := Tryd.sizeOf22
  v22 := Tryd.zeroValue22
  i22 := by kernel_rfl
  t23 := Tryd.underlying63
  a23 := Tryd.isAgg63
  z23 := Tryd.sizeOf63
  v23 := Tryd.zeroValue63
  i23 := by kernel_rfl
  t37 := Tryd.underlying65
  a37 := Tryd.isAgg65
  z37 := Tryd.sizeOf65
  v37 := Tryd.zeroValue65
  i37 := by kernel_rfl
  t45 := Tryd.underlying69
  a45 := Tryd.isAgg69
  z45 := Tryd.sizeOf69
  v45 := Tryd.zeroValue69
  i45 := by kernel_rfl }
def Tryd.laysBin39_ren : Go.Shelf.Ren := ⟨fun | 39 => 29 | n => n, fun | 37 => 65 | 22 => 22 | 29 => 48 | 0 => 0 | 5 => 5 | 45 => 69 | n => n, fun | n => n⟩
theorem Tryd.laysBin39 : Go.Proofs.LaysBin.n39 Tryd.prog Tryd.laysBin39_ren := {
  mixed := by kernel_rfl
  f39 := Tryd.func29.trans (congrArg some (by kernel_rfl))
  t0 := Tryd.underlying0
  a0 := Tryd.isAgg0
  z0 := Tryd.sizeOf0
  v0 := Tryd.zeroValue0
  i0 := by kernel_rfl
  t5 := Tryd.underlying5
  a5 := Tryd.isAgg5
  z5 := Tryd.sizeOf5
  v5 := Tryd.zeroValue5
  i5 := by kernel_rfl
  t22 := Tryd.underlying22
  a22 := Tryd.isAgg22
  z22 := Tryd.sizeOf22
  v22 := Tryd.zeroValue22
  i22 := by kernel_rfl
  t29 := Tryd.underlying48
  a29 := Tryd.isAgg48
  z29 := Tryd.sizeOf48
  v29 := Tryd.zeroValue48
  i29 := by kernel_rfl
  t37 := Tryd.underlying65
  a37 := Tryd.isAgg65
  z37 := Tryd.sizeOf65
  v37 := Tryd.zeroValue65
  i37 := by kernel_rfl
  t45 := Tryd.underlying69
  a45 := Tryd.isAgg69
  z45 := Tryd.sizeOf69
  v45 := Tryd.zeroValue69
  i45 := by kernel_rfl }
end Go.Proofs
