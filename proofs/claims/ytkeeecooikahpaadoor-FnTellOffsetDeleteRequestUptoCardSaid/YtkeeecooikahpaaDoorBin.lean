/- The contracts of the package encoding/binary, at this seat. -/
import Derived.Test.YtkeeecooikahpaaDoorKf5
import Derived.Test.YtkeeecooikahpaaDoorProg
namespace Go.Proofs
open Go.Shelf
def Tryd.laysBin36_ren : Go.Shelf.Ren := ⟨fun | 36 => 57 | n => n, fun | 37 => 108 | 22 => 22 | 23 => 103 | 0 => 0 | 5 => 5 | 45 => 101 | n => n, fun | n => n⟩
theorem Tryd.laysBin36 : Go.Proofs.LaysBin.n36 Tryd.prog Tryd.laysBin36_ren := {
  mixed := by kernel_rfl
  f36 := Tryd.func57.trans (congrArg some (by kernel_rfl))
  t0 := Tryd.underlying0
  a0 := Tryd.isAgg0
  z0 := Tryd.sizeOf0
  v0 := Tryd.zeroValue0
  i0 := by kernel_rfl
  t5 := Tryd.underlying5
  a5 := Tryd.isAgg5
  z5 := Tryd.sizeOf5
  v5 := Tryd.zeroValue5
  i5 := by kernel_rfl
  t22 := Tryd.underlying22
  a22 := Tryd.isAgg22
  z22 := Tryd.sizeOf22
  v22 := Tryd.zeroValue22
  i22 := by kernel_rfl
  t23 := Tryd.underlying103
  a23 := Tryd.isAgg103
  z23 := Tryd.sizeOf103
  v23 := Tryd.zeroValue103
  i23 := by kernel_rfl
  t37 := Tryd.underlying108
  a37 := Tryd.isAgg108
  z37 := Tryd.sizeOf108
  v37 := Tryd.zeroValue108
  i37 := by kernel_rfl
  t45 := Tryd.underlying101
  a45 := Tryd.isAgg101
  z45 := Tryd.sizeOf101
  v45 := Tryd.zeroValue101
  i45 := by kernel_rfl }
def Tryd.laysBin39_ren : Go.Shelf.Ren := ⟨fun | 39 => 56 | n => n, fun | 37 => 108 | 22 => 22 | 29 => 64 | 0 => 0 | 5 => 5 | 45 => 101 | n => n, fun | n => n⟩
theorem Tryd.laysBin39 : Go.Proofs.LaysBin.n39 Tryd.prog Tryd.laysBin39_ren := {
  mixed := by kernel_rfl
  f39 := Tryd.func56.trans (congrArg some (by kernel_rfl))
  t0 := Tryd.underlying0
  a0 := Tryd.isAgg0
  z0 := Tryd.sizeOf0
  v0 := Tryd.zeroValue0
  i0 := by kernel_rfl
  t5 := Tryd.underlying5
  a5 := Tryd.isAgg5
  z5 := Tryd.sizeOf5
  v5 := Tryd.zeroValue5
  i5 := by kernel_rfl
  t22 := Tryd.underlying22
  a22 := Tryd.isAgg22
  z22 := Tryd.sizeOf22
  v22 := Tryd.zeroValue22
  i22 := by kernel_rfl
  t29 := Tryd.underlying64
  a29 := Tryd.isAgg64
  z29 := Tryd.sizeOf64
  v29 := Tryd.zeroValue64
  i29 := by kernel_rfl
  t37 := Tryd.underlying108
  a37 := Tryd.isAgg108
  z37 := Tryd.sizeOf108
  v37 := Tryd.zeroValue108
  i37 := by kernel_rfl
  t45 := Tryd.underlying101
  a45 := Tryd.isAgg101
  z45 := Tryd.sizeOf101
  v45 := Tryd.zeroValue101
  i45 := by kernel_rfl }
end Go.Proofs
