/- The contracts of the package encoding/binary, at this seat. -/
import Derived.Test.YtmficcifapfkdaaDoorKf3
import Derived.Test.YtmficcifapfkdaaDoorProg
namespace Go.Proofs
open Go.Shelf
def Tryd.laysBin36_ren : Go.Shelf.Ren := ⟨fun | 36 => 32 | n => n, fun | 37 => 77 | 22 => 22 | 23 => 75 | 0 => 0 | 5 => 5 | 45 => 86 | n => n, fun | n => n⟩
theorem Tryd.laysBin36 : Go.Proofs.LaysBin.n36 Tryd.prog Tryd.laysBin36_ren := {
  mixed := by kernel_rfl
  f36 := Tryd.func32.trans (congrArg some (by kernel_rfl))
  t0 := Tryd.underlying0
  a0 := Tryd.isAgg0
  z0 := Tryd.sizeOf0
  v0 := Tryd.zeroValue0
  i0 := by kernel_rfl
  t5 := Tryd.underlying5
  a5 := Tryd.isAgg5
  z5 := Tryd.sizeOf5
  v5 := Tryd.zeroValue5
  i5 := by kernel_rfl
  t22 := Tryd.underlying22
  a22 := Tryd.isAgg22
  z22 := Tryd.sizeOf22
  v22 := Tryd.zeroValue22
  i22 := by kernel_rfl
  t23 := Tryd.underlying75
  a23 := Tryd.isAgg75
  z23 := Tryd.sizeOf75
  v23 := Tryd.zeroValue75
  i23 := by kernel_rfl
  t37 := Tryd.underlying77
  a37 := Tryd.isAgg77
  z37 := Tryd.sizeOf77
  v37 := Tryd.zeroValue77
  i37 := by kernel_rfl
  t45 := Tryd.underlying86
  a45 := Tryd.isAgg86
  z45 := Tryd.sizeOf86
  v45 := Tryd.zeroValue86
  i45 := by kernel_rfl }
end Go.Proofs
