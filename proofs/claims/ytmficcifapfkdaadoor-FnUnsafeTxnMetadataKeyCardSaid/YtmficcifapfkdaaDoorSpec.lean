/- The reference's functions, at this seat. -/
import Derived.Test.YtmficcifapfkdaaDoorParts
namespace Go.Proofs.YtmficcifapfkdaaDoor
open Go Go.Kf

def sn : SN := { field := 52, fields := 30, msg := 32, has := 24, null := 35, whole := 31, things := 36, at_ := 26, uv := 29, fixed := 13, width := 39, counted := 37, value := 38, fld := 25, part := 19, known := 27, usual := 28, unknown := 30, write := 14, flex := 99999, number := 99999, usualG := 99999, told1 := 99999, told := 99999, same := 16, fits1 := 99999, fits2 := 99999, fits3 := 99999 }
theorem fbF : FbFacts P sn := ⟨by kernel_rfl, by kernel_rfl, by kernel_rfl⟩
theorem rowF : RowFacts P sn.field 8 := .of (by kernel_rfl) (by kernel_rfl) (by decide)
theorem spF : SpFacts P N sn := .of rdF tyY gotF rowF (by kernel_rfl) (by kernel_rfl) (by kernel_rfl) (by kernel_rfl) (by kernel_rfl) (by kernel_rfl) (by kernel_rfl) (by kernel_rfl)
theorem spT : SpTrees P N sn := ⟨by kernel_rfl, by kernel_rfl, by kernel_rfl, by kernel_rfl, by kernel_rfl, by kernel_rfl, by kernel_rfl, by kernel_rfl, by kernel_rfl, by kernel_rfl, by kernel_rfl, by kernel_rfl, by kernel_rfl, by kernel_rfl, by kernel_rfl⟩
end Go.Proofs.YtmficcifapfkdaaDoor
