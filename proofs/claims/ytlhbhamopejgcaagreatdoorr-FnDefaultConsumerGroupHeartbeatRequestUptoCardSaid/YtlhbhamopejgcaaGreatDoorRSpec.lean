/- The reference's functions, at this seat. -/
import Derived.Test.YtlhbhamopejgcaaGreatDoorRParts
namespace Go.Proofs.YtlhbhamopejgcaaGreatDoorR
open Go Go.Kf

def sn : SN := { field := 50, fields := 29, msg := 31, has := 30, null := 56, whole := 36, things := 57, at_ := 21, uv := 34, fixed := 60, width := 62, counted := 58, value := 59, fld := 31, part := 20, known := 32, usual := 33, unknown := 35, write := 9, flex := 99999, number := 22, usualG := 99999, told1 := 99999, told := 99999, same := 61, fits1 := 4, fits2 := 12, fits3 := 23 }
theorem fbF : FbFacts P sn := ⟨by kernel_rfl, by kernel_rfl, by kernel_rfl⟩
theorem rowF : RowFacts P sn.field 8 := .of (by kernel_rfl) (by kernel_rfl) (by decide)
theorem spF : SpFacts P N sn := .of rdF tyY gotF rowF (by kernel_rfl) (by kernel_rfl) (by kernel_rfl) (by kernel_rfl) (by kernel_rfl) (by kernel_rfl) (by kernel_rfl) (by kernel_rfl)
theorem spT : SpTrees P N sn := ⟨by kernel_rfl, by kernel_rfl, by kernel_rfl, by kernel_rfl, by kernel_rfl, by kernel_rfl, by kernel_rfl, by kernel_rfl, by kernel_rfl, by kernel_rfl, by kernel_rfl, by kernel_rfl, by kernel_rfl, by kernel_rfl, by kernel_rfl⟩
theorem fitT : FitTrees P N sn := ⟨by kernel_rfl, by kernel_rfl, by kernel_rfl⟩
theorem rowTy : RowTypes P N := ⟨by kernel_rfl, by kernel_rfl, by kernel_rfl, by kernel_rfl, by kernel_rfl, of_decide_eq_true (by kernel_rfl)⟩
end Go.Proofs.YtlhbhamopejgcaaGreatDoorR
