/- The reference's functions, at this seat. -/
import Derived.Test.YtcinbiokghpilacGreatDoorRRParts
namespace Go.Proofs.YtcinbiokghpilacGreatDoorRR
open Go Go.Kf

def sn : SN := { field := 51, fields := 29, msg := 31, has := 23, null := 45, whole := 29, things := 46, at_ := 22, uv := 42, fixed := 43, width := 44, counted := 77, value := 78, fld := 40, part := 21, known := 41, usual := 24, unknown := 27, write := 9, flex := 11, number := 47, usualG := 26, told1 := 25, told := 10, same := 28, fits1 := 4, fits2 := 13, fits3 := 30 }
theorem fbF : FbFacts P sn := ⟨by kernel_rfl, by kernel_rfl, by kernel_rfl⟩
theorem rowF : RowFacts P sn.field 8 := .of (by kernel_rfl) (by kernel_rfl) (by decide)
theorem spF : SpFacts P N sn := .of rdF tyY gotF rowF (by kernel_rfl) (by kernel_rfl) (by kernel_rfl) (by kernel_rfl) (by kernel_rfl) (by kernel_rfl) (by kernel_rfl) (by kernel_rfl)
theorem spT : SpTrees P N sn := ⟨by kernel_rfl, by kernel_rfl, by kernel_rfl, by kernel_rfl, by kernel_rfl, by kernel_rfl, by kernel_rfl, by kernel_rfl, by kernel_rfl, by kernel_rfl, by kernel_rfl, by kernel_rfl, by kernel_rfl, by kernel_rfl, by kernel_rfl⟩
theorem tlT : TlTrees P N sn := ⟨by kernel_rfl, by kernel_rfl, by kernel_rfl, by kernel_rfl, by kernel_rfl, by kernel_rfl⟩
theorem fitT : FitTrees P N sn := ⟨by kernel_rfl, by kernel_rfl, by kernel_rfl⟩
theorem rowTy : RowTypes P N := ⟨by kernel_rfl, by kernel_rfl, by kernel_rfl, by kernel_rfl, by kernel_rfl, of_decide_eq_true (by kernel_rfl)⟩
end Go.Proofs.YtcinbiokghpilacGreatDoorRR
