/- The reference's functions, at this seat. -/
import Derived.Test.YtcinbiokghpilaaGreatDoorParts
namespace Go.Proofs.YtcinbiokghpilaaGreatDoor
open Go Go.Kf

def sn : SN := { field := 51, fields := 29, msg := 31, has := 29, null := 60, whole := 35, things := 61, at_ := 28, uv := 57, fixed := 58, width := 59, counted := 90, value := 91, fld := 55, part := 27, known := 56, usual := 30, unknown := 33, write := 11, flex := 13, number := 62, usualG := 32, told1 := 31, told := 12, same := 34, fits1 := 6, fits2 := 21, fits3 := 48 }
theorem fbF : FbFacts P sn := ⟨by kernel_rfl, by kernel_rfl, by kernel_rfl⟩
theorem rowF : RowFacts P sn.field 8 := .of (by kernel_rfl) (by kernel_rfl) (by decide)
theorem spF : SpFacts P N sn := .of rdF tyY gotF rowF (by kernel_rfl) (by kernel_rfl) (by kernel_rfl) (by kernel_rfl) (by kernel_rfl) (by kernel_rfl) (by kernel_rfl) (by kernel_rfl)
theorem spT : SpTrees P N sn := ⟨by kernel_rfl, by kernel_rfl, by kernel_rfl, by kernel_rfl, by kernel_rfl, by kernel_rfl, by kernel_rfl, by kernel_rfl, by kernel_rfl, by kernel_rfl, by kernel_rfl, by kernel_rfl, by kernel_rfl, by kernel_rfl, by kernel_rfl⟩
theorem tlT : TlTrees P N sn := ⟨by kernel_rfl, by kernel_rfl, by kernel_rfl, by kernel_rfl, by kernel_rfl, by kernel_rfl⟩
theorem fitT : FitTrees P N sn := ⟨by kernel_rfl, by kernel_rfl, by kernel_rfl⟩
theorem rowTy : RowTypes P N := ⟨by kernel_rfl, by kernel_rfl, by kernel_rfl, by kernel_rfl, by kernel_rfl, of_decide_eq_true (by kernel_rfl)⟩
end Go.Proofs.YtcinbiokghpilaaGreatDoor
