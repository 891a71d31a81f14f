/- The reference's functions, at this seat. -/
import Derived.Test.YtcinbiokghpilabGreatDoorParts
namespace Go.Proofs.YtcinbiokghpilabGreatDoor
open Go Go.Kf

def sn : SN := { field := 51, fields := 29, msg := 31, has := 30, null := 62, whole := 36, things := 63, at_ := 29, uv := 59, fixed := 60, width := 61, counted := 96, value := 97, fld := 57, part := 28, known := 58, usual := 31, unknown := 34, write := 11, flex := 13, number := 64, usualG := 33, told1 := 32, told := 12, same := 35, fits1 := 6, fits2 := 21, fits3 := 49 }
theorem fbF : FbFacts P sn := ⟨by kernel_rfl, by kernel_rfl, by kernel_rfl⟩
theorem rowF : RowFacts P sn.field 8 := .of (by kernel_rfl) (by kernel_rfl) (by decide)
theorem spF : SpFacts P N sn := .of rdF tyY gotF rowF (by kernel_rfl) (by kernel_rfl) (by kernel_rfl) (by kernel_rfl) (by kernel_rfl) (by kernel_rfl) (by kernel_rfl) (by kernel_rfl)
theorem spT : SpTrees P N sn := ⟨by kernel_rfl, by kernel_rfl, by kernel_rfl, by kernel_rfl, by kernel_rfl, by kernel_rfl, by kernel_rfl, by kernel_rfl, by kernel_rfl, by kernel_rfl, by kernel_rfl, by kernel_rfl, by kernel_rfl, by kernel_rfl, by kernel_rfl⟩
theorem tlT : TlTrees P N sn := ⟨by kernel_rfl, by kernel_rfl, by kernel_rfl, by kernel_rfl, by kernel_rfl, by kernel_rfl⟩
theorem fitT : FitTrees P N sn := ⟨by kernel_rfl, by kernel_rfl, by kernel_rfl⟩
theorem rowTy : RowTypes P N := ⟨by kernel_rfl, by kernel_rfl, by kernel_rfl, by kernel_rfl, by kernel_rfl, of_decide_eq_true (by kernel_rfl)⟩
end Go.Proofs.YtcinbiokghpilabGreatDoor
