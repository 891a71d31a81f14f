/- The reference's functions, at this seat. -/
import Derived.Test.YtipfcpfmcoklbabGreatDoorParts
namespace Go.Proofs.YtipfcpfmcoklbabGreatDoor
open Go Go.Kf

def sn : SN := { field := 51, fields := 29, msg := 31, has := 25, null := 51, whole := 31, things := 52, at_ := 24, uv := 48, fixed := 49, width := 50, counted := 71, value := 72, fld := 46, part := 23, known := 47, usual := 26, unknown := 29, write := 10, flex := 12, number := 53, usualG := 28, told1 := 27, told := 11, same := 30, fits1 := 5, fits2 := 17, fits3 := 38 }
theorem fbF : FbFacts P sn := ⟨by kernel_rfl, by kernel_rfl, by kernel_rfl⟩
theorem rowF : RowFacts P sn.field 8 := .of (by kernel_rfl) (by kernel_rfl) (by decide)
theorem spF : SpFacts P N sn := .of rdF tyY gotF rowF (by kernel_rfl) (by kernel_rfl) (by kernel_rfl) (by kernel_rfl) (by kernel_rfl) (by kernel_rfl) (by kernel_rfl) (by kernel_rfl)
theorem spT : SpTrees P N sn := ⟨by kernel_rfl, by kernel_rfl, by kernel_rfl, by kernel_rfl, by kernel_rfl, by kernel_rfl, by kernel_rfl, by kernel_rfl, by kernel_rfl, by kernel_rfl, by kernel_rfl, by kernel_rfl, by kernel_rfl, by kernel_rfl, by kernel_rfl⟩
theorem tlT : TlTrees P N sn := ⟨by kernel_rfl, by kernel_rfl, by kernel_rfl, by kernel_rfl, by kernel_rfl, by kernel_rfl⟩
theorem fitT : FitTrees P N sn := ⟨by kernel_rfl, by kernel_rfl, by kernel_rfl⟩
theorem rowTy : RowTypes P N := ⟨by kernel_rfl, by kernel_rfl, by kernel_rfl, by kernel_rfl, by kernel_rfl, of_decide_eq_true (by kernel_rfl)⟩
end Go.Proofs.YtipfcpfmcoklbabGreatDoor
