/-
  DERIVED. GIVEN WITH THE SEED: THE CARDS: each row of YtpibjbgaedphbabGreatDoorRows.lean that lists a variable, with what it lists TIED to the program's text (the seventh form; the later family's looks); each row that meets fmt, with fmt's text TOLD by the authors' own Lean function (tested against real Go, not proved from fmt's source: count such statements apart). THE CARD IS WHAT COUNTS. Prove the row's statement (the work); the ties are given (YtpibjbgaedphbabGreatDoorTie.lean); close each card by the builder's one call (the guide's Derived/Test/ToyasCard.lean, 'card_holds'). Laid BY PROGRAM, IN A SANDBOX (cutbox-door.mjs). By AI agents, Wed Nov 11 2026. No macro, syntax, notation, axiom, sorry.
-/
import Derived.Test.YtpibjbgaedphbabGreatDoorRows
import GoSem.ClaimSeven
namespace Go.Proofs.YtpibjbgaedphbabGreatDoor
namespace Rows

/-- THE TIED CARD OF 'laws.FnDefaultApiVersionsResponse'. -/
def fnDefaultApiVersionsResponseCard : Claim7 := { stood := { row := fnDefaultApiVersionsResponseRow, standIns := [], harness := (true, "cba6ddc1ed4b0622c6bdfbc6cc614835269c7bacac53dde44cd1f69b74574d40"), looks := false }, kinds := [], alts := [], laidByText := true, laidKinds := [.sentinel], laidTests := true, laidLooks := .later }
def FnDefaultApiVersionsResponseCardSaid : Prop := Claim7.holds Tryz.pinned (.plain (OpenSpec.ofChange fnDefaultApiVersionsResponseSpec)) fnDefaultApiVersionsResponseCard

/-- THE SECOND FORM's CARD OF 'laws.FnDefaultApiVersionsResponse'. -/
def fnDefaultApiVersionsResponseUptoCard : Claim7 := { stood := { row := fnDefaultApiVersionsResponseUptoRow, standIns := [], harness := (true, "cba6ddc1ed4b0622c6bdfbc6cc614835269c7bacac53dde44cd1f69b74574d40"), looks := false }, kinds := [], alts := [], laidByText := true, laidKinds := [.sentinel], laidTests := true, laidLooks := .later }
def FnDefaultApiVersionsResponseUptoCardSaid : Prop := Claim7.holds Tryz.pinned (.plain (OpenSpec.upto fnDefaultApiVersionsResponseSpec)) fnDefaultApiVersionsResponseUptoCard
end Rows
end Go.Proofs.YtpibjbgaedphbabGreatDoor
