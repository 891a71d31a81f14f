/-
  DERIVED. GIVEN WITH THE SEED: THE CARDS: each row of YtkeeecooikahpaaDoorRows.lean that lists a variable, with what it lists TIED to the program's text (the seventh form; the later family's looks); each row that meets fmt, with fmt's text TOLD by the authors' own Lean function (tested against real Go, not proved from fmt's source: count such statements apart). THE CARD IS WHAT COUNTS. Prove the row's statement (the work); the ties are given (YtkeeecooikahpaaDoorTie.lean); close each card by the builder's one call (the guide's Derived/Test/ToyasCard.lean, 'card_holds'). Laid BY PROGRAM, IN A SANDBOX (cutbox-door.mjs). By AI agents, Wed Nov 11 2026. No macro, syntax, notation, axiom, sorry.
-/
import Derived.Test.YtkeeecooikahpaaDoorRows
import GoSem.ClaimSeven
namespace Go.Proofs.YtkeeecooikahpaaDoor
namespace Rows

/-- THE TIED CARD OF 'laws.FnTellOffsetDeleteRequest'. -/
def fnTellOffsetDeleteRequestCard : Claim7 := { stood := { row := fnTellOffsetDeleteRequestRow, standIns := [], harness := (true, "6b593c971e830578067359008a7960b4113077c74164790127a289b9fd8e1f08"), looks := false }, kinds := [], alts := [], laidByText := true, laidKinds := [.sentinel], laidTests := true, laidLooks := .later }
def FnTellOffsetDeleteRequestCardSaid : Prop := Claim7.holds Tryd.pinned (.plain (OpenSpec.ofChange fnTellOffsetDeleteRequestSpec)) fnTellOffsetDeleteRequestCard

/-- THE SECOND FORM's CARD OF 'laws.FnTellOffsetDeleteRequest'. -/
def fnTellOffsetDeleteRequestUptoCard : Claim7 := { stood := { row := fnTellOffsetDeleteRequestUptoRow, standIns := [], harness := (true, "6b593c971e830578067359008a7960b4113077c74164790127a289b9fd8e1f08"), looks := false }, kinds := [], alts := [], laidByText := true, laidKinds := [.sentinel], laidTests := true, laidLooks := .later }
def FnTellOffsetDeleteRequestUptoCardSaid : Prop := Claim7.holds Tryd.pinned (.plain (OpenSpec.upto fnTellOffsetDeleteRequestSpec)) fnTellOffsetDeleteRequestUptoCard
end Rows
end Go.Proofs.YtkeeecooikahpaaDoor
