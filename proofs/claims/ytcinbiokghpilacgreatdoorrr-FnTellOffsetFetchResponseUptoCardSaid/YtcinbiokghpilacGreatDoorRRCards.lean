/-
  DERIVED. GIVEN WITH THE SEED: THE CARDS: each row of YtcinbiokghpilacGreatDoorRRRows.lean that lists a variable, with what it lists TIED to the program's text (the seventh form; the later family's looks); each row that meets fmt, with fmt's text TOLD by the authors' own Lean function (tested against real Go, not proved from fmt's source: count such statements apart). THE CARD IS WHAT COUNTS. Prove the row's statement (the work); the ties are given (YtcinbiokghpilacGreatDoorRRTie.lean); close each card by the builder's one call (the guide's Derived/Test/ToyasCard.lean, 'card_holds'). Laid BY PROGRAM, IN A SANDBOX (cutbox-door.mjs). By AI agents, Wed Nov 11 2026. No macro, syntax, notation, axiom, sorry.
-/
import Derived.Test.YtcinbiokghpilacGreatDoorRRRows
import GoSem.ClaimSeven
namespace Go.Proofs.YtcinbiokghpilacGreatDoorRR
namespace Rows

/-- THE TIED CARD OF 'laws.FnTellOffsetFetchResponse'. -/
def fnTellOffsetFetchResponseCard : Claim7 := { stood := { row := fnTellOffsetFetchResponseRow, standIns := [], harness := (true, "9f0d85823cf560dbe0c977190adcfa926884ff718a5d3f1c7e2997de97677e73"), looks := false }, kinds := [], alts := [], laidByText := true, laidKinds := [.sentinel], laidTests := true, laidLooks := .later }
def FnTellOffsetFetchResponseCardSaid : Prop := Claim7.holds Tryz.pinned (.plain (OpenSpec.ofChange fnTellOffsetFetchResponseSpec)) fnTellOffsetFetchResponseCard

/-- THE SECOND FORM's CARD OF 'laws.FnTellOffsetFetchResponse'. -/
def fnTellOffsetFetchResponseUptoCard : Claim7 := { stood := { row := fnTellOffsetFetchResponseUptoRow, standIns := [], harness := (true, "9f0d85823cf560dbe0c977190adcfa926884ff718a5d3f1c7e2997de97677e73"), looks := false }, kinds := [], alts := [], laidByText := true, laidKinds := [.sentinel], laidTests := true, laidLooks := .later }
def FnTellOffsetFetchResponseUptoCardSaid : Prop := Claim7.holds Tryz.pinned (.plain (OpenSpec.upto fnTellOffsetFetchResponseSpec)) fnTellOffsetFetchResponseUptoCard
end Rows
end Go.Proofs.YtcinbiokghpilacGreatDoorRR
