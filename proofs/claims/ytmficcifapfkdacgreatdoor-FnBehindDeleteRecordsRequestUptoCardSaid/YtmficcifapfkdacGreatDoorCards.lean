/-
  DERIVED. GIVEN WITH THE SEED: THE CARDS: each row of YtmficcifapfkdacGreatDoorRows.lean that lists a variable, with what it lists TIED to the program's text (the seventh form; the later family's looks); each row that meets fmt, with fmt's text TOLD by the authors' own Lean function (tested against real Go, not proved from fmt's source: count such statements apart). THE CARD IS WHAT COUNTS. Prove the row's statement (the work); the ties are given (YtmficcifapfkdacGreatDoorTie.lean); close each card by the builder's one call (the guide's Derived/Test/ToyasCard.lean, 'card_holds'). Laid BY PROGRAM, IN A SANDBOX (cutbox-door.mjs). By AI agents, Wed Nov 11 2026. No macro, syntax, notation, axiom, sorry.
-/
import Derived.Test.YtmficcifapfkdacGreatDoorRows
import GoSem.ClaimSeven
namespace Go.Proofs.YtmficcifapfkdacGreatDoor
namespace Rows

/-- THE TIED CARD OF 'laws.FnBehindDeleteRecordsRequest'. -/
def fnBehindDeleteRecordsRequestCard : Claim7 := { stood := { row := fnBehindDeleteRecordsRequestRow, standIns := [], harness := (true, "726ec9751757fa5ce6527f74e82f12cc4bffde358ad2558529d709048907afe3"), looks := false }, kinds := [], alts := [], laidByText := true, laidKinds := [.sentinel], laidTests := true, laidLooks := .later }
def FnBehindDeleteRecordsRequestCardSaid : Prop := Claim7.holds Tryz.pinned (.plain (OpenSpec.ofChange fnBehindDeleteRecordsRequestSpec)) fnBehindDeleteRecordsRequestCard

/-- THE SECOND FORM's CARD OF 'laws.FnBehindDeleteRecordsRequest'. -/
def fnBehindDeleteRecordsRequestUptoCard : Claim7 := { stood := { row := fnBehindDeleteRecordsRequestUptoRow, standIns := [], harness := (true, "726ec9751757fa5ce6527f74e82f12cc4bffde358ad2558529d709048907afe3"), looks := false }, kinds := [], alts := [], laidByText := true, laidKinds := [.sentinel], laidTests := true, laidLooks := .later }
def FnBehindDeleteRecordsRequestUptoCardSaid : Prop := Claim7.holds Tryz.pinned (.plain (OpenSpec.upto fnBehindDeleteRecordsRequestSpec)) fnBehindDeleteRecordsRequestUptoCard
end Rows
end Go.Proofs.YtmficcifapfkdacGreatDoor
