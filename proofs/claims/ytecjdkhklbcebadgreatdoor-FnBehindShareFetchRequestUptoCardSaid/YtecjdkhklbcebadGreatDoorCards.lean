/-
  DERIVED. GIVEN WITH THE SEED: THE CARDS: each row of YtecjdkhklbcebadGreatDoorRows.lean that lists a variable, with what it lists TIED to the program's text (the seventh form; the later family's looks); each row that meets fmt, with fmt's text TOLD by the authors' own Lean function (tested against real Go, not proved from fmt's source: count such statements apart). THE CARD IS WHAT COUNTS. Prove the row's statement (the work); the ties are given (YtecjdkhklbcebadGreatDoorTie.lean); close each card by the builder's one call (the guide's Derived/Test/ToyasCard.lean, 'card_holds'). Laid BY PROGRAM, IN A SANDBOX (cutbox-door.mjs). By AI agents, Wed Nov 11 2026. No macro, syntax, notation, axiom, sorry.
-/
import Derived.Test.YtecjdkhklbcebadGreatDoorRows
import GoSem.ClaimSeven
namespace Go.Proofs.YtecjdkhklbcebadGreatDoor
namespace Rows

/-- THE TIED CARD OF 'laws.FnBehindBeginQuorumEpochRequest'. -/
def fnBehindBeginQuorumEpochRequestCard : Claim7 := { stood := { row := fnBehindBeginQuorumEpochRequestRow, standIns := [], harness := (true, "d655b839937cb96e693cdf61be7c6b87750d1a1edbd85bd139293017d713b0f9"), looks := false }, kinds := [], alts := [], laidByText := true, laidKinds := [.sentinel], laidTests := true, laidLooks := .later }
def FnBehindBeginQuorumEpochRequestCardSaid : Prop := Claim7.holds Tryz.pinned (.plain (OpenSpec.ofChange fnBehindBeginQuorumEpochRequestSpec)) fnBehindBeginQuorumEpochRequestCard

/-- THE TIED CARD OF 'laws.FnBehindShareFetchRequest'. -/
def fnBehindShareFetchRequestCard : Claim7 := { stood := { row := fnBehindShareFetchRequestRow, standIns := [], harness := (true, "d655b839937cb96e693cdf61be7c6b87750d1a1edbd85bd139293017d713b0f9"), looks := false }, kinds := [], alts := [], laidByText := true, laidKinds := [.sentinel], laidTests := true, laidLooks := .later }
def FnBehindShareFetchRequestCardSaid : Prop := Claim7.holds Tryz.pinned (.plain (OpenSpec.ofChange fnBehindShareFetchRequestSpec)) fnBehindShareFetchRequestCard

/-- THE SECOND FORM's CARD OF 'laws.FnBehindBeginQuorumEpochRequest'. -/
def fnBehindBeginQuorumEpochRequestUptoCard : Claim7 := { stood := { row := fnBehindBeginQuorumEpochRequestUptoRow, standIns := [], harness := (true, "d655b839937cb96e693cdf61be7c6b87750d1a1edbd85bd139293017d713b0f9"), looks := false }, kinds := [], alts := [], laidByText := true, laidKinds := [.sentinel], laidTests := true, laidLooks := .later }
def FnBehindBeginQuorumEpochRequestUptoCardSaid : Prop := Claim7.holds Tryz.pinned (.plain (OpenSpec.upto fnBehindBeginQuorumEpochRequestSpec)) fnBehindBeginQuorumEpochRequestUptoCard

/-- THE SECOND FORM's CARD OF 'laws.FnBehindShareFetchRequest'. -/
def fnBehindShareFetchRequestUptoCard : Claim7 := { stood := { row := fnBehindShareFetchRequestUptoRow, standIns := [], harness := (true, "d655b839937cb96e693cdf61be7c6b87750d1a1edbd85bd139293017d713b0f9"), looks := false }, kinds := [], alts := [], laidByText := true, laidKinds := [.sentinel], laidTests := true, laidLooks := .later }
def FnBehindShareFetchRequestUptoCardSaid : Prop := Claim7.holds Tryz.pinned (.plain (OpenSpec.upto fnBehindShareFetchRequestSpec)) fnBehindShareFetchRequestUptoCard
end Rows
end Go.Proofs.YtecjdkhklbcebadGreatDoor
