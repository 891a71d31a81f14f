/-
  DERIVED. GIVEN WITH THE SEED: THE CARDS: each row of YteeamkddgccpeaaGreatDoorRows.lean that lists a variable, with what it lists TIED to the program's text (the seventh form; the later family's looks); each row that meets fmt, with fmt's text TOLD by the authors' own Lean function (tested against real Go, not proved from fmt's source: count such statements apart). THE CARD IS WHAT COUNTS. Prove the row's statement (the work); the ties are given (YteeamkddgccpeaaGreatDoorTie.lean); close each card by the builder's one call (the guide's Derived/Test/ToyasCard.lean, 'card_holds'). Laid BY PROGRAM, IN A SANDBOX (cutbox-door.mjs). By AI agents, Wed Nov 11 2026. No macro, syntax, notation, axiom, sorry.
-/
import Derived.Test.YteeamkddgccpeaaGreatDoorRows
import GoSem.ClaimSeven
namespace Go.Proofs.YteeamkddgccpeaaGreatDoor
namespace Rows

/-- THE TIED CARD OF 'laws.FnFrameListGroupsRequest'. -/
def fnFrameListGroupsRequestCard : Claim7 := { stood := { row := fnFrameListGroupsRequestRow, standIns := [], harness := (true, "8bd9f614c17cf1977e18dbc9d35a3719264bb19696a3a582f0e92d8e5fa977f6"), looks := false }, kinds := [], alts := [], laidByText := true, laidKinds := [.sentinel], laidTests := true, laidLooks := .later }
def FnFrameListGroupsRequestCardSaid : Prop := Claim7.holds Tryz.pinned (.plain (OpenSpec.ofChange fnFrameListGroupsRequestSpec)) fnFrameListGroupsRequestCard

/-- THE SECOND FORM's CARD OF 'laws.FnFrameListGroupsRequest'. -/
def fnFrameListGroupsRequestUptoCard : Claim7 := { stood := { row := fnFrameListGroupsRequestUptoRow, standIns := [], harness := (true, "8bd9f614c17cf1977e18dbc9d35a3719264bb19696a3a582f0e92d8e5fa977f6"), looks := false }, kinds := [], alts := [], laidByText := true, laidKinds := [.sentinel], laidTests := true, laidLooks := .later }
def FnFrameListGroupsRequestUptoCardSaid : Prop := Claim7.holds Tryz.pinned (.plain (OpenSpec.upto fnFrameListGroupsRequestSpec)) fnFrameListGroupsRequestUptoCard
end Rows
end Go.Proofs.YteeamkddgccpeaaGreatDoor
