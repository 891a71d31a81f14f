/-
  DERIVED. GIVEN WITH THE SEED: THE CARDS: each row of YtipfcpfmcoklbaaDoorRows.lean that lists a variable, with what it lists TIED to the program's text (the seventh form; the later family's looks); each row that meets fmt, with fmt's text TOLD by the authors' own Lean function (tested against real Go, not proved from fmt's source: count such statements apart). THE CARD IS WHAT COUNTS. Prove the row's statement (the work); the ties are given (YtipfcpfmcoklbaaDoorTie.lean); close each card by the builder's one call (the guide's Derived/Test/ToyasCard.lean, 'card_holds'). Laid BY PROGRAM, IN A SANDBOX (cutbox-door.mjs). By AI agents, Wed Nov 11 2026. No macro, syntax, notation, axiom, sorry.
-/
import Derived.Test.YtipfcpfmcoklbaaDoorRows
import GoSem.ClaimSeven
namespace Go.Proofs.YtipfcpfmcoklbaaDoor
namespace Rows

/-- THE TIED CARD OF 'laws.FnTellDescribeGroupsRequest'. -/
def fnTellDescribeGroupsRequestCard : Claim7 := { stood := { row := fnTellDescribeGroupsRequestRow, standIns := [], harness := (true, "76ece98cd5607e843dffd008832929ca365817ce0d0359d36238eaf36cb624d6"), looks := false }, kinds := [], alts := [], laidByText := true, laidKinds := [.sentinel], laidTests := true, laidLooks := .later }
def FnTellDescribeGroupsRequestCardSaid : Prop := Claim7.holds Tryd.pinned (.plain (OpenSpec.ofChange fnTellDescribeGroupsRequestSpec)) fnTellDescribeGroupsRequestCard

/-- THE TIED CARD OF 'laws.FnTellFindCoordinatorRequest'. -/
def fnTellFindCoordinatorRequestCard : Claim7 := { stood := { row := fnTellFindCoordinatorRequestRow, standIns := [], harness := (true, "76ece98cd5607e843dffd008832929ca365817ce0d0359d36238eaf36cb624d6"), looks := false }, kinds := [], alts := [], laidByText := true, laidKinds := [.sentinel], laidTests := true, laidLooks := .later }
def FnTellFindCoordinatorRequestCardSaid : Prop := Claim7.holds Tryd.pinned (.plain (OpenSpec.ofChange fnTellFindCoordinatorRequestSpec)) fnTellFindCoordinatorRequestCard

/-- THE SECOND FORM's CARD OF 'laws.FnTellDescribeGroupsRequest'. -/
def fnTellDescribeGroupsRequestUptoCard : Claim7 := { stood := { row := fnTellDescribeGroupsRequestUptoRow, standIns := [], harness := (true, "76ece98cd5607e843dffd008832929ca365817ce0d0359d36238eaf36cb624d6"), looks := false }, kinds := [], alts := [], laidByText := true, laidKinds := [.sentinel], laidTests := true, laidLooks := .later }
def FnTellDescribeGroupsRequestUptoCardSaid : Prop := Claim7.holds Tryd.pinned (.plain (OpenSpec.upto fnTellDescribeGroupsRequestSpec)) fnTellDescribeGroupsRequestUptoCard

/-- THE SECOND FORM's CARD OF 'laws.FnTellFindCoordinatorRequest'. -/
def fnTellFindCoordinatorRequestUptoCard : Claim7 := { stood := { row := fnTellFindCoordinatorRequestUptoRow, standIns := [], harness := (true, "76ece98cd5607e843dffd008832929ca365817ce0d0359d36238eaf36cb624d6"), looks := false }, kinds := [], alts := [], laidByText := true, laidKinds := [.sentinel], laidTests := true, laidLooks := .later }
def FnTellFindCoordinatorRequestUptoCardSaid : Prop := Claim7.holds Tryd.pinned (.plain (OpenSpec.upto fnTellFindCoordinatorRequestSpec)) fnTellFindCoordinatorRequestUptoCard
end Rows
end Go.Proofs.YtipfcpfmcoklbaaDoor
