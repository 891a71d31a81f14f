/-
  DERIVED. GIVEN WITH THE SEED: THE CARDS: each row of YtipfcpfmcoklbabGreatDoorRows.lean that lists a variable, with what it lists TIED to the program's text (the seventh form; the later family's looks); each row that meets fmt, with fmt's text TOLD by the authors' own Lean function (tested against real Go, not proved from fmt's source: count such statements apart). THE CARD IS WHAT COUNTS. Prove the row's statement (the work); the ties are given (YtipfcpfmcoklbabGreatDoorTie.lean); close each card by the builder's one call (the guide's Derived/Test/ToyasCard.lean, 'card_holds'). Laid BY PROGRAM, IN A SANDBOX (cutbox-door.mjs). By AI agents, Wed Nov 11 2026. No macro, syntax, notation, axiom, sorry.
-/
import Derived.Test.YtipfcpfmcoklbabGreatDoorRows
import GoSem.ClaimSeven
namespace Go.Proofs.YtipfcpfmcoklbabGreatDoor
namespace Rows

/-- THE TIED CARD OF 'laws.FnTellSyncGroupResponse'. -/
def fnTellSyncGroupResponseCard : Claim7 := { stood := { row := fnTellSyncGroupResponseRow, standIns := [], harness := (true, "726c7db2e22e1999d673e38da33c51ff353c54db49952f24bc44831c3a0cd755"), looks := false }, kinds := [], alts := [], laidByText := true, laidKinds := [.sentinel], laidTests := true, laidLooks := .later }
def FnTellSyncGroupResponseCardSaid : Prop := Claim7.holds Tryz.pinned (.plain (OpenSpec.ofChange fnTellSyncGroupResponseSpec)) fnTellSyncGroupResponseCard

/-- THE TIED CARD OF 'laws.FnTellReadShareGroupStateSummaryRequest'. -/
def fnTellReadShareGroupStateSummaryRequestCard : Claim7 := { stood := { row := fnTellReadShareGroupStateSummaryRequestRow, standIns := [], harness := (true, "726c7db2e22e1999d673e38da33c51ff353c54db49952f24bc44831c3a0cd755"), looks := false }, kinds := [], alts := [], laidByText := true, laidKinds := [.sentinel], laidTests := true, laidLooks := .later }
def FnTellReadShareGroupStateSummaryRequestCardSaid : Prop := Claim7.holds Tryz.pinned (.plain (OpenSpec.ofChange fnTellReadShareGroupStateSummaryRequestSpec)) fnTellReadShareGroupStateSummaryRequestCard

/-- THE SECOND FORM's CARD OF 'laws.FnTellSyncGroupResponse'. -/
def fnTellSyncGroupResponseUptoCard : Claim7 := { stood := { row := fnTellSyncGroupResponseUptoRow, standIns := [], harness := (true, "726c7db2e22e1999d673e38da33c51ff353c54db49952f24bc44831c3a0cd755"), looks := false }, kinds := [], alts := [], laidByText := true, laidKinds := [.sentinel], laidTests := true, laidLooks := .later }
def FnTellSyncGroupResponseUptoCardSaid : Prop := Claim7.holds Tryz.pinned (.plain (OpenSpec.upto fnTellSyncGroupResponseSpec)) fnTellSyncGroupResponseUptoCard

/-- THE SECOND FORM's CARD OF 'laws.FnTellReadShareGroupStateSummaryRequest'. -/
def fnTellReadShareGroupStateSummaryRequestUptoCard : Claim7 := { stood := { row := fnTellReadShareGroupStateSummaryRequestUptoRow, standIns := [], harness := (true, "726c7db2e22e1999d673e38da33c51ff353c54db49952f24bc44831c3a0cd755"), looks := false }, kinds := [], alts := [], laidByText := true, laidKinds := [.sentinel], laidTests := true, laidLooks := .later }
def FnTellReadShareGroupStateSummaryRequestUptoCardSaid : Prop := Claim7.holds Tryz.pinned (.plain (OpenSpec.upto fnTellReadShareGroupStateSummaryRequestSpec)) fnTellReadShareGroupStateSummaryRequestUptoCard
end Rows
end Go.Proofs.YtipfcpfmcoklbabGreatDoor
