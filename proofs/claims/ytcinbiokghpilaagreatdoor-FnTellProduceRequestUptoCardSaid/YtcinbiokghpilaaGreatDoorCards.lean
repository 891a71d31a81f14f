/-
  DERIVED. GIVEN WITH THE SEED: THE CARDS: each row of YtcinbiokghpilaaGreatDoorRows.lean that lists a variable, with what it lists TIED to the program's text (the seventh form; the later family's looks); each row that meets fmt, with fmt's text TOLD by the authors' own Lean function (tested against real Go, not proved from fmt's source: count such statements apart). THE CARD IS WHAT COUNTS. Prove the row's statement (the work); the ties are given (YtcinbiokghpilaaGreatDoorTie.lean); close each card by the builder's one call (the guide's Derived/Test/ToyasCard.lean, 'card_holds'). Laid BY PROGRAM, IN A SANDBOX (cutbox-door.mjs). By AI agents, Wed Nov 11 2026. No macro, syntax, notation, axiom, sorry.
-/
import Derived.Test.YtcinbiokghpilaaGreatDoorRows
import GoSem.ClaimSeven
namespace Go.Proofs.YtcinbiokghpilaaGreatDoor
namespace Rows

/-- THE TIED CARD OF 'laws.FnTellGetTelemetrySubscriptionsResponse'. -/
def fnTellGetTelemetrySubscriptionsResponseCard : Claim7 := { stood := { row := fnTellGetTelemetrySubscriptionsResponseRow, standIns := [], harness := (true, "145724f4d3edb73ed665ff0c7bb7bbb72c7d946bd5038046c9158b5e98cbb0f8"), looks := false }, kinds := [], alts := [], laidByText := true, laidKinds := [.sentinel], laidTests := true, laidLooks := .later }
def FnTellGetTelemetrySubscriptionsResponseCardSaid : Prop := Claim7.holds Tryz.pinned (.plain (OpenSpec.ofChange fnTellGetTelemetrySubscriptionsResponseSpec)) fnTellGetTelemetrySubscriptionsResponseCard

/-- THE TIED CARD OF 'laws.FnTellAlterClientQuotasResponse'. -/
def fnTellAlterClientQuotasResponseCard : Claim7 := { stood := { row := fnTellAlterClientQuotasResponseRow, standIns := [], harness := (true, "145724f4d3edb73ed665ff0c7bb7bbb72c7d946bd5038046c9158b5e98cbb0f8"), looks := false }, kinds := [], alts := [], laidByText := true, laidKinds := [.sentinel], laidTests := true, laidLooks := .later }
def FnTellAlterClientQuotasResponseCardSaid : Prop := Claim7.holds Tryz.pinned (.plain (OpenSpec.ofChange fnTellAlterClientQuotasResponseSpec)) fnTellAlterClientQuotasResponseCard

/-- THE TIED CARD OF 'laws.FnTellProduceRequest'. -/
def fnTellProduceRequestCard : Claim7 := { stood := { row := fnTellProduceRequestRow, standIns := [], harness := (true, "145724f4d3edb73ed665ff0c7bb7bbb72c7d946bd5038046c9158b5e98cbb0f8"), looks := false }, kinds := [], alts := [], laidByText := true, laidKinds := [.sentinel], laidTests := true, laidLooks := .later }
def FnTellProduceRequestCardSaid : Prop := Claim7.holds Tryz.pinned (.plain (OpenSpec.ofChange fnTellProduceRequestSpec)) fnTellProduceRequestCard

/-- THE SECOND FORM's CARD OF 'laws.FnTellGetTelemetrySubscriptionsResponse'. -/
def fnTellGetTelemetrySubscriptionsResponseUptoCard : Claim7 := { stood := { row := fnTellGetTelemetrySubscriptionsResponseUptoRow, standIns := [], harness := (true, "145724f4d3edb73ed665ff0c7bb7bbb72c7d946bd5038046c9158b5e98cbb0f8"), looks := false }, kinds := [], alts := [], laidByText := true, laidKinds := [.sentinel], laidTests := true, laidLooks := .later }
def FnTellGetTelemetrySubscriptionsResponseUptoCardSaid : Prop := Claim7.holds Tryz.pinned (.plain (OpenSpec.upto fnTellGetTelemetrySubscriptionsResponseSpec)) fnTellGetTelemetrySubscriptionsResponseUptoCard

/-- THE SECOND FORM's CARD OF 'laws.FnTellAlterClientQuotasResponse'. -/
def fnTellAlterClientQuotasResponseUptoCard : Claim7 := { stood := { row := fnTellAlterClientQuotasResponseUptoRow, standIns := [], harness := (true, "145724f4d3edb73ed665ff0c7bb7bbb72c7d946bd5038046c9158b5e98cbb0f8"), looks := false }, kinds := [], alts := [], laidByText := true, laidKinds := [.sentinel], laidTests := true, laidLooks := .later }
def FnTellAlterClientQuotasResponseUptoCardSaid : Prop := Claim7.holds Tryz.pinned (.plain (OpenSpec.upto fnTellAlterClientQuotasResponseSpec)) fnTellAlterClientQuotasResponseUptoCard

/-- THE SECOND FORM's CARD OF 'laws.FnTellProduceRequest'. -/
def fnTellProduceRequestUptoCard : Claim7 := { stood := { row := fnTellProduceRequestUptoRow, standIns := [], harness := (true, "145724f4d3edb73ed665ff0c7bb7bbb72c7d946bd5038046c9158b5e98cbb0f8"), looks := false }, kinds := [], alts := [], laidByText := true, laidKinds := [.sentinel], laidTests := true, laidLooks := .later }
def FnTellProduceRequestUptoCardSaid : Prop := Claim7.holds Tryz.pinned (.plain (OpenSpec.upto fnTellProduceRequestSpec)) fnTellProduceRequestUptoCard
end Rows
end Go.Proofs.YtcinbiokghpilaaGreatDoor
