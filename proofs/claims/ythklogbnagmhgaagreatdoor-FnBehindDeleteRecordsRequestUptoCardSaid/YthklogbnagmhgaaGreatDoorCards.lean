/-
  DERIVED. GIVEN WITH THE SEED: THE CARDS: each row of YthklogbnagmhgaaGreatDoorRows.lean that lists a variable, with what it lists TIED to the program's text (the seventh form; the later family's looks); each row that meets fmt, with fmt's text TOLD by the authors' own Lean function (tested against real Go, not proved from fmt's source: count such statements apart). THE CARD IS WHAT COUNTS. Prove the row's statement (the work); the ties are given (YthklogbnagmhgaaGreatDoorTie.lean); close each card by the builder's one call (the guide's Derived/Test/ToyasCard.lean, 'card_holds'). Laid BY PROGRAM, IN A SANDBOX (cutbox-door.mjs). By AI agents, Wed Nov 11 2026. No macro, syntax, notation, axiom, sorry.
-/
import Derived.Test.YthklogbnagmhgaaGreatDoorRows
import GoSem.ClaimSeven
namespace Go.Proofs.YthklogbnagmhgaaGreatDoor
namespace Rows

/-- THE TIED CARD OF 'laws.FnBehindDeleteRecordsRequest'. -/
def fnBehindDeleteRecordsRequestCard : Claim7 := { stood := { row := fnBehindDeleteRecordsRequestRow, standIns := [], harness := (true, "ef9982055b504caa3499742e354a8792f63ae4762cf015d225403e32c48ef096"), looks := false }, kinds := [], alts := [], laidByText := true, laidKinds := [.sentinel], laidTests := true, laidLooks := .later }
def FnBehindDeleteRecordsRequestCardSaid : Prop := Claim7.holds Tryz.pinned (.plain (OpenSpec.ofChange fnBehindDeleteRecordsRequestSpec)) fnBehindDeleteRecordsRequestCard

/-- THE TIED CARD OF 'laws.FnBehindDeleteTopicsRequest'. -/
def fnBehindDeleteTopicsRequestCard : Claim7 := { stood := { row := fnBehindDeleteTopicsRequestRow, standIns := [], harness := (true, "ef9982055b504caa3499742e354a8792f63ae4762cf015d225403e32c48ef096"), looks := false }, kinds := [], alts := [], laidByText := true, laidKinds := [.sentinel], laidTests := true, laidLooks := .later }
def FnBehindDeleteTopicsRequestCardSaid : Prop := Claim7.holds Tryz.pinned (.plain (OpenSpec.ofChange fnBehindDeleteTopicsRequestSpec)) fnBehindDeleteTopicsRequestCard

/-- THE TIED CARD OF 'laws.FnBehindListTransactionsRequest'. -/
def fnBehindListTransactionsRequestCard : Claim7 := { stood := { row := fnBehindListTransactionsRequestRow, standIns := [], harness := (true, "ef9982055b504caa3499742e354a8792f63ae4762cf015d225403e32c48ef096"), looks := false }, kinds := [], alts := [], laidByText := true, laidKinds := [.sentinel], laidTests := true, laidLooks := .later }
def FnBehindListTransactionsRequestCardSaid : Prop := Claim7.holds Tryz.pinned (.plain (OpenSpec.ofChange fnBehindListTransactionsRequestSpec)) fnBehindListTransactionsRequestCard

/-- THE SECOND FORM's CARD OF 'laws.FnBehindDeleteRecordsRequest'. -/
def fnBehindDeleteRecordsRequestUptoCard : Claim7 := { stood := { row := fnBehindDeleteRecordsRequestUptoRow, standIns := [], harness := (true, "ef9982055b504caa3499742e354a8792f63ae4762cf015d225403e32c48ef096"), looks := false }, kinds := [], alts := [], laidByText := true, laidKinds := [.sentinel], laidTests := true, laidLooks := .later }
def FnBehindDeleteRecordsRequestUptoCardSaid : Prop := Claim7.holds Tryz.pinned (.plain (OpenSpec.upto fnBehindDeleteRecordsRequestSpec)) fnBehindDeleteRecordsRequestUptoCard

/-- THE SECOND FORM's CARD OF 'laws.FnBehindDeleteTopicsRequest'. -/
def fnBehindDeleteTopicsRequestUptoCard : Claim7 := { stood := { row := fnBehindDeleteTopicsRequestUptoRow, standIns := [], harness := (true, "ef9982055b504caa3499742e354a8792f63ae4762cf015d225403e32c48ef096"), looks := false }, kinds := [], alts := [], laidByText := true, laidKinds := [.sentinel], laidTests := true, laidLooks := .later }
def FnBehindDeleteTopicsRequestUptoCardSaid : Prop := Claim7.holds Tryz.pinned (.plain (OpenSpec.upto fnBehindDeleteTopicsRequestSpec)) fnBehindDeleteTopicsRequestUptoCard

/-- THE SECOND FORM's CARD OF 'laws.FnBehindListTransactionsRequest'. -/
def fnBehindListTransactionsRequestUptoCard : Claim7 := { stood := { row := fnBehindListTransactionsRequestUptoRow, standIns := [], harness := (true, "ef9982055b504caa3499742e354a8792f63ae4762cf015d225403e32c48ef096"), looks := false }, kinds := [], alts := [], laidByText := true, laidKinds := [.sentinel], laidTests := true, laidLooks := .later }
def FnBehindListTransactionsRequestUptoCardSaid : Prop := Claim7.holds Tryz.pinned (.plain (OpenSpec.upto fnBehindListTransactionsRequestSpec)) fnBehindListTransactionsRequestUptoCard
end Rows
end Go.Proofs.YthklogbnagmhgaaGreatDoor
