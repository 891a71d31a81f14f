/-
  DERIVED. GIVEN WITH THE SEED: THE CARDS: each row of YtecjdkhklbcebacGreatDoorRows.lean that lists a variable, with what it lists TIED to the program's text (the seventh form; the later family's looks); each row that meets fmt, with fmt's text TOLD by the authors' own Lean function (tested against real Go, not proved from fmt's source: count such statements apart). THE CARD IS WHAT COUNTS. Prove the row's statement (the work); the ties are given (YtecjdkhklbcebacGreatDoorTie.lean); close each card by the builder's one call (the guide's Derived/Test/ToyasCard.lean, 'card_holds'). Laid BY PROGRAM, IN A SANDBOX (cutbox-door.mjs). By AI agents, Wed Nov 11 2026. No macro, syntax, notation, axiom, sorry.
-/
import Derived.Test.YtecjdkhklbcebacGreatDoorRows
import GoSem.ClaimSeven
namespace Go.Proofs.YtecjdkhklbcebacGreatDoor
namespace Rows

/-- THE TIED CARD OF 'laws.FnBehindStopReplicaRequest'. -/
def fnBehindStopReplicaRequestCard : Claim7 := { stood := { row := fnBehindStopReplicaRequestRow, standIns := [], harness := (true, "e9d397d68770a8a961759193f9a5da007db8ef14a07e97016fcd89a74a01b8cc"), looks := false }, kinds := [], alts := [], laidByText := true, laidKinds := [.sentinel], laidTests := true, laidLooks := .later }
def FnBehindStopReplicaRequestCardSaid : Prop := Claim7.holds Tryz.pinned (.plain (OpenSpec.ofChange fnBehindStopReplicaRequestSpec)) fnBehindStopReplicaRequestCard

/-- THE TIED CARD OF 'laws.FnBehindCreateTopicsRequest'. -/
def fnBehindCreateTopicsRequestCard : Claim7 := { stood := { row := fnBehindCreateTopicsRequestRow, standIns := [], harness := (true, "e9d397d68770a8a961759193f9a5da007db8ef14a07e97016fcd89a74a01b8cc"), looks := false }, kinds := [], alts := [], laidByText := true, laidKinds := [.sentinel], laidTests := true, laidLooks := .later }
def FnBehindCreateTopicsRequestCardSaid : Prop := Claim7.holds Tryz.pinned (.plain (OpenSpec.ofChange fnBehindCreateTopicsRequestSpec)) fnBehindCreateTopicsRequestCard

/-- THE SECOND FORM's CARD OF 'laws.FnBehindStopReplicaRequest'. -/
def fnBehindStopReplicaRequestUptoCard : Claim7 := { stood := { row := fnBehindStopReplicaRequestUptoRow, standIns := [], harness := (true, "e9d397d68770a8a961759193f9a5da007db8ef14a07e97016fcd89a74a01b8cc"), looks := false }, kinds := [], alts := [], laidByText := true, laidKinds := [.sentinel], laidTests := true, laidLooks := .later }
def FnBehindStopReplicaRequestUptoCardSaid : Prop := Claim7.holds Tryz.pinned (.plain (OpenSpec.upto fnBehindStopReplicaRequestSpec)) fnBehindStopReplicaRequestUptoCard

/-- THE SECOND FORM's CARD OF 'laws.FnBehindCreateTopicsRequest'. -/
def fnBehindCreateTopicsRequestUptoCard : Claim7 := { stood := { row := fnBehindCreateTopicsRequestUptoRow, standIns := [], harness := (true, "e9d397d68770a8a961759193f9a5da007db8ef14a07e97016fcd89a74a01b8cc"), looks := false }, kinds := [], alts := [], laidByText := true, laidKinds := [.sentinel], laidTests := true, laidLooks := .later }
def FnBehindCreateTopicsRequestUptoCardSaid : Prop := Claim7.holds Tryz.pinned (.plain (OpenSpec.upto fnBehindCreateTopicsRequestSpec)) fnBehindCreateTopicsRequestUptoCard
end Rows
end Go.Proofs.YtecjdkhklbcebacGreatDoor
