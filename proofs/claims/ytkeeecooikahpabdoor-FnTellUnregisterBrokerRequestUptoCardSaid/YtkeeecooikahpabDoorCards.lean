/-
  DERIVED. GIVEN WITH THE SEED: THE CARDS: each row of YtkeeecooikahpabDoorRows.lean that lists a variable, with what it lists TIED to the program's text (the seventh form; the later family's looks); each row that meets fmt, with fmt's text TOLD by the authors' own Lean function (tested against real Go, not proved from fmt's source: count such statements apart). THE CARD IS WHAT COUNTS. Prove the row's statement (the work); the ties are given (YtkeeecooikahpabDoorTie.lean); close each card by the builder's one call (the guide's Derived/Test/ToyasCard.lean, 'card_holds'). Laid BY PROGRAM, IN A SANDBOX (cutbox-door.mjs). By AI agents, Wed Nov 11 2026. No macro, syntax, notation, axiom, sorry.
-/
import Derived.Test.YtkeeecooikahpabDoorRows
import GoSem.ClaimSeven
namespace Go.Proofs.YtkeeecooikahpabDoor
namespace Rows

/-- THE TIED CARD OF 'laws.FnTellUnregisterBrokerRequest'. -/
def fnTellUnregisterBrokerRequestCard : Claim7 := { stood := { row := fnTellUnregisterBrokerRequestRow, standIns := [], harness := (true, "363a9b28bc3333cce20689961078dc9fc0b68897f136cf0dd6fce34ede3eada4"), looks := false }, kinds := [], alts := [], laidByText := true, laidKinds := [.sentinel], laidTests := true, laidLooks := .later }
def FnTellUnregisterBrokerRequestCardSaid : Prop := Claim7.holds Tryd.pinned (.plain (OpenSpec.ofChange fnTellUnregisterBrokerRequestSpec)) fnTellUnregisterBrokerRequestCard

/-- THE SECOND FORM's CARD OF 'laws.FnTellUnregisterBrokerRequest'. -/
def fnTellUnregisterBrokerRequestUptoCard : Claim7 := { stood := { row := fnTellUnregisterBrokerRequestUptoRow, standIns := [], harness := (true, "363a9b28bc3333cce20689961078dc9fc0b68897f136cf0dd6fce34ede3eada4"), looks := false }, kinds := [], alts := [], laidByText := true, laidKinds := [.sentinel], laidTests := true, laidLooks := .later }
def FnTellUnregisterBrokerRequestUptoCardSaid : Prop := Claim7.holds Tryd.pinned (.plain (OpenSpec.upto fnTellUnregisterBrokerRequestSpec)) fnTellUnregisterBrokerRequestUptoCard
end Rows
end Go.Proofs.YtkeeecooikahpabDoor
