/-
  DERIVED. GIVEN WITH THE SEED: THE CARDS: each row of YteeamkddgccpeabGreatDoorRows.lean that lists a variable, with what it lists TIED to the program's text (the seventh form; the later family's looks); each row that meets fmt, with fmt's text TOLD by the authors' own Lean function (tested against real Go, not proved from fmt's source: count such statements apart). THE CARD IS WHAT COUNTS. Prove the row's statement (the work); the ties are given (YteeamkddgccpeabGreatDoorTie.lean); close each card by the builder's one call (the guide's Derived/Test/ToyasCard.lean, 'card_holds'). Laid BY PROGRAM, IN A SANDBOX (cutbox-door.mjs). By AI agents, Wed Nov 11 2026. No macro, syntax, notation, axiom, sorry.
-/
import Derived.Test.YteeamkddgccpeabGreatDoorRows
import GoSem.ClaimSeven
namespace Go.Proofs.YteeamkddgccpeabGreatDoor
namespace Rows

/-- THE TIED CARD OF 'laws.FnFrameAlterPartitionRequest'. -/
def fnFrameAlterPartitionRequestCard : Claim7 := { stood := { row := fnFrameAlterPartitionRequestRow, standIns := [], harness := (true, "e685342937546e0ef0b22e6d8e133e76c8697e204648f3601b5c7b0afa25fe41"), looks := false }, kinds := [], alts := [], laidByText := true, laidKinds := [.sentinel], laidTests := true, laidLooks := .later }
def FnFrameAlterPartitionRequestCardSaid : Prop := Claim7.holds Tryz.pinned (.plain (OpenSpec.ofChange fnFrameAlterPartitionRequestSpec)) fnFrameAlterPartitionRequestCard

/-- THE SECOND FORM's CARD OF 'laws.FnFrameAlterPartitionRequest'. -/
def fnFrameAlterPartitionRequestUptoCard : Claim7 := { stood := { row := fnFrameAlterPartitionRequestUptoRow, standIns := [], harness := (true, "e685342937546e0ef0b22e6d8e133e76c8697e204648f3601b5c7b0afa25fe41"), looks := false }, kinds := [], alts := [], laidByText := true, laidKinds := [.sentinel], laidTests := true, laidLooks := .later }
def FnFrameAlterPartitionRequestUptoCardSaid : Prop := Claim7.holds Tryz.pinned (.plain (OpenSpec.upto fnFrameAlterPartitionRequestSpec)) fnFrameAlterPartitionRequestUptoCard
end Rows
end Go.Proofs.YteeamkddgccpeabGreatDoor
