/-
  DERIVED. GIVEN WITH THE SEED: THE CARDS: each row of YtbanlccechdemacDoorRows.lean that lists a variable, with what it lists TIED to the program's text (the seventh form; the later family's looks); each row that meets fmt, with fmt's text TOLD by the authors' own Lean function (tested against real Go, not proved from fmt's source: count such statements apart). THE CARD IS WHAT COUNTS. Prove the row's statement (the work); the ties are given (YtbanlccechdemacDoorTie.lean); close each card by the builder's one call (the guide's Derived/Test/ToyasCard.lean, 'card_holds'). Laid BY PROGRAM, IN A SANDBOX (cutbox-door.mjs). By AI agents, Wed Nov 11 2026. No macro, syntax, notation, axiom, sorry.
-/
import Derived.Test.YtbanlccechdemacDoorRows
import GoSem.ClaimSeven
namespace Go.Proofs.YtbanlccechdemacDoor
namespace Rows

/-- THE TIED CARD OF 'laws.FnUnsafeAddOffsetsToTxnRequest'. -/
def fnUnsafeAddOffsetsToTxnRequestCard : Claim7 := { stood := { row := fnUnsafeAddOffsetsToTxnRequestRow, standIns := [], harness := (true, "e2a87140aff3b0f69b8fee134993451a95552ba150decfc355004f39e42c8698"), looks := false }, kinds := [], alts := [], laidByText := true, laidKinds := [.sentinel], laidTests := true, laidLooks := .later }
def FnUnsafeAddOffsetsToTxnRequestCardSaid : Prop := Claim7.holds Tryd.pinned (.plain (OpenSpec.ofChange fnUnsafeAddOffsetsToTxnRequestSpec)) fnUnsafeAddOffsetsToTxnRequestCard

/-- THE SECOND FORM's CARD OF 'laws.FnUnsafeAddOffsetsToTxnRequest'. -/
def fnUnsafeAddOffsetsToTxnRequestUptoCard : Claim7 := { stood := { row := fnUnsafeAddOffsetsToTxnRequestUptoRow, standIns := [], harness := (true, "e2a87140aff3b0f69b8fee134993451a95552ba150decfc355004f39e42c8698"), looks := false }, kinds := [], alts := [], laidByText := true, laidKinds := [.sentinel], laidTests := true, laidLooks := .later }
def FnUnsafeAddOffsetsToTxnRequestUptoCardSaid : Prop := Claim7.holds Tryd.pinned (.plain (OpenSpec.upto fnUnsafeAddOffsetsToTxnRequestSpec)) fnUnsafeAddOffsetsToTxnRequestUptoCard
end Rows
end Go.Proofs.YtbanlccechdemacDoor
