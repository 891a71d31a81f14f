/-
  DERIVED. GIVEN WITH THE SEED: THE CARDS: each row of YtmficcifapfkdaaDoorRows.lean that lists a variable, with what it lists TIED to the program's text (the seventh form; the later family's looks); each row that meets fmt, with fmt's text TOLD by the authors' own Lean function (tested against real Go, not proved from fmt's source: count such statements apart). THE CARD IS WHAT COUNTS. Prove the row's statement (the work); the ties are given (YtmficcifapfkdaaDoorTie.lean); close each card by the builder's one call (the guide's Derived/Test/ToyasCard.lean, 'card_holds'). Laid BY PROGRAM, IN A SANDBOX (cutbox-door.mjs). By AI agents, Wed Nov 11 2026. No macro, syntax, notation, axiom, sorry.
-/
import Derived.Test.YtmficcifapfkdaaDoorRows
import GoSem.ClaimSeven
namespace Go.Proofs.YtmficcifapfkdaaDoor
namespace Rows

/-- THE TIED CARD OF 'laws.FnUnsafeTxnMetadataKey'. -/
def fnUnsafeTxnMetadataKeyCard : Claim7 := { stood := { row := fnUnsafeTxnMetadataKeyRow, standIns := [], harness := (true, "bc13a951001e8a12e99597e646dcfb9fcfd62814bcf9ff8141281107669c516b"), looks := false }, kinds := [], alts := [], laidByText := true, laidKinds := [.sentinel], laidTests := true, laidLooks := .later }
def FnUnsafeTxnMetadataKeyCardSaid : Prop := Claim7.holds Tryd.pinned (.plain (OpenSpec.ofChange fnUnsafeTxnMetadataKeySpec)) fnUnsafeTxnMetadataKeyCard

/-- THE SECOND FORM's CARD OF 'laws.FnUnsafeTxnMetadataKey'. -/
def fnUnsafeTxnMetadataKeyUptoCard : Claim7 := { stood := { row := fnUnsafeTxnMetadataKeyUptoRow, standIns := [], harness := (true, "bc13a951001e8a12e99597e646dcfb9fcfd62814bcf9ff8141281107669c516b"), looks := false }, kinds := [], alts := [], laidByText := true, laidKinds := [.sentinel], laidTests := true, laidLooks := .later }
def FnUnsafeTxnMetadataKeyUptoCardSaid : Prop := Claim7.holds Tryd.pinned (.plain (OpenSpec.upto fnUnsafeTxnMetadataKeySpec)) fnUnsafeTxnMetadataKeyUptoCard
end Rows
end Go.Proofs.YtmficcifapfkdaaDoor
