/-
  DERIVED. GIVEN WITH THE SEED: THE CARDS: each row of YteemamacjglldaaDoorRows.lean that lists a variable, with what it lists TIED to the program's text (the seventh form; the later family's looks); each row that meets fmt, with fmt's text TOLD by the authors' own Lean function (tested against real Go, not proved from fmt's source: count such statements apart). THE CARD IS WHAT COUNTS. Prove the row's statement (the work); the ties are given (YteemamacjglldaaDoorTie.lean); close each card by the builder's one call (the guide's Derived/Test/ToyasCard.lean, 'card_holds'). Laid BY PROGRAM, IN A SANDBOX (cutbox-door.mjs). By AI agents, Wed Nov 11 2026. No macro, syntax, notation, axiom, sorry.
-/
import Derived.Test.YteemamacjglldaaDoorRows
import GoSem.ClaimSeven
namespace Go.Proofs.YteemamacjglldaaDoor
namespace Rows

/-- THE TIED CARD OF 'laws.FnUnsafeIncrementalAlterConfigsRequest'. -/
def fnUnsafeIncrementalAlterConfigsRequestCard : Claim7 := { stood := { row := fnUnsafeIncrementalAlterConfigsRequestRow, standIns := [], harness := (true, "49bc70f3b127a512b12297adeb4e1dcabc230672dc7ea443d90605e899b3c308"), looks := false }, kinds := [], alts := [], laidByText := true, laidKinds := [.sentinel], laidTests := true, laidLooks := .later }
def FnUnsafeIncrementalAlterConfigsRequestCardSaid : Prop := Claim7.holds Tryd.pinned (.plain (OpenSpec.ofChange fnUnsafeIncrementalAlterConfigsRequestSpec)) fnUnsafeIncrementalAlterConfigsRequestCard

/-- THE TIED CARD OF 'laws.FnUnsafeAllocateProducerIDsRequest'. -/
def fnUnsafeAllocateProducerIDsRequestCard : Claim7 := { stood := { row := fnUnsafeAllocateProducerIDsRequestRow, standIns := [], harness := (true, "49bc70f3b127a512b12297adeb4e1dcabc230672dc7ea443d90605e899b3c308"), looks := false }, kinds := [], alts := [], laidByText := true, laidKinds := [.sentinel], laidTests := true, laidLooks := .later }
def FnUnsafeAllocateProducerIDsRequestCardSaid : Prop := Claim7.holds Tryd.pinned (.plain (OpenSpec.ofChange fnUnsafeAllocateProducerIDsRequestSpec)) fnUnsafeAllocateProducerIDsRequestCard

/-- THE SECOND FORM's CARD OF 'laws.FnUnsafeIncrementalAlterConfigsRequest'. -/
def fnUnsafeIncrementalAlterConfigsRequestUptoCard : Claim7 := { stood := { row := fnUnsafeIncrementalAlterConfigsRequestUptoRow, standIns := [], harness := (true, "49bc70f3b127a512b12297adeb4e1dcabc230672dc7ea443d90605e899b3c308"), looks := false }, kinds := [], alts := [], laidByText := true, laidKinds := [.sentinel], laidTests := true, laidLooks := .later }
def FnUnsafeIncrementalAlterConfigsRequestUptoCardSaid : Prop := Claim7.holds Tryd.pinned (.plain (OpenSpec.upto fnUnsafeIncrementalAlterConfigsRequestSpec)) fnUnsafeIncrementalAlterConfigsRequestUptoCard

/-- THE SECOND FORM's CARD OF 'laws.FnUnsafeAllocateProducerIDsRequest'. -/
def fnUnsafeAllocateProducerIDsRequestUptoCard : Claim7 := { stood := { row := fnUnsafeAllocateProducerIDsRequestUptoRow, standIns := [], harness := (true, "49bc70f3b127a512b12297adeb4e1dcabc230672dc7ea443d90605e899b3c308"), looks := false }, kinds := [], alts := [], laidByText := true, laidKinds := [.sentinel], laidTests := true, laidLooks := .later }
def FnUnsafeAllocateProducerIDsRequestUptoCardSaid : Prop := Claim7.holds Tryd.pinned (.plain (OpenSpec.upto fnUnsafeAllocateProducerIDsRequestSpec)) fnUnsafeAllocateProducerIDsRequestUptoCard
end Rows
end Go.Proofs.YteemamacjglldaaDoor
