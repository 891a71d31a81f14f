/-
  DERIVED. GIVEN WITH THE SEED: THE CARDS: each row of YtdldgadhbiohcaaDoorRows.lean that lists a variable, with what it lists TIED to the program's text (the seventh form; the later family's looks); each row that meets fmt, with fmt's text TOLD by the authors' own Lean function (tested against real Go, not proved from fmt's source: count such statements apart). THE CARD IS WHAT COUNTS. Prove the row's statement (the work); the ties are given (YtdldgadhbiohcaaDoorTie.lean); close each card by the builder's one call (the guide's Derived/Test/ToyasCard.lean, 'card_holds'). Laid BY PROGRAM, IN A SANDBOX (cutbox-door.mjs). By AI agents, Wed Nov 11 2026. No macro, syntax, notation, axiom, sorry.
-/
import Derived.Test.YtdldgadhbiohcaaDoorRows
import GoSem.ClaimSeven
namespace Go.Proofs.YtdldgadhbiohcaaDoor
namespace Rows

/-- THE TIED CARD OF 'laws.FnUnsafeDescribeTransactionsRequest'. -/
def fnUnsafeDescribeTransactionsRequestCard : Claim7 := { stood := { row := fnUnsafeDescribeTransactionsRequestRow, standIns := [], harness := (true, "5a7f5fc70e03d97305e0ec4e82691f218fd0dfd45147824af1ecf4d87d0459a9"), looks := false }, kinds := [], alts := [], laidByText := true, laidKinds := [.sentinel], laidTests := true, laidLooks := .later }
def FnUnsafeDescribeTransactionsRequestCardSaid : Prop := Claim7.holds Tryd.pinned (.plain (OpenSpec.ofChange fnUnsafeDescribeTransactionsRequestSpec)) fnUnsafeDescribeTransactionsRequestCard

/-- THE TIED CARD OF 'laws.FnUnsafeDescribeQuorumRequest'. -/
def fnUnsafeDescribeQuorumRequestCard : Claim7 := { stood := { row := fnUnsafeDescribeQuorumRequestRow, standIns := [], harness := (true, "5a7f5fc70e03d97305e0ec4e82691f218fd0dfd45147824af1ecf4d87d0459a9"), looks := false }, kinds := [], alts := [], laidByText := true, laidKinds := [.sentinel], laidTests := true, laidLooks := .later }
def FnUnsafeDescribeQuorumRequestCardSaid : Prop := Claim7.holds Tryd.pinned (.plain (OpenSpec.ofChange fnUnsafeDescribeQuorumRequestSpec)) fnUnsafeDescribeQuorumRequestCard

/-- THE SECOND FORM's CARD OF 'laws.FnUnsafeDescribeTransactionsRequest'. -/
def fnUnsafeDescribeTransactionsRequestUptoCard : Claim7 := { stood := { row := fnUnsafeDescribeTransactionsRequestUptoRow, standIns := [], harness := (true, "5a7f5fc70e03d97305e0ec4e82691f218fd0dfd45147824af1ecf4d87d0459a9"), looks := false }, kinds := [], alts := [], laidByText := true, laidKinds := [.sentinel], laidTests := true, laidLooks := .later }
def FnUnsafeDescribeTransactionsRequestUptoCardSaid : Prop := Claim7.holds Tryd.pinned (.plain (OpenSpec.upto fnUnsafeDescribeTransactionsRequestSpec)) fnUnsafeDescribeTransactionsRequestUptoCard

/-- THE SECOND FORM's CARD OF 'laws.FnUnsafeDescribeQuorumRequest'. -/
def fnUnsafeDescribeQuorumRequestUptoCard : Claim7 := { stood := { row := fnUnsafeDescribeQuorumRequestUptoRow, standIns := [], harness := (true, "5a7f5fc70e03d97305e0ec4e82691f218fd0dfd45147824af1ecf4d87d0459a9"), looks := false }, kinds := [], alts := [], laidByText := true, laidKinds := [.sentinel], laidTests := true, laidLooks := .later }
def FnUnsafeDescribeQuorumRequestUptoCardSaid : Prop := Claim7.holds Tryd.pinned (.plain (OpenSpec.upto fnUnsafeDescribeQuorumRequestSpec)) fnUnsafeDescribeQuorumRequestUptoCard
end Rows
end Go.Proofs.YtdldgadhbiohcaaDoor
