/-
  DERIVED. GIVEN WITH THE SEED: THE CARDS: each row of YtpcgbjddoodeiaaDoorRows.lean that lists a variable, with what it lists TIED to the program's text (the seventh form; the later family's looks); each row that meets fmt, with fmt's text TOLD by the authors' own Lean function (tested against real Go, not proved from fmt's source: count such statements apart). THE CARD IS WHAT COUNTS. Prove the row's statement (the work); the ties are given (YtpcgbjddoodeiaaDoorTie.lean); close each card by the builder's one call (the guide's Derived/Test/ToyasCard.lean, 'card_holds'). Laid BY PROGRAM, IN A SANDBOX (cutbox-door.mjs). By AI agents, Wed Nov 11 2026. No macro, syntax, notation, axiom, sorry.
-/
import Derived.Test.YtpcgbjddoodeiaaDoorRows
import GoSem.ClaimSeven
namespace Go.Proofs.YtpcgbjddoodeiaaDoor
namespace Rows

/-- THE TIED CARD OF 'laws.FnUnsafeDescribeShareGroupOffsetsResponse'. -/
def fnUnsafeDescribeShareGroupOffsetsResponseCard : Claim7 := { stood := { row := fnUnsafeDescribeShareGroupOffsetsResponseRow, standIns := [], harness := (true, "ff26fc70c8c4d2a549f244bf226e4a3141812f539e8433eddd8dd01ef72af391"), looks := false }, kinds := [], alts := [], laidByText := true, laidKinds := [.sentinel], laidTests := true, laidLooks := .later }
def FnUnsafeDescribeShareGroupOffsetsResponseCardSaid : Prop := Claim7.holds Tryd.pinned (.plain (OpenSpec.ofChange fnUnsafeDescribeShareGroupOffsetsResponseSpec)) fnUnsafeDescribeShareGroupOffsetsResponseCard

/-- THE TIED CARD OF 'laws.FnUnsafeDeleteACLsResponse'. -/
def fnUnsafeDeleteACLsResponseCard : Claim7 := { stood := { row := fnUnsafeDeleteACLsResponseRow, standIns := [], harness := (true, "ff26fc70c8c4d2a549f244bf226e4a3141812f539e8433eddd8dd01ef72af391"), looks := false }, kinds := [], alts := [], laidByText := true, laidKinds := [.sentinel], laidTests := true, laidLooks := .later }
def FnUnsafeDeleteACLsResponseCardSaid : Prop := Claim7.holds Tryd.pinned (.plain (OpenSpec.ofChange fnUnsafeDeleteACLsResponseSpec)) fnUnsafeDeleteACLsResponseCard

/-- THE TIED CARD OF 'laws.FnUnsafeAlterPartitionAssignmentsRequest'. -/
def fnUnsafeAlterPartitionAssignmentsRequestCard : Claim7 := { stood := { row := fnUnsafeAlterPartitionAssignmentsRequestRow, standIns := [], harness := (true, "ff26fc70c8c4d2a549f244bf226e4a3141812f539e8433eddd8dd01ef72af391"), looks := false }, kinds := [], alts := [], laidByText := true, laidKinds := [.sentinel], laidTests := true, laidLooks := .later }
def FnUnsafeAlterPartitionAssignmentsRequestCardSaid : Prop := Claim7.holds Tryd.pinned (.plain (OpenSpec.ofChange fnUnsafeAlterPartitionAssignmentsRequestSpec)) fnUnsafeAlterPartitionAssignmentsRequestCard

/-- THE SECOND FORM's CARD OF 'laws.FnUnsafeDescribeShareGroupOffsetsResponse'. -/
def fnUnsafeDescribeShareGroupOffsetsResponseUptoCard : Claim7 := { stood := { row := fnUnsafeDescribeShareGroupOffsetsResponseUptoRow, standIns := [], harness := (true, "ff26fc70c8c4d2a549f244bf226e4a3141812f539e8433eddd8dd01ef72af391"), looks := false }, kinds := [], alts := [], laidByText := true, laidKinds := [.sentinel], laidTests := true, laidLooks := .later }
def FnUnsafeDescribeShareGroupOffsetsResponseUptoCardSaid : Prop := Claim7.holds Tryd.pinned (.plain (OpenSpec.upto fnUnsafeDescribeShareGroupOffsetsResponseSpec)) fnUnsafeDescribeShareGroupOffsetsResponseUptoCard

/-- THE SECOND FORM's CARD OF 'laws.FnUnsafeDeleteACLsResponse'. -/
def fnUnsafeDeleteACLsResponseUptoCard : Claim7 := { stood := { row := fnUnsafeDeleteACLsResponseUptoRow, standIns := [], harness := (true, "ff26fc70c8c4d2a549f244bf226e4a3141812f539e8433eddd8dd01ef72af391"), looks := false }, kinds := [], alts := [], laidByText := true, laidKinds := [.sentinel], laidTests := true, laidLooks := .later }
def FnUnsafeDeleteACLsResponseUptoCardSaid : Prop := Claim7.holds Tryd.pinned (.plain (OpenSpec.upto fnUnsafeDeleteACLsResponseSpec)) fnUnsafeDeleteACLsResponseUptoCard

/-- THE SECOND FORM's CARD OF 'laws.FnUnsafeAlterPartitionAssignmentsRequest'. -/
def fnUnsafeAlterPartitionAssignmentsRequestUptoCard : Claim7 := { stood := { row := fnUnsafeAlterPartitionAssignmentsRequestUptoRow, standIns := [], harness := (true, "ff26fc70c8c4d2a549f244bf226e4a3141812f539e8433eddd8dd01ef72af391"), looks := false }, kinds := [], alts := [], laidByText := true, laidKinds := [.sentinel], laidTests := true, laidLooks := .later }
def FnUnsafeAlterPartitionAssignmentsRequestUptoCardSaid : Prop := Claim7.holds Tryd.pinned (.plain (OpenSpec.upto fnUnsafeAlterPartitionAssignmentsRequestSpec)) fnUnsafeAlterPartitionAssignmentsRequestUptoCard
end Rows
end Go.Proofs.YtpcgbjddoodeiaaDoor
