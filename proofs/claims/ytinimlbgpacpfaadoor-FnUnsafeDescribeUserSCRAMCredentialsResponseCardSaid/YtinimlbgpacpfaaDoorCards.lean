/-
  DERIVED. GIVEN WITH THE SEED: THE CARDS: each row of YtinimlbgpacpfaaDoorRows.lean that lists a variable, with what it lists TIED to the program's text (the seventh form; the later family's looks); each row that meets fmt, with fmt's text TOLD by the authors' own Lean function (tested against real Go, not proved from fmt's source: count such statements apart). THE CARD IS WHAT COUNTS. Prove the row's statement (the work); the ties are given (YtinimlbgpacpfaaDoorTie.lean); close each card by the builder's one call (the guide's Derived/Test/ToyasCard.lean, 'card_holds'). Laid BY PROGRAM, IN A SANDBOX (cutbox-door.mjs). By AI agents, Wed Nov 11 2026. No macro, syntax, notation, axiom, sorry.
-/
import Derived.Test.YtinimlbgpacpfaaDoorRows
import GoSem.ClaimSeven
namespace Go.Proofs.YtinimlbgpacpfaaDoor
namespace Rows

/-- THE TIED CARD OF 'laws.FnUnsafeDeleteShareGroupOffsetsResponse'. -/
def fnUnsafeDeleteShareGroupOffsetsResponseCard : Claim7 := { stood := { row := fnUnsafeDeleteShareGroupOffsetsResponseRow, standIns := [], harness := (true, "de8ebda51439a6d9a2c28a07e0d8fab737b8cf14f295175c4d12c4e45a545bfd"), looks := false }, kinds := [], alts := [], laidByText := true, laidKinds := [.sentinel], laidTests := true, laidLooks := .later }
def FnUnsafeDeleteShareGroupOffsetsResponseCardSaid : Prop := Claim7.holds Tryd.pinned (.plain (OpenSpec.ofChange fnUnsafeDeleteShareGroupOffsetsResponseSpec)) fnUnsafeDeleteShareGroupOffsetsResponseCard

/-- THE TIED CARD OF 'laws.FnUnsafeAddPartitionsToTxnResponse'. -/
def fnUnsafeAddPartitionsToTxnResponseCard : Claim7 := { stood := { row := fnUnsafeAddPartitionsToTxnResponseRow, standIns := [], harness := (true, "de8ebda51439a6d9a2c28a07e0d8fab737b8cf14f295175c4d12c4e45a545bfd"), looks := false }, kinds := [], alts := [], laidByText := true, laidKinds := [.sentinel], laidTests := true, laidLooks := .later }
def FnUnsafeAddPartitionsToTxnResponseCardSaid : Prop := Claim7.holds Tryd.pinned (.plain (OpenSpec.ofChange fnUnsafeAddPartitionsToTxnResponseSpec)) fnUnsafeAddPartitionsToTxnResponseCard

/-- THE TIED CARD OF 'laws.FnUnsafeDescribeUserSCRAMCredentialsResponse'. -/
def fnUnsafeDescribeUserSCRAMCredentialsResponseCard : Claim7 := { stood := { row := fnUnsafeDescribeUserSCRAMCredentialsResponseRow, standIns := [], harness := (true, "de8ebda51439a6d9a2c28a07e0d8fab737b8cf14f295175c4d12c4e45a545bfd"), looks := false }, kinds := [], alts := [], laidByText := true, laidKinds := [.sentinel], laidTests := true, laidLooks := .later }
def FnUnsafeDescribeUserSCRAMCredentialsResponseCardSaid : Prop := Claim7.holds Tryd.pinned (.plain (OpenSpec.ofChange fnUnsafeDescribeUserSCRAMCredentialsResponseSpec)) fnUnsafeDescribeUserSCRAMCredentialsResponseCard

/-- THE SECOND FORM's CARD OF 'laws.FnUnsafeDeleteShareGroupOffsetsResponse'. -/
def fnUnsafeDeleteShareGroupOffsetsResponseUptoCard : Claim7 := { stood := { row := fnUnsafeDeleteShareGroupOffsetsResponseUptoRow, standIns := [], harness := (true, "de8ebda51439a6d9a2c28a07e0d8fab737b8cf14f295175c4d12c4e45a545bfd"), looks := false }, kinds := [], alts := [], laidByText := true, laidKinds := [.sentinel], laidTests := true, laidLooks := .later }
def FnUnsafeDeleteShareGroupOffsetsResponseUptoCardSaid : Prop := Claim7.holds Tryd.pinned (.plain (OpenSpec.upto fnUnsafeDeleteShareGroupOffsetsResponseSpec)) fnUnsafeDeleteShareGroupOffsetsResponseUptoCard

/-- THE SECOND FORM's CARD OF 'laws.FnUnsafeAddPartitionsToTxnResponse'. -/
def fnUnsafeAddPartitionsToTxnResponseUptoCard : Claim7 := { stood := { row := fnUnsafeAddPartitionsToTxnResponseUptoRow, standIns := [], harness := (true, "de8ebda51439a6d9a2c28a07e0d8fab737b8cf14f295175c4d12c4e45a545bfd"), looks := false }, kinds := [], alts := [], laidByText := true, laidKinds := [.sentinel], laidTests := true, laidLooks := .later }
def FnUnsafeAddPartitionsToTxnResponseUptoCardSaid : Prop := Claim7.holds Tryd.pinned (.plain (OpenSpec.upto fnUnsafeAddPartitionsToTxnResponseSpec)) fnUnsafeAddPartitionsToTxnResponseUptoCard

/-- THE SECOND FORM's CARD OF 'laws.FnUnsafeDescribeUserSCRAMCredentialsResponse'. -/
def fnUnsafeDescribeUserSCRAMCredentialsResponseUptoCard : Claim7 := { stood := { row := fnUnsafeDescribeUserSCRAMCredentialsResponseUptoRow, standIns := [], harness := (true, "de8ebda51439a6d9a2c28a07e0d8fab737b8cf14f295175c4d12c4e45a545bfd"), looks := false }, kinds := [], alts := [], laidByText := true, laidKinds := [.sentinel], laidTests := true, laidLooks := .later }
def FnUnsafeDescribeUserSCRAMCredentialsResponseUptoCardSaid : Prop := Claim7.holds Tryd.pinned (.plain (OpenSpec.upto fnUnsafeDescribeUserSCRAMCredentialsResponseSpec)) fnUnsafeDescribeUserSCRAMCredentialsResponseUptoCard
end Rows
end Go.Proofs.YtinimlbgpacpfaaDoor
