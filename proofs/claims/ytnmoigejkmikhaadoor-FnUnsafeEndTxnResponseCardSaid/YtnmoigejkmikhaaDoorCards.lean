/-
  DERIVED. GIVEN WITH THE SEED: THE CARDS: each row of YtnmoigejkmikhaaDoorRows.lean that lists a variable, with what it lists TIED to the program's text (the seventh form; the later family's looks); each row that meets fmt, with fmt's text TOLD by the authors' own Lean function (tested against real Go, not proved from fmt's source: count such statements apart). THE CARD IS WHAT COUNTS. Prove the row's statement (the work); the ties are given (YtnmoigejkmikhaaDoorTie.lean); close each card by the builder's one call (the guide's Derived/Test/ToyasCard.lean, 'card_holds'). Laid BY PROGRAM, IN A SANDBOX (cutbox-door.mjs). By AI agents, Wed Nov 11 2026. No macro, syntax, notation, axiom, sorry.
-/
import Derived.Test.YtnmoigejkmikhaaDoorRows
import GoSem.ClaimSeven
namespace Go.Proofs.YtnmoigejkmikhaaDoor
namespace Rows

/-- THE TIED CARD OF 'laws.FnUnsafeMetadataResponse'. -/
def fnUnsafeMetadataResponseCard : Claim7 := { stood := { row := fnUnsafeMetadataResponseRow, standIns := [], harness := (true, "67b0396d8c815f1bfc4a00b777d03913e100e59381680cb706c86572a46517e2"), looks := false }, kinds := [], alts := [], laidByText := true, laidKinds := [.sentinel], laidTests := true, laidLooks := .later }
def FnUnsafeMetadataResponseCardSaid : Prop := Claim7.holds Tryd.pinned (.plain (OpenSpec.ofChange fnUnsafeMetadataResponseSpec)) fnUnsafeMetadataResponseCard

/-- THE TIED CARD OF 'laws.FnUnsafeShareGroupDescribeResponse'. -/
def fnUnsafeShareGroupDescribeResponseCard : Claim7 := { stood := { row := fnUnsafeShareGroupDescribeResponseRow, standIns := [], harness := (true, "67b0396d8c815f1bfc4a00b777d03913e100e59381680cb706c86572a46517e2"), looks := false }, kinds := [], alts := [], laidByText := true, laidKinds := [.sentinel], laidTests := true, laidLooks := .later }
def FnUnsafeShareGroupDescribeResponseCardSaid : Prop := Claim7.holds Tryd.pinned (.plain (OpenSpec.ofChange fnUnsafeShareGroupDescribeResponseSpec)) fnUnsafeShareGroupDescribeResponseCard

/-- THE TIED CARD OF 'laws.FnUnsafeEndTxnResponse'. -/
def fnUnsafeEndTxnResponseCard : Claim7 := { stood := { row := fnUnsafeEndTxnResponseRow, standIns := [], harness := (true, "67b0396d8c815f1bfc4a00b777d03913e100e59381680cb706c86572a46517e2"), looks := false }, kinds := [], alts := [], laidByText := true, laidKinds := [.sentinel], laidTests := true, laidLooks := .later }
def FnUnsafeEndTxnResponseCardSaid : Prop := Claim7.holds Tryd.pinned (.plain (OpenSpec.ofChange fnUnsafeEndTxnResponseSpec)) fnUnsafeEndTxnResponseCard

/-- THE SECOND FORM's CARD OF 'laws.FnUnsafeMetadataResponse'. -/
def fnUnsafeMetadataResponseUptoCard : Claim7 := { stood := { row := fnUnsafeMetadataResponseUptoRow, standIns := [], harness := (true, "67b0396d8c815f1bfc4a00b777d03913e100e59381680cb706c86572a46517e2"), looks := false }, kinds := [], alts := [], laidByText := true, laidKinds := [.sentinel], laidTests := true, laidLooks := .later }
def FnUnsafeMetadataResponseUptoCardSaid : Prop := Claim7.holds Tryd.pinned (.plain (OpenSpec.upto fnUnsafeMetadataResponseSpec)) fnUnsafeMetadataResponseUptoCard

/-- THE SECOND FORM's CARD OF 'laws.FnUnsafeShareGroupDescribeResponse'. -/
def fnUnsafeShareGroupDescribeResponseUptoCard : Claim7 := { stood := { row := fnUnsafeShareGroupDescribeResponseUptoRow, standIns := [], harness := (true, "67b0396d8c815f1bfc4a00b777d03913e100e59381680cb706c86572a46517e2"), looks := false }, kinds := [], alts := [], laidByText := true, laidKinds := [.sentinel], laidTests := true, laidLooks := .later }
def FnUnsafeShareGroupDescribeResponseUptoCardSaid : Prop := Claim7.holds Tryd.pinned (.plain (OpenSpec.upto fnUnsafeShareGroupDescribeResponseSpec)) fnUnsafeShareGroupDescribeResponseUptoCard

/-- THE SECOND FORM's CARD OF 'laws.FnUnsafeEndTxnResponse'. -/
def fnUnsafeEndTxnResponseUptoCard : Claim7 := { stood := { row := fnUnsafeEndTxnResponseUptoRow, standIns := [], harness := (true, "67b0396d8c815f1bfc4a00b777d03913e100e59381680cb706c86572a46517e2"), looks := false }, kinds := [], alts := [], laidByText := true, laidKinds := [.sentinel], laidTests := true, laidLooks := .later }
def FnUnsafeEndTxnResponseUptoCardSaid : Prop := Claim7.holds Tryd.pinned (.plain (OpenSpec.upto fnUnsafeEndTxnResponseSpec)) fnUnsafeEndTxnResponseUptoCard
end Rows
end Go.Proofs.YtnmoigejkmikhaaDoor
