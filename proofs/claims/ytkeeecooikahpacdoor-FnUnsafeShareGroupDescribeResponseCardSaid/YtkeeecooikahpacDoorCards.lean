/-
  DERIVED. GIVEN WITH THE SEED: THE CARDS: each row of YtkeeecooikahpacDoorRows.lean that lists a variable, with what it lists TIED to the program's text (the seventh form; the later family's looks); each row that meets fmt, with fmt's text TOLD by the authors' own Lean function (tested against real Go, not proved from fmt's source: count such statements apart). THE CARD IS WHAT COUNTS. Prove the row's statement (the work); the ties are given (YtkeeecooikahpacDoorTie.lean); close each card by the builder's one call (the guide's Derived/Test/ToyasCard.lean, 'card_holds'). Laid BY PROGRAM, IN A SANDBOX (cutbox-door.mjs). By AI agents, Wed Nov 11 2026. No macro, syntax, notation, axiom, sorry.
-/
import Derived.Test.YtkeeecooikahpacDoorRows
import GoSem.ClaimSeven
namespace Go.Proofs.YtkeeecooikahpacDoor
namespace Rows

/-- THE TIED CARD OF 'laws.FnUnsafeShareGroupDescribeResponse'. -/
def fnUnsafeShareGroupDescribeResponseCard : Claim7 := { stood := { row := fnUnsafeShareGroupDescribeResponseRow, standIns := [], harness := (true, "f4759b022790e8d1942d49c1ded6c69b6595f8e468e1fea958177c619ce3a841"), looks := false }, kinds := [], alts := [], laidByText := true, laidKinds := [.sentinel], laidTests := true, laidLooks := .later }
def FnUnsafeShareGroupDescribeResponseCardSaid : Prop := Claim7.holds Tryd.pinned (.plain (OpenSpec.ofChange fnUnsafeShareGroupDescribeResponseSpec)) fnUnsafeShareGroupDescribeResponseCard

/-- THE SECOND FORM's CARD OF 'laws.FnUnsafeShareGroupDescribeResponse'. -/
def fnUnsafeShareGroupDescribeResponseUptoCard : Claim7 := { stood := { row := fnUnsafeShareGroupDescribeResponseUptoRow, standIns := [], harness := (true, "f4759b022790e8d1942d49c1ded6c69b6595f8e468e1fea958177c619ce3a841"), looks := false }, kinds := [], alts := [], laidByText := true, laidKinds := [.sentinel], laidTests := true, laidLooks := .later }
def FnUnsafeShareGroupDescribeResponseUptoCardSaid : Prop := Claim7.holds Tryd.pinned (.plain (OpenSpec.upto fnUnsafeShareGroupDescribeResponseSpec)) fnUnsafeShareGroupDescribeResponseUptoCard
end Rows
end Go.Proofs.YtkeeecooikahpacDoor
