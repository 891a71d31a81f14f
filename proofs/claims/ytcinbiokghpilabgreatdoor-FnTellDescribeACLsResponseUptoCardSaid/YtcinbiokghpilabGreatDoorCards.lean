/-
  DERIVED. GIVEN WITH THE SEED: THE CARDS: each row of YtcinbiokghpilabGreatDoorRows.lean that lists a variable, with what it lists TIED to the program's text (the seventh form; the later family's looks); each row that meets fmt, with fmt's text TOLD by the authors' own Lean function (tested against real Go, not proved from fmt's source: count such statements apart). THE CARD IS WHAT COUNTS. Prove the row's statement (the work); the ties are given (YtcinbiokghpilabGreatDoorTie.lean); close each card by the builder's one call (the guide's Derived/Test/ToyasCard.lean, 'card_holds'). Laid BY PROGRAM, IN A SANDBOX (cutbox-door.mjs). By AI agents, Wed Nov 11 2026. No macro, syntax, notation, axiom, sorry.
-/
import Derived.Test.YtcinbiokghpilabGreatDoorRows
import GoSem.ClaimSeven
namespace Go.Proofs.YtcinbiokghpilabGreatDoor
namespace Rows

/-- THE TIED CARD OF 'laws.FnTellJoinGroupRequest'. -/
def fnTellJoinGroupRequestCard : Claim7 := { stood := { row := fnTellJoinGroupRequestRow, standIns := [], harness := (true, "5bcc76c1e60076c7b6e8be327624e4393306682bc6cf5cbcdbb9ea95bb1f6e08"), looks := false }, kinds := [], alts := [], laidByText := true, laidKinds := [.sentinel], laidTests := true, laidLooks := .later }
def FnTellJoinGroupRequestCardSaid : Prop := Claim7.holds Tryz.pinned (.plain (OpenSpec.ofChange fnTellJoinGroupRequestSpec)) fnTellJoinGroupRequestCard

/-- THE TIED CARD OF 'laws.FnTellDescribeLogDirsResponse'. -/
def fnTellDescribeLogDirsResponseCard : Claim7 := { stood := { row := fnTellDescribeLogDirsResponseRow, standIns := [], harness := (true, "5bcc76c1e60076c7b6e8be327624e4393306682bc6cf5cbcdbb9ea95bb1f6e08"), looks := false }, kinds := [], alts := [], laidByText := true, laidKinds := [.sentinel], laidTests := true, laidLooks := .later }
def FnTellDescribeLogDirsResponseCardSaid : Prop := Claim7.holds Tryz.pinned (.plain (OpenSpec.ofChange fnTellDescribeLogDirsResponseSpec)) fnTellDescribeLogDirsResponseCard

/-- THE TIED CARD OF 'laws.FnTellDescribeACLsResponse'. -/
def fnTellDescribeACLsResponseCard : Claim7 := { stood := { row := fnTellDescribeACLsResponseRow, standIns := [], harness := (true, "5bcc76c1e60076c7b6e8be327624e4393306682bc6cf5cbcdbb9ea95bb1f6e08"), looks := false }, kinds := [], alts := [], laidByText := true, laidKinds := [.sentinel], laidTests := true, laidLooks := .later }
def FnTellDescribeACLsResponseCardSaid : Prop := Claim7.holds Tryz.pinned (.plain (OpenSpec.ofChange fnTellDescribeACLsResponseSpec)) fnTellDescribeACLsResponseCard

/-- THE SECOND FORM's CARD OF 'laws.FnTellJoinGroupRequest'. -/
def fnTellJoinGroupRequestUptoCard : Claim7 := { stood := { row := fnTellJoinGroupRequestUptoRow, standIns := [], harness := (true, "5bcc76c1e60076c7b6e8be327624e4393306682bc6cf5cbcdbb9ea95bb1f6e08"), looks := false }, kinds := [], alts := [], laidByText := true, laidKinds := [.sentinel], laidTests := true, laidLooks := .later }
def FnTellJoinGroupRequestUptoCardSaid : Prop := Claim7.holds Tryz.pinned (.plain (OpenSpec.upto fnTellJoinGroupRequestSpec)) fnTellJoinGroupRequestUptoCard

/-- THE SECOND FORM's CARD OF 'laws.FnTellDescribeLogDirsResponse'. -/
def fnTellDescribeLogDirsResponseUptoCard : Claim7 := { stood := { row := fnTellDescribeLogDirsResponseUptoRow, standIns := [], harness := (true, "5bcc76c1e60076c7b6e8be327624e4393306682bc6cf5cbcdbb9ea95bb1f6e08"), looks := false }, kinds := [], alts := [], laidByText := true, laidKinds := [.sentinel], laidTests := true, laidLooks := .later }
def FnTellDescribeLogDirsResponseUptoCardSaid : Prop := Claim7.holds Tryz.pinned (.plain (OpenSpec.upto fnTellDescribeLogDirsResponseSpec)) fnTellDescribeLogDirsResponseUptoCard

/-- THE SECOND FORM's CARD OF 'laws.FnTellDescribeACLsResponse'. -/
def fnTellDescribeACLsResponseUptoCard : Claim7 := { stood := { row := fnTellDescribeACLsResponseUptoRow, standIns := [], harness := (true, "5bcc76c1e60076c7b6e8be327624e4393306682bc6cf5cbcdbb9ea95bb1f6e08"), looks := false }, kinds := [], alts := [], laidByText := true, laidKinds := [.sentinel], laidTests := true, laidLooks := .later }
def FnTellDescribeACLsResponseUptoCardSaid : Prop := Claim7.holds Tryz.pinned (.plain (OpenSpec.upto fnTellDescribeACLsResponseSpec)) fnTellDescribeACLsResponseUptoCard
end Rows
end Go.Proofs.YtcinbiokghpilabGreatDoor
