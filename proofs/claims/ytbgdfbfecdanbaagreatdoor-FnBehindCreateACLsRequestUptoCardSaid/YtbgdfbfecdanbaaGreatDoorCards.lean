/-
  DERIVED. GIVEN WITH THE SEED: THE CARDS: each row of YtbgdfbfecdanbaaGreatDoorRows.lean that lists a variable, with what it lists TIED to the program's text (the seventh form; the later family's looks); each row that meets fmt, with fmt's text TOLD by the authors' own Lean function (tested against real Go, not proved from fmt's source: count such statements apart). THE CARD IS WHAT COUNTS. Prove the row's statement (the work); the ties are given (YtbgdfbfecdanbaaGreatDoorTie.lean); close each card by the builder's one call (the guide's Derived/Test/ToyasCard.lean, 'card_holds'). Laid BY PROGRAM, IN A SANDBOX (cutbox-door.mjs). By AI agents, Wed Nov 11 2026. No macro, syntax, notation, axiom, sorry.
-/
import Derived.Test.YtbgdfbfecdanbaaGreatDoorRows
import GoSem.ClaimSeven
namespace Go.Proofs.YtbgdfbfecdanbaaGreatDoor
namespace Rows

/-- THE TIED CARD OF 'laws.FnBehindLeaveGroupResponse'. -/
def fnBehindLeaveGroupResponseCard : Claim7 := { stood := { row := fnBehindLeaveGroupResponseRow, standIns := [], harness := (true, "57a57c2bde1a9b18208c97c09a2111de0281349337c70f60868d708892370661"), looks := false }, kinds := [], alts := [], laidByText := true, laidKinds := [.sentinel], laidTests := true, laidLooks := .later }
def FnBehindLeaveGroupResponseCardSaid : Prop := Claim7.holds Tryz.pinned (.plain (OpenSpec.ofChange fnBehindLeaveGroupResponseSpec)) fnBehindLeaveGroupResponseCard

/-- THE TIED CARD OF 'laws.FnBehindCreateACLsRequest'. -/
def fnBehindCreateACLsRequestCard : Claim7 := { stood := { row := fnBehindCreateACLsRequestRow, standIns := [], harness := (true, "57a57c2bde1a9b18208c97c09a2111de0281349337c70f60868d708892370661"), looks := false }, kinds := [], alts := [], laidByText := true, laidKinds := [.sentinel], laidTests := true, laidLooks := .later }
def FnBehindCreateACLsRequestCardSaid : Prop := Claim7.holds Tryz.pinned (.plain (OpenSpec.ofChange fnBehindCreateACLsRequestSpec)) fnBehindCreateACLsRequestCard

/-- THE SECOND FORM's CARD OF 'laws.FnBehindLeaveGroupResponse'. -/
def fnBehindLeaveGroupResponseUptoCard : Claim7 := { stood := { row := fnBehindLeaveGroupResponseUptoRow, standIns := [], harness := (true, "57a57c2bde1a9b18208c97c09a2111de0281349337c70f60868d708892370661"), looks := false }, kinds := [], alts := [], laidByText := true, laidKinds := [.sentinel], laidTests := true, laidLooks := .later }
def FnBehindLeaveGroupResponseUptoCardSaid : Prop := Claim7.holds Tryz.pinned (.plain (OpenSpec.upto fnBehindLeaveGroupResponseSpec)) fnBehindLeaveGroupResponseUptoCard

/-- THE SECOND FORM's CARD OF 'laws.FnBehindCreateACLsRequest'. -/
def fnBehindCreateACLsRequestUptoCard : Claim7 := { stood := { row := fnBehindCreateACLsRequestUptoRow, standIns := [], harness := (true, "57a57c2bde1a9b18208c97c09a2111de0281349337c70f60868d708892370661"), looks := false }, kinds := [], alts := [], laidByText := true, laidKinds := [.sentinel], laidTests := true, laidLooks := .later }
def FnBehindCreateACLsRequestUptoCardSaid : Prop := Claim7.holds Tryz.pinned (.plain (OpenSpec.upto fnBehindCreateACLsRequestSpec)) fnBehindCreateACLsRequestUptoCard
end Rows
end Go.Proofs.YtbgdfbfecdanbaaGreatDoor
