/-
  DERIVED. GIVEN WITH THE SEED: THE CARDS: each row of YtecjdkhklbcebabGreatDoorRows.lean that lists a variable, with what it lists TIED to the program's text (the seventh form; the later family's looks); each row that meets fmt, with fmt's text TOLD by the authors' own Lean function (tested against real Go, not proved from fmt's source: count such statements apart). THE CARD IS WHAT COUNTS. Prove the row's statement (the work); the ties are given (YtecjdkhklbcebabGreatDoorTie.lean); close each card by the builder's one call (the guide's Derived/Test/ToyasCard.lean, 'card_holds'). Laid BY PROGRAM, IN A SANDBOX (cutbox-door.mjs). By AI agents, Wed Nov 11 2026. No macro, syntax, notation, axiom, sorry.
-/
import Derived.Test.YtecjdkhklbcebabGreatDoorRows
import GoSem.ClaimSeven
namespace Go.Proofs.YtecjdkhklbcebabGreatDoor
namespace Rows

/-- THE TIED CARD OF 'laws.FnBehindCreateDelegationTokenResponse'. -/
def fnBehindCreateDelegationTokenResponseCard : Claim7 := { stood := { row := fnBehindCreateDelegationTokenResponseRow, standIns := [], harness := (true, "c7c34140950b4ae953c03dbde9cb637ebb80139309ac091c26e5bf4435438ef2"), looks := false }, kinds := [], alts := [], laidByText := true, laidKinds := [.sentinel], laidTests := true, laidLooks := .later }
def FnBehindCreateDelegationTokenResponseCardSaid : Prop := Claim7.holds Tryz.pinned (.plain (OpenSpec.ofChange fnBehindCreateDelegationTokenResponseSpec)) fnBehindCreateDelegationTokenResponseCard

/-- THE TIED CARD OF 'laws.FnBehindListOffsetsResponse'. -/
def fnBehindListOffsetsResponseCard : Claim7 := { stood := { row := fnBehindListOffsetsResponseRow, standIns := [], harness := (true, "c7c34140950b4ae953c03dbde9cb637ebb80139309ac091c26e5bf4435438ef2"), looks := false }, kinds := [], alts := [], laidByText := true, laidKinds := [.sentinel], laidTests := true, laidLooks := .later }
def FnBehindListOffsetsResponseCardSaid : Prop := Claim7.holds Tryz.pinned (.plain (OpenSpec.ofChange fnBehindListOffsetsResponseSpec)) fnBehindListOffsetsResponseCard

/-- THE SECOND FORM's CARD OF 'laws.FnBehindCreateDelegationTokenResponse'. -/
def fnBehindCreateDelegationTokenResponseUptoCard : Claim7 := { stood := { row := fnBehindCreateDelegationTokenResponseUptoRow, standIns := [], harness := (true, "c7c34140950b4ae953c03dbde9cb637ebb80139309ac091c26e5bf4435438ef2"), looks := false }, kinds := [], alts := [], laidByText := true, laidKinds := [.sentinel], laidTests := true, laidLooks := .later }
def FnBehindCreateDelegationTokenResponseUptoCardSaid : Prop := Claim7.holds Tryz.pinned (.plain (OpenSpec.upto fnBehindCreateDelegationTokenResponseSpec)) fnBehindCreateDelegationTokenResponseUptoCard

/-- THE SECOND FORM's CARD OF 'laws.FnBehindListOffsetsResponse'. -/
def fnBehindListOffsetsResponseUptoCard : Claim7 := { stood := { row := fnBehindListOffsetsResponseUptoRow, standIns := [], harness := (true, "c7c34140950b4ae953c03dbde9cb637ebb80139309ac091c26e5bf4435438ef2"), looks := false }, kinds := [], alts := [], laidByText := true, laidKinds := [.sentinel], laidTests := true, laidLooks := .later }
def FnBehindListOffsetsResponseUptoCardSaid : Prop := Claim7.holds Tryz.pinned (.plain (OpenSpec.upto fnBehindListOffsetsResponseSpec)) fnBehindListOffsetsResponseUptoCard
end Rows
end Go.Proofs.YtecjdkhklbcebabGreatDoor
