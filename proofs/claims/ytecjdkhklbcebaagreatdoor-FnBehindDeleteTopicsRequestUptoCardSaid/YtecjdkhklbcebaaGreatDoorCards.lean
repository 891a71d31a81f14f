/-
  DERIVED. GIVEN WITH THE SEED: THE CARDS: each row of YtecjdkhklbcebaaGreatDoorRows.lean that lists a variable, with what it lists TIED to the program's text (the seventh form; the later family's looks); each row that meets fmt, with fmt's text TOLD by the authors' own Lean function (tested against real Go, not proved from fmt's source: count such statements apart). THE CARD IS WHAT COUNTS. Prove the row's statement (the work); the ties are given (YtecjdkhklbcebaaGreatDoorTie.lean); close each card by the builder's one call (the guide's Derived/Test/ToyasCard.lean, 'card_holds'). Laid BY PROGRAM, IN A SANDBOX (cutbox-door.mjs). By AI agents, Wed Nov 11 2026. No macro, syntax, notation, axiom, sorry.
-/
import Derived.Test.YtecjdkhklbcebaaGreatDoorRows
import GoSem.ClaimSeven
namespace Go.Proofs.YtecjdkhklbcebaaGreatDoor
namespace Rows

/-- THE TIED CARD OF 'laws.FnBehindDeleteTopicsRequest'. -/
def fnBehindDeleteTopicsRequestCard : Claim7 := { stood := { row := fnBehindDeleteTopicsRequestRow, standIns := [], harness := (true, "956ea47be81c88d2075533d9732e5d58bd9b41577eca96c0b3fd35abde2ec057"), looks := false }, kinds := [], alts := [], laidByText := true, laidKinds := [.sentinel], laidTests := true, laidLooks := .later }
def FnBehindDeleteTopicsRequestCardSaid : Prop := Claim7.holds Tryz.pinned (.plain (OpenSpec.ofChange fnBehindDeleteTopicsRequestSpec)) fnBehindDeleteTopicsRequestCard

/-- THE TIED CARD OF 'laws.FnBehindListTransactionsRequest'. -/
def fnBehindListTransactionsRequestCard : Claim7 := { stood := { row := fnBehindListTransactionsRequestRow, standIns := [], harness := (true, "956ea47be81c88d2075533d9732e5d58bd9b41577eca96c0b3fd35abde2ec057"), looks := false }, kinds := [], alts := [], laidByText := true, laidKinds := [.sentinel], laidTests := true, laidLooks := .later }
def FnBehindListTransactionsRequestCardSaid : Prop := Claim7.holds Tryz.pinned (.plain (OpenSpec.ofChange fnBehindListTransactionsRequestSpec)) fnBehindListTransactionsRequestCard

/-- THE SECOND FORM's CARD OF 'laws.FnBehindDeleteTopicsRequest'. -/
def fnBehindDeleteTopicsRequestUptoCard : Claim7 := { stood := { row := fnBehindDeleteTopicsRequestUptoRow, standIns := [], harness := (true, "956ea47be81c88d2075533d9732e5d58bd9b41577eca96c0b3fd35abde2ec057"), looks := false }, kinds := [], alts := [], laidByText := true, laidKinds := [.sentinel], laidTests := true, laidLooks := .later }
def FnBehindDeleteTopicsRequestUptoCardSaid : Prop := Claim7.holds Tryz.pinned (.plain (OpenSpec.upto fnBehindDeleteTopicsRequestSpec)) fnBehindDeleteTopicsRequestUptoCard

/-- THE SECOND FORM's CARD OF 'laws.FnBehindListTransactionsRequest'. -/
def fnBehindListTransactionsRequestUptoCard : Claim7 := { stood := { row := fnBehindListTransactionsRequestUptoRow, standIns := [], harness := (true, "956ea47be81c88d2075533d9732e5d58bd9b41577eca96c0b3fd35abde2ec057"), looks := false }, kinds := [], alts := [], laidByText := true, laidKinds := [.sentinel], laidTests := true, laidLooks := .later }
def FnBehindListTransactionsRequestUptoCardSaid : Prop := Claim7.holds Tryz.pinned (.plain (OpenSpec.upto fnBehindListTransactionsRequestSpec)) fnBehindListTransactionsRequestUptoCard
end Rows
end Go.Proofs.YtecjdkhklbcebaaGreatDoor
