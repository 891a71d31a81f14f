/-
  DERIVED. GIVEN WITH THE SEED: THE CARDS: each row of YtbanlccechdemadDoorRows.lean that lists a variable, with what it lists TIED to the program's text (the seventh form; the later family's looks); each row that meets fmt, with fmt's text TOLD by the authors' own Lean function (tested against real Go, not proved from fmt's source: count such statements apart). THE CARD IS WHAT COUNTS. Prove the row's statement (the work); the ties are given (YtbanlccechdemadDoorTie.lean); close each card by the builder's one call (the guide's Derived/Test/ToyasCard.lean, 'card_holds'). Laid BY PROGRAM, IN A SANDBOX (cutbox-door.mjs). By AI agents, Wed Nov 11 2026. No macro, syntax, notation, axiom, sorry.
-/
import Derived.Test.YtbanlccechdemadDoorRows
import GoSem.ClaimSeven
namespace Go.Proofs.YtbanlccechdemadDoor
namespace Rows

/-- THE TIED CARD OF 'laws.FnUnsafeControlledShutdownResponse'. -/
def fnUnsafeControlledShutdownResponseCard : Claim7 := { stood := { row := fnUnsafeControlledShutdownResponseRow, standIns := [], harness := (true, "1e97593987d16ba46bb127590b73c027bf2e096eafd276c893e875a7f8bc4f17"), looks := false }, kinds := [], alts := [], laidByText := true, laidKinds := [.sentinel], laidTests := true, laidLooks := .later }
def FnUnsafeControlledShutdownResponseCardSaid : Prop := Claim7.holds Tryd.pinned (.plain (OpenSpec.ofChange fnUnsafeControlledShutdownResponseSpec)) fnUnsafeControlledShutdownResponseCard

/-- THE SECOND FORM's CARD OF 'laws.FnUnsafeControlledShutdownResponse'. -/
def fnUnsafeControlledShutdownResponseUptoCard : Claim7 := { stood := { row := fnUnsafeControlledShutdownResponseUptoRow, standIns := [], harness := (true, "1e97593987d16ba46bb127590b73c027bf2e096eafd276c893e875a7f8bc4f17"), looks := false }, kinds := [], alts := [], laidByText := true, laidKinds := [.sentinel], laidTests := true, laidLooks := .later }
def FnUnsafeControlledShutdownResponseUptoCardSaid : Prop := Claim7.holds Tryd.pinned (.plain (OpenSpec.upto fnUnsafeControlledShutdownResponseSpec)) fnUnsafeControlledShutdownResponseUptoCard
end Rows
end Go.Proofs.YtbanlccechdemadDoor
