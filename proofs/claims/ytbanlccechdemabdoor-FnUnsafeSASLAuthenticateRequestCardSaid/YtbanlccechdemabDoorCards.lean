/-
  DERIVED. GIVEN WITH THE SEED: THE CARDS: each row of YtbanlccechdemabDoorRows.lean that lists a variable, with what it lists TIED to the program's text (the seventh form; the later family's looks); each row that meets fmt, with fmt's text TOLD by the authors' own Lean function (tested against real Go, not proved from fmt's source: count such statements apart). THE CARD IS WHAT COUNTS. Prove the row's statement (the work); the ties are given (YtbanlccechdemabDoorTie.lean); close each card by the builder's one call (the guide's Derived/Test/ToyasCard.lean, 'card_holds'). Laid BY PROGRAM, IN A SANDBOX (cutbox-door.mjs). By AI agents, Wed Nov 11 2026. No macro, syntax, notation, axiom, sorry.
-/
import Derived.Test.YtbanlccechdemabDoorRows
import GoSem.ClaimSeven
namespace Go.Proofs.YtbanlccechdemabDoor
namespace Rows

/-- THE TIED CARD OF 'laws.FnUnsafeSASLAuthenticateRequest'. -/
def fnUnsafeSASLAuthenticateRequestCard : Claim7 := { stood := { row := fnUnsafeSASLAuthenticateRequestRow, standIns := [], harness := (true, "317da5b498fd822afd64e6e1046e3f8e439ac89e8e16bccf594bda76d99eb220"), looks := false }, kinds := [], alts := [], laidByText := true, laidKinds := [.sentinel], laidTests := true, laidLooks := .later }
def FnUnsafeSASLAuthenticateRequestCardSaid : Prop := Claim7.holds Tryd.pinned (.plain (OpenSpec.ofChange fnUnsafeSASLAuthenticateRequestSpec)) fnUnsafeSASLAuthenticateRequestCard

/-- THE SECOND FORM's CARD OF 'laws.FnUnsafeSASLAuthenticateRequest'. -/
def fnUnsafeSASLAuthenticateRequestUptoCard : Claim7 := { stood := { row := fnUnsafeSASLAuthenticateRequestUptoRow, standIns := [], harness := (true, "317da5b498fd822afd64e6e1046e3f8e439ac89e8e16bccf594bda76d99eb220"), looks := false }, kinds := [], alts := [], laidByText := true, laidKinds := [.sentinel], laidTests := true, laidLooks := .later }
def FnUnsafeSASLAuthenticateRequestUptoCardSaid : Prop := Claim7.holds Tryd.pinned (.plain (OpenSpec.upto fnUnsafeSASLAuthenticateRequestSpec)) fnUnsafeSASLAuthenticateRequestUptoCard
end Rows
end Go.Proofs.YtbanlccechdemabDoor
