/-
  DERIVED. GIVEN WITH THE SEED: THE CARDS: each row of YtldopkodfdijdabDoorRows.lean that lists a variable, with what it lists TIED to the program's text (the seventh form; the later family's looks); each row that meets fmt, with fmt's text TOLD by the authors' own Lean function (tested against real Go, not proved from fmt's source: count such statements apart). THE CARD IS WHAT COUNTS. Prove the row's statement (the work); the ties are given (YtldopkodfdijdabDoorTie.lean); close each card by the builder's one call (the guide's Derived/Test/ToyasCard.lean, 'card_holds'). Laid BY PROGRAM, IN A SANDBOX (cutbox-door.mjs). By AI agents, Wed Nov 11 2026. No macro, syntax, notation, axiom, sorry.
-/
import Derived.Test.YtldopkodfdijdabDoorRows
import GoSem.ClaimSeven
namespace Go.Proofs.YtldopkodfdijdabDoor
namespace Rows

/-- THE TIED CARD OF 'laws.FnTellRemoveRaftVoterResponse'. -/
def fnTellRemoveRaftVoterResponseCard : Claim7 := { stood := { row := fnTellRemoveRaftVoterResponseRow, standIns := [], harness := (true, "fc23daca246b1bcd9c73eabeb66e72756e7d1a76f300f0217914d4f3d6b34bab"), looks := false }, kinds := [], alts := [], laidByText := true, laidKinds := [.sentinel], laidTests := true, laidLooks := .later }
def FnTellRemoveRaftVoterResponseCardSaid : Prop := Claim7.holds Tryd.pinned (.plain (OpenSpec.ofChange fnTellRemoveRaftVoterResponseSpec)) fnTellRemoveRaftVoterResponseCard

/-- THE TIED CARD OF 'laws.FnTellUnregisterControllerResponse'. -/
def fnTellUnregisterControllerResponseCard : Claim7 := { stood := { row := fnTellUnregisterControllerResponseRow, standIns := [], harness := (true, "fc23daca246b1bcd9c73eabeb66e72756e7d1a76f300f0217914d4f3d6b34bab"), looks := false }, kinds := [], alts := [], laidByText := true, laidKinds := [.sentinel], laidTests := true, laidLooks := .later }
def FnTellUnregisterControllerResponseCardSaid : Prop := Claim7.holds Tryd.pinned (.plain (OpenSpec.ofChange fnTellUnregisterControllerResponseSpec)) fnTellUnregisterControllerResponseCard

/-- THE SECOND FORM's CARD OF 'laws.FnTellRemoveRaftVoterResponse'. -/
def fnTellRemoveRaftVoterResponseUptoCard : Claim7 := { stood := { row := fnTellRemoveRaftVoterResponseUptoRow, standIns := [], harness := (true, "fc23daca246b1bcd9c73eabeb66e72756e7d1a76f300f0217914d4f3d6b34bab"), looks := false }, kinds := [], alts := [], laidByText := true, laidKinds := [.sentinel], laidTests := true, laidLooks := .later }
def FnTellRemoveRaftVoterResponseUptoCardSaid : Prop := Claim7.holds Tryd.pinned (.plain (OpenSpec.upto fnTellRemoveRaftVoterResponseSpec)) fnTellRemoveRaftVoterResponseUptoCard

/-- THE SECOND FORM's CARD OF 'laws.FnTellUnregisterControllerResponse'. -/
def fnTellUnregisterControllerResponseUptoCard : Claim7 := { stood := { row := fnTellUnregisterControllerResponseUptoRow, standIns := [], harness := (true, "fc23daca246b1bcd9c73eabeb66e72756e7d1a76f300f0217914d4f3d6b34bab"), looks := false }, kinds := [], alts := [], laidByText := true, laidKinds := [.sentinel], laidTests := true, laidLooks := .later }
def FnTellUnregisterControllerResponseUptoCardSaid : Prop := Claim7.holds Tryd.pinned (.plain (OpenSpec.upto fnTellUnregisterControllerResponseSpec)) fnTellUnregisterControllerResponseUptoCard
end Rows
end Go.Proofs.YtldopkodfdijdabDoor
