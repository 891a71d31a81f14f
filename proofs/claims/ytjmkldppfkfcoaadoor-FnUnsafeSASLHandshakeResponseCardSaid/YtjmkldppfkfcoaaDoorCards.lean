/-
  DERIVED. GIVEN WITH THE SEED: THE CARDS: each row of YtjmkldppfkfcoaaDoorRows.lean that lists a variable, with what it lists TIED to the program's text (the seventh form; the later family's looks); each row that meets fmt, with fmt's text TOLD by the authors' own Lean function (tested against real Go, not proved from fmt's source: count such statements apart). THE CARD IS WHAT COUNTS. Prove the row's statement (the work); the ties are given (YtjmkldppfkfcoaaDoorTie.lean); close each card by the builder's one call (the guide's Derived/Test/ToyasCard.lean, 'card_holds'). Laid BY PROGRAM, IN A SANDBOX (cutbox-door.mjs). By AI agents, Wed Nov 11 2026. No macro, syntax, notation, axiom, sorry.
-/
import Derived.Test.YtjmkldppfkfcoaaDoorRows
import GoSem.ClaimSeven
namespace Go.Proofs.YtjmkldppfkfcoaaDoor
namespace Rows

/-- THE TIED CARD OF 'laws.FnUnsafeSASLHandshakeResponse'. -/
def fnUnsafeSASLHandshakeResponseCard : Claim7 := { stood := { row := fnUnsafeSASLHandshakeResponseRow, standIns := [], harness := (true, "b3e036df385ad34223f00ef50db08e8554f4111e1314659b84a81b4cfe08a2d7"), looks := false }, kinds := [], alts := [], laidByText := true, laidKinds := [.sentinel], laidTests := true, laidLooks := .later }
def FnUnsafeSASLHandshakeResponseCardSaid : Prop := Claim7.holds Tryd.pinned (.plain (OpenSpec.ofChange fnUnsafeSASLHandshakeResponseSpec)) fnUnsafeSASLHandshakeResponseCard

/-- THE SECOND FORM's CARD OF 'laws.FnUnsafeSASLHandshakeResponse'. -/
def fnUnsafeSASLHandshakeResponseUptoCard : Claim7 := { stood := { row := fnUnsafeSASLHandshakeResponseUptoRow, standIns := [], harness := (true, "b3e036df385ad34223f00ef50db08e8554f4111e1314659b84a81b4cfe08a2d7"), looks := false }, kinds := [], alts := [], laidByText := true, laidKinds := [.sentinel], laidTests := true, laidLooks := .later }
def FnUnsafeSASLHandshakeResponseUptoCardSaid : Prop := Claim7.holds Tryd.pinned (.plain (OpenSpec.upto fnUnsafeSASLHandshakeResponseSpec)) fnUnsafeSASLHandshakeResponseUptoCard
end Rows
end Go.Proofs.YtjmkldppfkfcoaaDoor
