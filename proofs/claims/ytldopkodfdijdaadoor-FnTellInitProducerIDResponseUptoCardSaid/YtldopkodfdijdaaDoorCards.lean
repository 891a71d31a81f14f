/-
  DERIVED. GIVEN WITH THE SEED: THE CARDS: each row of YtldopkodfdijdaaDoorRows.lean that lists a variable, with what it lists TIED to the program's text (the seventh form; the later family's looks); each row that meets fmt, with fmt's text TOLD by the authors' own Lean function (tested against real Go, not proved from fmt's source: count such statements apart). THE CARD IS WHAT COUNTS. Prove the row's statement (the work); the ties are given (YtldopkodfdijdaaDoorTie.lean); close each card by the builder's one call (the guide's Derived/Test/ToyasCard.lean, 'card_holds'). Laid BY PROGRAM, IN A SANDBOX (cutbox-door.mjs). By AI agents, Wed Nov 11 2026. No macro, syntax, notation, axiom, sorry.
-/
import Derived.Test.YtldopkodfdijdaaDoorRows
import GoSem.ClaimSeven
namespace Go.Proofs.YtldopkodfdijdaaDoor
namespace Rows

/-- THE TIED CARD OF 'laws.FnTellBrokerHeartbeatResponse'. -/
def fnTellBrokerHeartbeatResponseCard : Claim7 := { stood := { row := fnTellBrokerHeartbeatResponseRow, standIns := [], harness := (true, "c0ef4a83ed5847ac8500c621c6dad0c851ee19a0e782cad6979f738cb1f7640c"), looks := false }, kinds := [], alts := [], laidByText := true, laidKinds := [.sentinel], laidTests := true, laidLooks := .later }
def FnTellBrokerHeartbeatResponseCardSaid : Prop := Claim7.holds Tryd.pinned (.plain (OpenSpec.ofChange fnTellBrokerHeartbeatResponseSpec)) fnTellBrokerHeartbeatResponseCard

/-- THE TIED CARD OF 'laws.FnTellInitProducerIDResponse'. -/
def fnTellInitProducerIDResponseCard : Claim7 := { stood := { row := fnTellInitProducerIDResponseRow, standIns := [], harness := (true, "c0ef4a83ed5847ac8500c621c6dad0c851ee19a0e782cad6979f738cb1f7640c"), looks := false }, kinds := [], alts := [], laidByText := true, laidKinds := [.sentinel], laidTests := true, laidLooks := .later }
def FnTellInitProducerIDResponseCardSaid : Prop := Claim7.holds Tryd.pinned (.plain (OpenSpec.ofChange fnTellInitProducerIDResponseSpec)) fnTellInitProducerIDResponseCard

/-- THE SECOND FORM's CARD OF 'laws.FnTellBrokerHeartbeatResponse'. -/
def fnTellBrokerHeartbeatResponseUptoCard : Claim7 := { stood := { row := fnTellBrokerHeartbeatResponseUptoRow, standIns := [], harness := (true, "c0ef4a83ed5847ac8500c621c6dad0c851ee19a0e782cad6979f738cb1f7640c"), looks := false }, kinds := [], alts := [], laidByText := true, laidKinds := [.sentinel], laidTests := true, laidLooks := .later }
def FnTellBrokerHeartbeatResponseUptoCardSaid : Prop := Claim7.holds Tryd.pinned (.plain (OpenSpec.upto fnTellBrokerHeartbeatResponseSpec)) fnTellBrokerHeartbeatResponseUptoCard

/-- THE SECOND FORM's CARD OF 'laws.FnTellInitProducerIDResponse'. -/
def fnTellInitProducerIDResponseUptoCard : Claim7 := { stood := { row := fnTellInitProducerIDResponseUptoRow, standIns := [], harness := (true, "c0ef4a83ed5847ac8500c621c6dad0c851ee19a0e782cad6979f738cb1f7640c"), looks := false }, kinds := [], alts := [], laidByText := true, laidKinds := [.sentinel], laidTests := true, laidLooks := .later }
def FnTellInitProducerIDResponseUptoCardSaid : Prop := Claim7.holds Tryd.pinned (.plain (OpenSpec.upto fnTellInitProducerIDResponseSpec)) fnTellInitProducerIDResponseUptoCard
end Rows
end Go.Proofs.YtldopkodfdijdaaDoor
