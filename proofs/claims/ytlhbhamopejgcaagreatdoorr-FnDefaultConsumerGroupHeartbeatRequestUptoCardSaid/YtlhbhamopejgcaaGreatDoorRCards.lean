/-
  DERIVED. GIVEN WITH THE SEED: THE CARDS: each row of YtlhbhamopejgcaaGreatDoorRRows.lean that lists a variable, with what it lists TIED to the program's text (the seventh form; the later family's looks); each row that meets fmt, with fmt's text TOLD by the authors' own Lean function (tested against real Go, not proved from fmt's source: count such statements apart). THE CARD IS WHAT COUNTS. Prove the row's statement (the work); the ties are given (YtlhbhamopejgcaaGreatDoorRTie.lean); close each card by the builder's one call (the guide's Derived/Test/ToyasCard.lean, 'card_holds'). Laid BY PROGRAM, IN A SANDBOX (cutbox-door.mjs). By AI agents, Wed Nov 11 2026. No macro, syntax, notation, axiom, sorry.
-/
import Derived.Test.YtlhbhamopejgcaaGreatDoorRRows
import GoSem.ClaimSeven
namespace Go.Proofs.YtlhbhamopejgcaaGreatDoorR
namespace Rows

/-- THE TIED CARD OF 'laws.FnDefaultConsumerGroupHeartbeatRequest'. -/
def fnDefaultConsumerGroupHeartbeatRequestCard : Claim7 := { stood := { row := fnDefaultConsumerGroupHeartbeatRequestRow, standIns := [], harness := (true, "afcd5cf57816aa19287fdec1e0d787d197a9ce8b750167718d9d95f97b05cf14"), looks := false }, kinds := [], alts := [], laidByText := true, laidKinds := [.sentinel], laidTests := true, laidLooks := .later }
def FnDefaultConsumerGroupHeartbeatRequestCardSaid : Prop := Claim7.holds Tryz.pinned (.plain (OpenSpec.ofChange fnDefaultConsumerGroupHeartbeatRequestSpec)) fnDefaultConsumerGroupHeartbeatRequestCard

/-- THE SECOND FORM's CARD OF 'laws.FnDefaultConsumerGroupHeartbeatRequest'. -/
def fnDefaultConsumerGroupHeartbeatRequestUptoCard : Claim7 := { stood := { row := fnDefaultConsumerGroupHeartbeatRequestUptoRow, standIns := [], harness := (true, "afcd5cf57816aa19287fdec1e0d787d197a9ce8b750167718d9d95f97b05cf14"), looks := false }, kinds := [], alts := [], laidByText := true, laidKinds := [.sentinel], laidTests := true, laidLooks := .later }
def FnDefaultConsumerGroupHeartbeatRequestUptoCardSaid : Prop := Claim7.holds Tryz.pinned (.plain (OpenSpec.upto fnDefaultConsumerGroupHeartbeatRequestSpec)) fnDefaultConsumerGroupHeartbeatRequestUptoCard
end Rows
end Go.Proofs.YtlhbhamopejgcaaGreatDoorR
