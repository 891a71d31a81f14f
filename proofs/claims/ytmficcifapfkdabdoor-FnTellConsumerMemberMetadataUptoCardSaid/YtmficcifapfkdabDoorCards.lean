/-
  DERIVED. GIVEN WITH THE SEED: THE CARDS: each row of YtmficcifapfkdabDoorRows.lean that lists a variable, with what it lists TIED to the program's text (the seventh form; the later family's looks); each row that meets fmt, with fmt's text TOLD by the authors' own Lean function (tested against real Go, not proved from fmt's source: count such statements apart). THE CARD IS WHAT COUNTS. Prove the row's statement (the work); the ties are given (YtmficcifapfkdabDoorTie.lean); close each card by the builder's one call (the guide's Derived/Test/ToyasCard.lean, 'card_holds'). Laid BY PROGRAM, IN A SANDBOX (cutbox-door.mjs). By AI agents, Wed Nov 11 2026. No macro, syntax, notation, axiom, sorry.
-/
import Derived.Test.YtmficcifapfkdabDoorRows
import GoSem.ClaimSeven
namespace Go.Proofs.YtmficcifapfkdabDoor
namespace Rows

/-- THE TIED CARD OF 'laws.FnTellConsumerMemberMetadata'. -/
def fnTellConsumerMemberMetadataCard : Claim7 := { stood := { row := fnTellConsumerMemberMetadataRow, standIns := [], harness := (true, "1c342a6c808f97ad0cf94518b67600f295f3d85802bd51fa8a6d95c0eeb8c67d"), looks := false }, kinds := [], alts := [], laidByText := true, laidKinds := [.sentinel], laidTests := true, laidLooks := .later }
def FnTellConsumerMemberMetadataCardSaid : Prop := Claim7.holds Tryd.pinned (.plain (OpenSpec.ofChange fnTellConsumerMemberMetadataSpec)) fnTellConsumerMemberMetadataCard

/-- THE SECOND FORM's CARD OF 'laws.FnTellConsumerMemberMetadata'. -/
def fnTellConsumerMemberMetadataUptoCard : Claim7 := { stood := { row := fnTellConsumerMemberMetadataUptoRow, standIns := [], harness := (true, "1c342a6c808f97ad0cf94518b67600f295f3d85802bd51fa8a6d95c0eeb8c67d"), looks := false }, kinds := [], alts := [], laidByText := true, laidKinds := [.sentinel], laidTests := true, laidLooks := .later }
def FnTellConsumerMemberMetadataUptoCardSaid : Prop := Claim7.holds Tryd.pinned (.plain (OpenSpec.upto fnTellConsumerMemberMetadataSpec)) fnTellConsumerMemberMetadataUptoCard
end Rows
end Go.Proofs.YtmficcifapfkdabDoor
