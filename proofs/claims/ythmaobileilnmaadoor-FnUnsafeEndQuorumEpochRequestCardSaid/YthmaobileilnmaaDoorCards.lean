/-
  DERIVED. GIVEN WITH THE SEED: THE CARDS: each row of YthmaobileilnmaaDoorRows.lean that lists a variable, with what it lists TIED to the program's text (the seventh form; the later family's looks); each row that meets fmt, with fmt's text TOLD by the authors' own Lean function (tested against real Go, not proved from fmt's source: count such statements apart). THE CARD IS WHAT COUNTS. Prove the row's statement (the work); the ties are given (YthmaobileilnmaaDoorTie.lean); close each card by the builder's one call (the guide's Derived/Test/ToyasCard.lean, 'card_holds'). Laid BY PROGRAM, IN A SANDBOX (cutbox-door.mjs). By AI agents, Wed Nov 11 2026. No macro, syntax, notation, axiom, sorry.
-/
import Derived.Test.YthmaobileilnmaaDoorRows
import GoSem.ClaimSeven
namespace Go.Proofs.YthmaobileilnmaaDoor
namespace Rows

/-- THE TIED CARD OF 'laws.FnUnsafeEndQuorumEpochRequest'. -/
def fnUnsafeEndQuorumEpochRequestCard : Claim7 := { stood := { row := fnUnsafeEndQuorumEpochRequestRow, standIns := [], harness := (true, "9aa4c25417faea3e0bc9e5c525d0788c8ea694847ef8f519dbf2629bafaadeff"), looks := false }, kinds := [], alts := [], laidByText := true, laidKinds := [.sentinel], laidTests := true, laidLooks := .later }
def FnUnsafeEndQuorumEpochRequestCardSaid : Prop := Claim7.holds Tryd.pinned (.plain (OpenSpec.ofChange fnUnsafeEndQuorumEpochRequestSpec)) fnUnsafeEndQuorumEpochRequestCard

/-- THE SECOND FORM's CARD OF 'laws.FnUnsafeEndQuorumEpochRequest'. -/
def fnUnsafeEndQuorumEpochRequestUptoCard : Claim7 := { stood := { row := fnUnsafeEndQuorumEpochRequestUptoRow, standIns := [], harness := (true, "9aa4c25417faea3e0bc9e5c525d0788c8ea694847ef8f519dbf2629bafaadeff"), looks := false }, kinds := [], alts := [], laidByText := true, laidKinds := [.sentinel], laidTests := true, laidLooks := .later }
def FnUnsafeEndQuorumEpochRequestUptoCardSaid : Prop := Claim7.holds Tryd.pinned (.plain (OpenSpec.upto fnUnsafeEndQuorumEpochRequestSpec)) fnUnsafeEndQuorumEpochRequestUptoCard
end Rows
end Go.Proofs.YthmaobileilnmaaDoor
