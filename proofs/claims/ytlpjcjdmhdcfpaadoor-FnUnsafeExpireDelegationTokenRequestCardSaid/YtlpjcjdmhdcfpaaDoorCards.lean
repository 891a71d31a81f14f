/-
  DERIVED. GIVEN WITH THE SEED: THE CARDS: each row of YtlpjcjdmhdcfpaaDoorRows.lean that lists a variable, with what it lists TIED to the program's text (the seventh form; the later family's looks); each row that meets fmt, with fmt's text TOLD by the authors' own Lean function (tested against real Go, not proved from fmt's source: count such statements apart). THE CARD IS WHAT COUNTS. Prove the row's statement (the work); the ties are given (YtlpjcjdmhdcfpaaDoorTie.lean); close each card by the builder's one call (the guide's Derived/Test/ToyasCard.lean, 'card_holds'). Laid BY PROGRAM, IN A SANDBOX (cutbox-door.mjs). By AI agents, Wed Nov 11 2026. No macro, syntax, notation, axiom, sorry.
-/
import Derived.Test.YtlpjcjdmhdcfpaaDoorRows
import GoSem.ClaimSeven
namespace Go.Proofs.YtlpjcjdmhdcfpaaDoor
namespace Rows

/-- THE TIED CARD OF 'laws.FnUnsafeExpireDelegationTokenRequest'. -/
def fnUnsafeExpireDelegationTokenRequestCard : Claim7 := { stood := { row := fnUnsafeExpireDelegationTokenRequestRow, standIns := [], harness := (true, "bc94282299bfdeb60edc571b9aa6ba520be9d30d4d0eb58bb1308bd60ada5682"), looks := false }, kinds := [], alts := [], laidByText := true, laidKinds := [.sentinel], laidTests := true, laidLooks := .later }
def FnUnsafeExpireDelegationTokenRequestCardSaid : Prop := Claim7.holds Tryd.pinned (.plain (OpenSpec.ofChange fnUnsafeExpireDelegationTokenRequestSpec)) fnUnsafeExpireDelegationTokenRequestCard

/-- THE SECOND FORM's CARD OF 'laws.FnUnsafeExpireDelegationTokenRequest'. -/
def fnUnsafeExpireDelegationTokenRequestUptoCard : Claim7 := { stood := { row := fnUnsafeExpireDelegationTokenRequestUptoRow, standIns := [], harness := (true, "bc94282299bfdeb60edc571b9aa6ba520be9d30d4d0eb58bb1308bd60ada5682"), looks := false }, kinds := [], alts := [], laidByText := true, laidKinds := [.sentinel], laidTests := true, laidLooks := .later }
def FnUnsafeExpireDelegationTokenRequestUptoCardSaid : Prop := Claim7.holds Tryd.pinned (.plain (OpenSpec.upto fnUnsafeExpireDelegationTokenRequestSpec)) fnUnsafeExpireDelegationTokenRequestUptoCard
end Rows
end Go.Proofs.YtlpjcjdmhdcfpaaDoor
