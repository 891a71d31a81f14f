/-
  DERIVED. GIVEN WITH THE SEED: THE CARDS: each row of YtlhbhamopejgcaaDoorRows.lean that lists a variable, with what it lists TIED to the program's text (the seventh form; the later family's looks); each row that meets fmt, with fmt's text TOLD by the authors' own Lean function (tested against real Go, not proved from fmt's source: count such statements apart). THE CARD IS WHAT COUNTS. Prove the row's statement (the work); the ties are given (YtlhbhamopejgcaaDoorTie.lean); close each card by the builder's one call (the guide's Derived/Test/ToyasCard.lean, 'card_holds'). Laid BY PROGRAM, IN A SANDBOX (cutbox-door.mjs). By AI agents, Wed Nov 11 2026. No macro, syntax, notation, axiom, sorry.
-/
import Derived.Test.YtlhbhamopejgcaaDoorRows
import GoSem.ClaimSeven
namespace Go.Proofs.YtlhbhamopejgcaaDoor
namespace Rows

/-- THE TIED CARD OF 'laws.FnDefaultBrokerRegistrationResponse'. -/
def fnDefaultBrokerRegistrationResponseCard : Claim7 := { stood := { row := fnDefaultBrokerRegistrationResponseRow, standIns := [], harness := (true, "858b83bdb26ec2f5de534ea0151bae01e7e64e4920e1b078055357752a0eedfc"), looks := false }, kinds := [], alts := [], laidByText := true, laidKinds := [.sentinel], laidTests := true, laidLooks := .later }
def FnDefaultBrokerRegistrationResponseCardSaid : Prop := Claim7.holds Tryd.pinned (.plain (OpenSpec.ofChange fnDefaultBrokerRegistrationResponseSpec)) fnDefaultBrokerRegistrationResponseCard

/-- THE TIED CARD OF 'laws.FnUnsafeDescribeClusterRequest'. -/
def fnUnsafeDescribeClusterRequestCard : Claim7 := { stood := { row := fnUnsafeDescribeClusterRequestRow, standIns := [], harness := (true, "858b83bdb26ec2f5de534ea0151bae01e7e64e4920e1b078055357752a0eedfc"), looks := false }, kinds := [], alts := [], laidByText := true, laidKinds := [.sentinel], laidTests := true, laidLooks := .later }
def FnUnsafeDescribeClusterRequestCardSaid : Prop := Claim7.holds Tryd.pinned (.plain (OpenSpec.ofChange fnUnsafeDescribeClusterRequestSpec)) fnUnsafeDescribeClusterRequestCard

/-- THE SECOND FORM's CARD OF 'laws.FnDefaultBrokerRegistrationResponse'. -/
def fnDefaultBrokerRegistrationResponseUptoCard : Claim7 := { stood := { row := fnDefaultBrokerRegistrationResponseUptoRow, standIns := [], harness := (true, "858b83bdb26ec2f5de534ea0151bae01e7e64e4920e1b078055357752a0eedfc"), looks := false }, kinds := [], alts := [], laidByText := true, laidKinds := [.sentinel], laidTests := true, laidLooks := .later }
def FnDefaultBrokerRegistrationResponseUptoCardSaid : Prop := Claim7.holds Tryd.pinned (.plain (OpenSpec.upto fnDefaultBrokerRegistrationResponseSpec)) fnDefaultBrokerRegistrationResponseUptoCard

/-- THE SECOND FORM's CARD OF 'laws.FnUnsafeDescribeClusterRequest'. -/
def fnUnsafeDescribeClusterRequestUptoCard : Claim7 := { stood := { row := fnUnsafeDescribeClusterRequestUptoRow, standIns := [], harness := (true, "858b83bdb26ec2f5de534ea0151bae01e7e64e4920e1b078055357752a0eedfc"), looks := false }, kinds := [], alts := [], laidByText := true, laidKinds := [.sentinel], laidTests := true, laidLooks := .later }
def FnUnsafeDescribeClusterRequestUptoCardSaid : Prop := Claim7.holds Tryd.pinned (.plain (OpenSpec.upto fnUnsafeDescribeClusterRequestSpec)) fnUnsafeDescribeClusterRequestUptoCard
end Rows
end Go.Proofs.YtlhbhamopejgcaaDoor
