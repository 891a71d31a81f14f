/-
  NARROWER THAN 'FOR EVERY INPUT', by the rows' own cells (each row's printed sentence says how): FnTellGetTelemetrySubscriptionsResponse: loops, laid · FnTellAlterClientQuotasResponse: loops, laid · FnTellProduceRequest: loops, laid.
  DERIVED. THE GIVEN ROWS OF THIS SEAT. 3 by the template 'for every input the law returns true; each argument reads behind the call as it read before'; 0 by the template 'total and deterministic' (their statements: YtcinbiokghpilaaGreatDoorTotals.lean).
  GIVEN WITH THE SEED: the statements are not yours to turn. If you find one false, say at which input.
  Laid BY PROGRAM, IN A SANDBOX (cutbox-rows.mjs): the forced cells as the released guide's own fill.sh prints them over the translation 39c0c3a6fbf0465c… (all of the seat's roots in one cut). By AI agents, Wed Nov 11 2026. No macro, syntax, notation, axiom, sorry.
-/
import Derived.Test.YtcinbiokghpilaaGreatDoorChecked
import GoSem.Claim
import GoSem.ClaimJoined
import GoSem.ClaimMapViews
import Derived.JoinedTies
import Derived.KernelRfl
namespace Go.Proofs.YtcinbiokghpilaaGreatDoor
/- THE CELL 'sum', in the pinned program and in every row, IS THE sha256 OF THE DUMP (.gsa) THAT YtcinbiokghpilaaGreatDoorProg.lean LOADS. Nothing in Lean hashes anything: it is a label: what it is worth is what the hold of that sum in a sandbox is worth. -/
noncomputable def Tryz.pinned : Pinned := { name := "ytcinbiokghpilaagreatdoor", sum := "39c0c3a6fbf0465c09f49d675474c78ef13051fd1ee0d5419b8e8ebce4b78de8", checked := Tryz.checked }
namespace Rows
def none {H : Type} : Left H := { results := [], args := [] }

/- WHAT THE LISTED PACKAGE-LEVEL VARIABLES READ AS WHEN THE CALL BEGINS. Each datum BY PROGRAM (the guide's laid-datum.mjs) off the statement by which the dump's own 'gosem.cut.vars' lays the variable. In a bare row this is a premise. The card (YtcinbiokghpilaaGreatDoorCards.lean) ties it to the program's text. -/
def laid_pub_mailsack_pub_kmsg_inner_kbin_ErrNotEnoughData {H : Type} : DataW H := .iface "*errors.errorString" (.ptr (.agg [.lit (.string [114, 101, 115, 112, 111, 110, 115, 101, 32, 100, 105, 100, 32, 110, 111, 116, 32, 99, 111, 110, 116, 97, 105, 110, 32, 101, 110, 111, 117, 103, 104, 32, 100, 97, 116, 97, 32, 116, 111, 32, 98, 101, 32, 118, 97, 108, 105, 100])]))

/-- 'laws.FnTellGetTelemetrySubscriptionsResponse': WHATEVER THE INPUT: true; the input reads as it did. -/
def fnTellGetTelemetrySubscriptionsResponseSpec : ChangeSpec := { name := "fnTellGetTelemetrySubscriptionsResponse", fn := fun _ => fun
  | [d1, d2] => { results := [.lit (.bool true)], args := [d1, d2] }
  | _ => none }
def fnTellGetTelemetrySubscriptionsResponseRow : OpenClaim := { program := "ytcinbiokghpilaagreatdoor", sum := "39c0c3a6fbf0465c09f49d675474c78ef13051fd1ee0d5419b8e8ebce4b78de8", func := "pub-mailsack/laws.FnTellGetTelemetrySubscriptionsResponse", spec := "fnTellGetTelemetrySubscriptionsResponse", inPlace := ["internal/reflectlite.ValueOf", "internal/reflectlite.Swapper", "(internal/reflectlite.Value).Len"], unfollowed := true, recurses := true, named := ["encoding/binary.BigEndian", "pub-mailsack/pub/kmsg/inner/kbin.ErrNotEnoughData"], loops := true, apart := false, laid := [("pub-mailsack/pub/kmsg/inner/kbin.ErrNotEnoughData", laid_pub_mailsack_pub_kmsg_inner_kbin_ErrNotEnoughData)] }
def FnTellGetTelemetrySubscriptionsResponseSaid : Prop := fnTellGetTelemetrySubscriptionsResponseRow.holds Tryz.pinned (OpenSpec.ofChange fnTellGetTelemetrySubscriptionsResponseSpec)

/-- ITS FALSE NEIGHBOUR: 'it returns false'. Refute it at one input. -/
def fnTellGetTelemetrySubscriptionsResponseWrong : ChangeSpec := { name := "fnTellGetTelemetrySubscriptionsResponse", fn := fun _ => fun
  | [d1, d2] => { results := [.lit (.bool false)], args := [d1, d2] }
  | _ => none }
def FnTellGetTelemetrySubscriptionsResponseWrongFalsely : Prop := fnTellGetTelemetrySubscriptionsResponseRow.holds Tryz.pinned (OpenSpec.ofChange fnTellGetTelemetrySubscriptionsResponseWrong)

/-- 'laws.FnTellAlterClientQuotasResponse': WHATEVER THE INPUT: true; the input reads as it did. -/
def fnTellAlterClientQuotasResponseSpec : ChangeSpec := { name := "fnTellAlterClientQuotasResponse", fn := fun _ => fun
  | [d1, d2] => { results := [.lit (.bool true)], args := [d1, d2] }
  | _ => none }
def fnTellAlterClientQuotasResponseRow : OpenClaim := { program := "ytcinbiokghpilaagreatdoor", sum := "39c0c3a6fbf0465c09f49d675474c78ef13051fd1ee0d5419b8e8ebce4b78de8", func := "pub-mailsack/laws.FnTellAlterClientQuotasResponse", spec := "fnTellAlterClientQuotasResponse", inPlace := ["internal/reflectlite.ValueOf", "internal/reflectlite.Swapper", "(internal/reflectlite.Value).Len"], unfollowed := true, recurses := true, named := ["encoding/binary.BigEndian", "pub-mailsack/pub/kmsg/inner/kbin.ErrNotEnoughData"], loops := true, apart := false, laid := [("pub-mailsack/pub/kmsg/inner/kbin.ErrNotEnoughData", laid_pub_mailsack_pub_kmsg_inner_kbin_ErrNotEnoughData)] }
def FnTellAlterClientQuotasResponseSaid : Prop := fnTellAlterClientQuotasResponseRow.holds Tryz.pinned (OpenSpec.ofChange fnTellAlterClientQuotasResponseSpec)

/-- ITS FALSE NEIGHBOUR: 'it returns false'. Refute it at one input. -/
def fnTellAlterClientQuotasResponseWrong : ChangeSpec := { name := "fnTellAlterClientQuotasResponse", fn := fun _ => fun
  | [d1, d2] => { results := [.lit (.bool false)], args := [d1, d2] }
  | _ => none }
def FnTellAlterClientQuotasResponseWrongFalsely : Prop := fnTellAlterClientQuotasResponseRow.holds Tryz.pinned (OpenSpec.ofChange fnTellAlterClientQuotasResponseWrong)

/-- 'laws.FnTellProduceRequest': WHATEVER THE INPUT: true; the input reads as it did. -/
def fnTellProduceRequestSpec : ChangeSpec := { name := "fnTellProduceRequest", fn := fun _ => fun
  | [d1, d2] => { results := [.lit (.bool true)], args := [d1, d2] }
  | _ => none }
def fnTellProduceRequestRow : OpenClaim := { program := "ytcinbiokghpilaagreatdoor", sum := "39c0c3a6fbf0465c09f49d675474c78ef13051fd1ee0d5419b8e8ebce4b78de8", func := "pub-mailsack/laws.FnTellProduceRequest", spec := "fnTellProduceRequest", inPlace := ["internal/reflectlite.ValueOf", "internal/reflectlite.Swapper", "(internal/reflectlite.Value).Len"], unfollowed := true, recurses := true, named := ["encoding/binary.BigEndian", "pub-mailsack/pub/kmsg/inner/kbin.ErrNotEnoughData"], loops := true, apart := false, laid := [("pub-mailsack/pub/kmsg/inner/kbin.ErrNotEnoughData", laid_pub_mailsack_pub_kmsg_inner_kbin_ErrNotEnoughData)] }
def FnTellProduceRequestSaid : Prop := fnTellProduceRequestRow.holds Tryz.pinned (OpenSpec.ofChange fnTellProduceRequestSpec)

/-- ITS FALSE NEIGHBOUR: 'it returns false'. Refute it at one input. -/
def fnTellProduceRequestWrong : ChangeSpec := { name := "fnTellProduceRequest", fn := fun _ => fun
  | [d1, d2] => { results := [.lit (.bool false)], args := [d1, d2] }
  | _ => none }
def FnTellProduceRequestWrongFalsely : Prop := fnTellProduceRequestRow.holds Tryz.pinned (OpenSpec.ofChange fnTellProduceRequestWrong)

/- THE SECOND FORM. 'bulk': how many values and letters a reading holds, each counted each time it is reached (what is shared counts as often as it is met; a slice's spare places count too). A statement '..UptoSaid' is the law's where the arguments, and the package variables that the reading takes, are together of bulk at most 1048576: NARROWER than '..Said'. Prove '..Said' where nothing that the law and all that it calls make is longer than what came in: it says more and counts as full. Else prove '..UptoSaid'. A law counts once. -/
mutual
def uptoBulk {H : Type} : DataW H → Nat
  | .lit (.string bytes) => bytes.length + 1
  | .lit _ => 1
  | .nil => 1
  | .ptr d => uptoBulk d + 1
  | .slice elems spare => uptoBulkAll elems + uptoBulkAll spare + 1
  | .agg parts => uptoBulkAll parts + 1
  | .iface _ d => uptoBulk d + 1
  | .map entries => uptoBulkEntries entries + 1
  | .held _ => 1
def uptoBulkAll {H : Type} : List (DataW H) → Nat
  | [] => 0
  | d :: r => uptoBulk d + uptoBulkAll r
def uptoBulkEntries {H : Type} : List (Lit × DataW H) → Nat
  | [] => 0
  | x :: r => uptoBulkEntry x + uptoBulkEntries r
def uptoBulkEntry {H : Type} : Lit × DataW H → Nat
  | (.string bytes, d) => bytes.length + uptoBulk d + 1
  | (_, d) => uptoBulk d + 1
 end
def uptoSmall : (H : Type) → List (DataW H) → Bool := fun _ ds => decide (uptoBulkAll ds ≤ 1048576)
def OpenSpec.upto (s : _root_.Go.ChangeSpec) : _root_.Go.OpenSpec := { _root_.Go.OpenSpec.ofChange s with cond := some uptoSmall }

/-- 'laws.FnTellGetTelemetrySubscriptionsResponse', WHERE WHAT IT READS IS OF BULK AT MOST 1048576: true; the input reads as it did. -/
def fnTellGetTelemetrySubscriptionsResponseUptoRow : OpenClaim := { program := "ytcinbiokghpilaagreatdoor", sum := "39c0c3a6fbf0465c09f49d675474c78ef13051fd1ee0d5419b8e8ebce4b78de8", func := "pub-mailsack/laws.FnTellGetTelemetrySubscriptionsResponse", spec := "fnTellGetTelemetrySubscriptionsResponse", inPlace := ["internal/reflectlite.ValueOf", "internal/reflectlite.Swapper", "(internal/reflectlite.Value).Len"], unfollowed := true, recurses := true, named := ["encoding/binary.BigEndian", "pub-mailsack/pub/kmsg/inner/kbin.ErrNotEnoughData"], loops := true, apart := false, laid := [("pub-mailsack/pub/kmsg/inner/kbin.ErrNotEnoughData", laid_pub_mailsack_pub_kmsg_inner_kbin_ErrNotEnoughData)], narrowed := true }
def FnTellGetTelemetrySubscriptionsResponseUptoSaid : Prop := fnTellGetTelemetrySubscriptionsResponseUptoRow.holds Tryz.pinned (OpenSpec.upto fnTellGetTelemetrySubscriptionsResponseSpec)

/-- 'laws.FnTellAlterClientQuotasResponse', WHERE WHAT IT READS IS OF BULK AT MOST 1048576: true; the input reads as it did. -/
def fnTellAlterClientQuotasResponseUptoRow : OpenClaim := { program := "ytcinbiokghpilaagreatdoor", sum := "39c0c3a6fbf0465c09f49d675474c78ef13051fd1ee0d5419b8e8ebce4b78de8", func := "pub-mailsack/laws.FnTellAlterClientQuotasResponse", spec := "fnTellAlterClientQuotasResponse", inPlace := ["internal/reflectlite.ValueOf", "internal/reflectlite.Swapper", "(internal/reflectlite.Value).Len"], unfollowed := true, recurses := true, named := ["encoding/binary.BigEndian", "pub-mailsack/pub/kmsg/inner/kbin.ErrNotEnoughData"], loops := true, apart := false, laid := [("pub-mailsack/pub/kmsg/inner/kbin.ErrNotEnoughData", laid_pub_mailsack_pub_kmsg_inner_kbin_ErrNotEnoughData)], narrowed := true }
def FnTellAlterClientQuotasResponseUptoSaid : Prop := fnTellAlterClientQuotasResponseUptoRow.holds Tryz.pinned (OpenSpec.upto fnTellAlterClientQuotasResponseSpec)

/-- 'laws.FnTellProduceRequest', WHERE WHAT IT READS IS OF BULK AT MOST 1048576: true; the input reads as it did. -/
def fnTellProduceRequestUptoRow : OpenClaim := { program := "ytcinbiokghpilaagreatdoor", sum := "39c0c3a6fbf0465c09f49d675474c78ef13051fd1ee0d5419b8e8ebce4b78de8", func := "pub-mailsack/laws.FnTellProduceRequest", spec := "fnTellProduceRequest", inPlace := ["internal/reflectlite.ValueOf", "internal/reflectlite.Swapper", "(internal/reflectlite.Value).Len"], unfollowed := true, recurses := true, named := ["encoding/binary.BigEndian", "pub-mailsack/pub/kmsg/inner/kbin.ErrNotEnoughData"], loops := true, apart := false, laid := [("pub-mailsack/pub/kmsg/inner/kbin.ErrNotEnoughData", laid_pub_mailsack_pub_kmsg_inner_kbin_ErrNotEnoughData)], narrowed := true }
def FnTellProduceRequestUptoSaid : Prop := fnTellProduceRequestUptoRow.holds Tryz.pinned (OpenSpec.upto fnTellProduceRequestSpec)

end Rows
end Go.Proofs.YtcinbiokghpilaaGreatDoor
