/-
  NARROWER THAN 'FOR EVERY INPUT', by the rows' own cells (each row's printed sentence says how): FnUnsafeDeleteShareGroupOffsetsResponse: laid · FnUnsafeAddPartitionsToTxnResponse: laid · FnUnsafeDescribeUserSCRAMCredentialsResponse: laid.
  DERIVED. THE GIVEN ROWS OF THIS SEAT. 3 by the template 'for every input the law returns true; each argument reads behind the call as it read before'; 0 by the template 'total and deterministic' (their statements: YtinimlbgpacpfaaDoorTotals.lean).
  GIVEN WITH THE SEED: the statements are not yours to turn. If you find one false, say at which input.
  Laid BY PROGRAM, IN A SANDBOX (cutbox-rows.mjs): the forced cells as the released guide's own fill.sh prints them over the translation 42c14a6d665f207b… (all of the seat's roots in one cut). By AI agents, Wed Nov 11 2026. No macro, syntax, notation, axiom, sorry.
-/
import Derived.Test.YtinimlbgpacpfaaDoorChecked
import GoSem.Claim
import GoSem.ClaimJoined
import GoSem.ClaimMapViews
import Derived.JoinedTies
import Derived.KernelRfl
namespace Go.Proofs.YtinimlbgpacpfaaDoor
/- THE CELL 'sum', in the pinned program and in every row, IS THE sha256 OF THE DUMP (.gsa) THAT YtinimlbgpacpfaaDoorProg.lean LOADS. Nothing in Lean hashes anything: it is a label: what it is worth is what the hold of that sum in a sandbox is worth. -/
noncomputable def Tryd.pinned : Pinned := { name := "ytinimlbgpacpfaadoor", sum := "42c14a6d665f207bda7685439f9f15d239153ad75ee9ed43851da339bd84741a", checked := Tryd.checked }
namespace Rows
def none {H : Type} : Left H := { results := [], args := [] }

/- WHAT THE LISTED PACKAGE-LEVEL VARIABLES READ AS WHEN THE CALL BEGINS. Each datum BY PROGRAM (the guide's laid-datum.mjs) off the statement by which the dump's own 'gosem.cut.vars' lays the variable. In a bare row this is a premise. The card (YtinimlbgpacpfaaDoorCards.lean) ties it to the program's text. -/
def laid_pub_mailsack_pub_kmsg_inner_kbin_ErrNotEnoughData {H : Type} : DataW H := .iface "*errors.errorString" (.ptr (.agg [.lit (.string [114, 101, 115, 112, 111, 110, 115, 101, 32, 100, 105, 100, 32, 110, 111, 116, 32, 99, 111, 110, 116, 97, 105, 110, 32, 101, 110, 111, 117, 103, 104, 32, 100, 97, 116, 97, 32, 116, 111, 32, 98, 101, 32, 118, 97, 108, 105, 100])]))

/-- 'laws.FnUnsafeDeleteShareGroupOffsetsResponse': WHATEVER THE INPUT: true; the input reads as it did. -/
def fnUnsafeDeleteShareGroupOffsetsResponseSpec : ChangeSpec := { name := "fnUnsafeDeleteShareGroupOffsetsResponse", fn := fun _ => fun
  | [d1, d2] => { results := [.lit (.bool true)], args := [d1, d2] }
  | _ => none }
def fnUnsafeDeleteShareGroupOffsetsResponseRow : OpenClaim := { program := "ytinimlbgpacpfaadoor", sum := "42c14a6d665f207bda7685439f9f15d239153ad75ee9ed43851da339bd84741a", func := "pub-mailsack/laws.FnUnsafeDeleteShareGroupOffsetsResponse", spec := "fnUnsafeDeleteShareGroupOffsetsResponse", inPlace := ["internal/reflectlite.ValueOf", "internal/reflectlite.Swapper", "(internal/reflectlite.Value).Len"], unfollowed := true, recurses := true, named := ["encoding/binary.BigEndian", "pub-mailsack/pub/kmsg/inner/kbin.ErrNotEnoughData"], apart := false, laid := [("pub-mailsack/pub/kmsg/inner/kbin.ErrNotEnoughData", laid_pub_mailsack_pub_kmsg_inner_kbin_ErrNotEnoughData)] }
def FnUnsafeDeleteShareGroupOffsetsResponseSaid : Prop := fnUnsafeDeleteShareGroupOffsetsResponseRow.holds Tryd.pinned (OpenSpec.ofChange fnUnsafeDeleteShareGroupOffsetsResponseSpec)

/-- ITS FALSE NEIGHBOUR: 'it returns false'. Refute it at one input. -/
def fnUnsafeDeleteShareGroupOffsetsResponseWrong : ChangeSpec := { name := "fnUnsafeDeleteShareGroupOffsetsResponse", fn := fun _ => fun
  | [d1, d2] => { results := [.lit (.bool false)], args := [d1, d2] }
  | _ => none }
def FnUnsafeDeleteShareGroupOffsetsResponseWrongFalsely : Prop := fnUnsafeDeleteShareGroupOffsetsResponseRow.holds Tryd.pinned (OpenSpec.ofChange fnUnsafeDeleteShareGroupOffsetsResponseWrong)

/-- 'laws.FnUnsafeAddPartitionsToTxnResponse': WHATEVER THE INPUT: true; the input reads as it did. -/
def fnUnsafeAddPartitionsToTxnResponseSpec : ChangeSpec := { name := "fnUnsafeAddPartitionsToTxnResponse", fn := fun _ => fun
  | [d1, d2] => { results := [.lit (.bool true)], args := [d1, d2] }
  | _ => none }
def fnUnsafeAddPartitionsToTxnResponseRow : OpenClaim := { program := "ytinimlbgpacpfaadoor", sum := "42c14a6d665f207bda7685439f9f15d239153ad75ee9ed43851da339bd84741a", func := "pub-mailsack/laws.FnUnsafeAddPartitionsToTxnResponse", spec := "fnUnsafeAddPartitionsToTxnResponse", inPlace := ["internal/reflectlite.ValueOf", "internal/reflectlite.Swapper", "(internal/reflectlite.Value).Len"], unfollowed := true, recurses := true, named := ["encoding/binary.BigEndian", "pub-mailsack/pub/kmsg/inner/kbin.ErrNotEnoughData"], apart := false, laid := [("pub-mailsack/pub/kmsg/inner/kbin.ErrNotEnoughData", laid_pub_mailsack_pub_kmsg_inner_kbin_ErrNotEnoughData)] }
def FnUnsafeAddPartitionsToTxnResponseSaid : Prop := fnUnsafeAddPartitionsToTxnResponseRow.holds Tryd.pinned (OpenSpec.ofChange fnUnsafeAddPartitionsToTxnResponseSpec)

/-- ITS FALSE NEIGHBOUR: 'it returns false'. Refute it at one input. -/
def fnUnsafeAddPartitionsToTxnResponseWrong : ChangeSpec := { name := "fnUnsafeAddPartitionsToTxnResponse", fn := fun _ => fun
  | [d1, d2] => { results := [.lit (.bool false)], args := [d1, d2] }
  | _ => none }
def FnUnsafeAddPartitionsToTxnResponseWrongFalsely : Prop := fnUnsafeAddPartitionsToTxnResponseRow.holds Tryd.pinned (OpenSpec.ofChange fnUnsafeAddPartitionsToTxnResponseWrong)

/-- 'laws.FnUnsafeDescribeUserSCRAMCredentialsResponse': WHATEVER THE INPUT: true; the input reads as it did. -/
def fnUnsafeDescribeUserSCRAMCredentialsResponseSpec : ChangeSpec := { name := "fnUnsafeDescribeUserSCRAMCredentialsResponse", fn := fun _ => fun
  | [d1, d2] => { results := [.lit (.bool true)], args := [d1, d2] }
  | _ => none }
def fnUnsafeDescribeUserSCRAMCredentialsResponseRow : OpenClaim := { program := "ytinimlbgpacpfaadoor", sum := "42c14a6d665f207bda7685439f9f15d239153ad75ee9ed43851da339bd84741a", func := "pub-mailsack/laws.FnUnsafeDescribeUserSCRAMCredentialsResponse", spec := "fnUnsafeDescribeUserSCRAMCredentialsResponse", inPlace := ["internal/reflectlite.ValueOf", "internal/reflectlite.Swapper", "(internal/reflectlite.Value).Len"], unfollowed := true, recurses := true, named := ["encoding/binary.BigEndian", "pub-mailsack/pub/kmsg/inner/kbin.ErrNotEnoughData"], apart := false, laid := [("pub-mailsack/pub/kmsg/inner/kbin.ErrNotEnoughData", laid_pub_mailsack_pub_kmsg_inner_kbin_ErrNotEnoughData)] }
def FnUnsafeDescribeUserSCRAMCredentialsResponseSaid : Prop := fnUnsafeDescribeUserSCRAMCredentialsResponseRow.holds Tryd.pinned (OpenSpec.ofChange fnUnsafeDescribeUserSCRAMCredentialsResponseSpec)

/-- ITS FALSE NEIGHBOUR: 'it returns false'. Refute it at one input. -/
def fnUnsafeDescribeUserSCRAMCredentialsResponseWrong : ChangeSpec := { name := "fnUnsafeDescribeUserSCRAMCredentialsResponse", fn := fun _ => fun
  | [d1, d2] => { results := [.lit (.bool false)], args := [d1, d2] }
  | _ => none }
def FnUnsafeDescribeUserSCRAMCredentialsResponseWrongFalsely : Prop := fnUnsafeDescribeUserSCRAMCredentialsResponseRow.holds Tryd.pinned (OpenSpec.ofChange fnUnsafeDescribeUserSCRAMCredentialsResponseWrong)

/- THE SECOND FORM. 'bulk': how many values and letters a reading holds, each counted each time it is reached (what is shared counts as often as it is met; a slice's spare places count too). A statement '..UptoSaid' is the law's where the arguments, and the package variables that the reading takes, are together of bulk at most 1048576: NARROWER than '..Said'. Prove '..Said' where nothing that the law and all that it calls make is longer than what came in: it says more and counts as full. Else prove '..UptoSaid'. A law counts once. -/
mutual
def uptoBulk {H : Type} : DataW H → Nat
  | .lit (.string bytes) => bytes.length + 1
  | .lit _ => 1
  | .nil => 1
  | .ptr d => uptoBulk d + 1
  | .slice elems spare => uptoBulkAll elems + uptoBulkAll spare + 1
  | .agg parts => uptoBulkAll parts + 1
  | .iface _ d => uptoBulk d + 1
  | .map entries => uptoBulkEntries entries + 1
  | .held _ => 1
def uptoBulkAll {H : Type} : List (DataW H) → Nat
  | [] => 0
  | d :: r => uptoBulk d + uptoBulkAll r
def uptoBulkEntries {H : Type} : List (Lit × DataW H) → Nat
  | [] => 0
  | x :: r => uptoBulkEntry x + uptoBulkEntries r
def uptoBulkEntry {H : Type} : Lit × DataW H → Nat
  | (.string bytes, d) => bytes.length + uptoBulk d + 1
  | (_, d) => uptoBulk d + 1
 end
def uptoSmall : (H : Type) → List (DataW H) → Bool := fun _ ds => decide (uptoBulkAll ds ≤ 1048576)
def OpenSpec.upto (s : _root_.Go.ChangeSpec) : _root_.Go.OpenSpec := { _root_.Go.OpenSpec.ofChange s with cond := some uptoSmall }

/-- 'laws.FnUnsafeDeleteShareGroupOffsetsResponse', WHERE WHAT IT READS IS OF BULK AT MOST 1048576: true; the input reads as it did. -/
def fnUnsafeDeleteShareGroupOffsetsResponseUptoRow : OpenClaim := { program := "ytinimlbgpacpfaadoor", sum := "42c14a6d665f207bda7685439f9f15d239153ad75ee9ed43851da339bd84741a", func := "pub-mailsack/laws.FnUnsafeDeleteShareGroupOffsetsResponse", spec := "fnUnsafeDeleteShareGroupOffsetsResponse", inPlace := ["internal/reflectlite.ValueOf", "internal/reflectlite.Swapper", "(internal/reflectlite.Value).Len"], unfollowed := true, recurses := true, named := ["encoding/binary.BigEndian", "pub-mailsack/pub/kmsg/inner/kbin.ErrNotEnoughData"], apart := false, laid := [("pub-mailsack/pub/kmsg/inner/kbin.ErrNotEnoughData", laid_pub_mailsack_pub_kmsg_inner_kbin_ErrNotEnoughData)], narrowed := true }
def FnUnsafeDeleteShareGroupOffsetsResponseUptoSaid : Prop := fnUnsafeDeleteShareGroupOffsetsResponseUptoRow.holds Tryd.pinned (OpenSpec.upto fnUnsafeDeleteShareGroupOffsetsResponseSpec)

/-- 'laws.FnUnsafeAddPartitionsToTxnResponse', WHERE WHAT IT READS IS OF BULK AT MOST 1048576: true; the input reads as it did. -/
def fnUnsafeAddPartitionsToTxnResponseUptoRow : OpenClaim := { program := "ytinimlbgpacpfaadoor", sum := "42c14a6d665f207bda7685439f9f15d239153ad75ee9ed43851da339bd84741a", func := "pub-mailsack/laws.FnUnsafeAddPartitionsToTxnResponse", spec := "fnUnsafeAddPartitionsToTxnResponse", inPlace := ["internal/reflectlite.ValueOf", "internal/reflectlite.Swapper", "(internal/reflectlite.Value).Len"], unfollowed := true, recurses := true, named := ["encoding/binary.BigEndian", "pub-mailsack/pub/kmsg/inner/kbin.ErrNotEnoughData"], apart := false, laid := [("pub-mailsack/pub/kmsg/inner/kbin.ErrNotEnoughData", laid_pub_mailsack_pub_kmsg_inner_kbin_ErrNotEnoughData)], narrowed := true }
def FnUnsafeAddPartitionsToTxnResponseUptoSaid : Prop := fnUnsafeAddPartitionsToTxnResponseUptoRow.holds Tryd.pinned (OpenSpec.upto fnUnsafeAddPartitionsToTxnResponseSpec)

/-- 'laws.FnUnsafeDescribeUserSCRAMCredentialsResponse', WHERE WHAT IT READS IS OF BULK AT MOST 1048576: true; the input reads as it did. -/
def fnUnsafeDescribeUserSCRAMCredentialsResponseUptoRow : OpenClaim := { program := "ytinimlbgpacpfaadoor", sum := "42c14a6d665f207bda7685439f9f15d239153ad75ee9ed43851da339bd84741a", func := "pub-mailsack/laws.FnUnsafeDescribeUserSCRAMCredentialsResponse", spec := "fnUnsafeDescribeUserSCRAMCredentialsResponse", inPlace := ["internal/reflectlite.ValueOf", "internal/reflectlite.Swapper", "(internal/reflectlite.Value).Len"], unfollowed := true, recurses := true, named := ["encoding/binary.BigEndian", "pub-mailsack/pub/kmsg/inner/kbin.ErrNotEnoughData"], apart := false, laid := [("pub-mailsack/pub/kmsg/inner/kbin.ErrNotEnoughData", laid_pub_mailsack_pub_kmsg_inner_kbin_ErrNotEnoughData)], narrowed := true }
def FnUnsafeDescribeUserSCRAMCredentialsResponseUptoSaid : Prop := fnUnsafeDescribeUserSCRAMCredentialsResponseUptoRow.holds Tryd.pinned (OpenSpec.upto fnUnsafeDescribeUserSCRAMCredentialsResponseSpec)

end Rows
end Go.Proofs.YtinimlbgpacpfaaDoor
