/- DescribeUserSCRAMCredentialsResponse: its doors. -/
import Derived.Test.YtinimlbgpacpfaaDoorMsgDescribeUserSCRAMCredentialsResponse
namespace Go.Proofs.YtinimlbgpacpfaaDoor
open Go Go.Kf

theorem rfA : RfFacts P N 91 := .of (by kernel_rfl) (by kernel_rfl) (by kernel_rfl) (by kernel_rfl) (by kernel_rfl)
theorem errI : ∃ ms, P.underlying N.tErr = some (.interface ms) := iface_of (by kernel_rfl)
def mid : List Value := [.int .i32 0, .int .i16 0, .pointer none, .slice none 0 0, .map none]
def fsAt (v : Int) : List FV := .one (.int .i16 v) :: [.one (.int .i32 0), .one (.int .i16 0), .ntext none, .list true [], .tags []]
theorem newOk : NewOk P 31 (.int .i16 0 :: mid) := new_gives rdF.mix (by kernel_rfl : zeroTy P 91 = some (.agg ⟨.int .i16 0 :: [.int .i32 0, .int .i16 0, .pointer none, .slice none 0 0, .map none]⟩, 6)) dokDescribeUserSCRAMCredentialsResponse (by kernel_rfl) (by kernel_rfl)

def ss0s : List Step := [.call (.num 4 .i32) 53 1 21 1, .call (.num 2 .i16) 54 2 38 2, .call .cnstr 56 3 58 3, .listS .clen 59 4 89 4 96 5 82 dfDescribeUserSCRAMCredentialsResponseResult [.call .cstr 66 0 9 0, .call (.num 2 .i16) 54 1 38 1, .call .cnstr 56 2 58 2, .listS .clen 59 3 94 3 125 3 83 dfDescribeUserSCRAMCredentialsResponseResultCredentialInfo [.call (.num 1 .i8) 84 0 123 0, .call (.num 4 .i32) 53 1 21 1, .call .tags 69 2 62 2], .call .tags 69 4 62 4], .call .tags 69 5 62 5]
theorem ok0s : StepsOk P N 91 lsDescribeUserSCRAMCredentialsResponse ss0s := ⟨⟨aInt32, ⟨by kernel_rfl, rfl, rfl⟩, by kernel_rfl⟩, ⟨aInt16, ⟨by kernel_rfl, rfl, rfl⟩, by kernel_rfl⟩, ⟨aCompactNullableString, ⟨by kernel_rfl, rfl, rfl⟩, by kernel_rfl⟩, ⟨hCompactArrayLen, ⟨by kernel_rfl, rfl, rfl⟩, .of (by kernel_rfl) (by kernel_rfl) (by kernel_rfl) (by decide), dokDescribeUserSCRAMCredentialsResponseResult, rfl, ⟨⟨aCompactString, ⟨by kernel_rfl, rfl, rfl⟩, by kernel_rfl⟩, ⟨aInt16, ⟨by kernel_rfl, rfl, rfl⟩, by kernel_rfl⟩, ⟨aCompactNullableString, ⟨by kernel_rfl, rfl, rfl⟩, by kernel_rfl⟩, ⟨hCompactArrayLen, ⟨by kernel_rfl, rfl, rfl⟩, .of (by kernel_rfl) (by kernel_rfl) (by kernel_rfl) (by decide), dokDescribeUserSCRAMCredentialsResponseResultCredentialInfo, rfl, ⟨⟨aInt8, ⟨by kernel_rfl, rfl, rfl⟩, by kernel_rfl⟩, ⟨aInt32, ⟨by kernel_rfl, rfl, rfl⟩, by kernel_rfl⟩, ⟨aTags, ⟨by kernel_rfl, rfl, rfl⟩, by kernel_rfl⟩, trivial⟩⟩, ⟨aTags, ⟨by kernel_rfl, rfl, rfl⟩, by kernel_rfl⟩, trivial⟩⟩, ⟨aTags, ⟨by kernel_rfl, rfl, rfl⟩, by kernel_rfl⟩, trivial⟩
theorem door0s {w : World} {l : List UInt8} {data e0 : Value} (hl : l.length ≤ 1000) (hd : DataIn w data l) (he : ErrAt w N.gErr e0) (he0 : ∃ d y, e0 = .iface d y) : Gives P 16 [.int .i64 0, data] w fun u w' => DoorPost w w' u (toldOf ss0s (fsAt 0) gpDescribeUserSCRAMCredentialsResponse l) ∧ Keeps [] w w' :=
  door_ver (e := E) (fNew := 31) (fSet := 33) (fRead := 34) (fRf := 50) (fDef := 49) (fTell := 35) (S := 91) (ds := dsDescribeUserSCRAMCredentialsResponse) (ls := lsDescribeUserSCRAMCredentialsResponse) (ss := ss0s) (v := 0) (uns := false) (fs0 := fsAt 0) (mid := mid) (mid1 := .int .i16 0 :: mid) (ts := tysDescribeUserSCRAMCredentialsResponse)
    rdF octF tellF tyZ rfA (fun _ => hOk) hComplete errI newOk defDescribeUserSCRAMCredentialsResponse toldDescribeUserSCRAMCredentialsResponse (by kernel_rfl) (by kernel_rfl) (by kernel_rfl) (by kernel_rfl) ok0s rfl rfl rfl rfl (by kernel_rfl) (by kernel_rfl) rfl rfl rfl rfl (by decide) hl hd he he0

def ss0u : List Step := [.call (.num 4 .i32) 53 1 21 1, .call (.num 2 .i16) 54 2 38 2, .call .cnstr 55 3 58 3, .listS .clen 59 4 89 4 96 5 82 dfDescribeUserSCRAMCredentialsResponseResult [.call .cstr 64 0 9 0, .call (.num 2 .i16) 54 1 38 1, .call .cnstr 55 2 58 2, .listS .clen 59 3 94 3 125 3 83 dfDescribeUserSCRAMCredentialsResponseResultCredentialInfo [.call (.num 1 .i8) 84 0 123 0, .call (.num 4 .i32) 53 1 21 1, .call .tags 69 2 62 2], .call .tags 69 4 62 4], .call .tags 69 5 62 5]
theorem ok0u : StepsOk P N 91 lsDescribeUserSCRAMCredentialsResponse ss0u := ⟨⟨aInt32, ⟨by kernel_rfl, rfl, rfl⟩, by kernel_rfl⟩, ⟨aInt16, ⟨by kernel_rfl, rfl, rfl⟩, by kernel_rfl⟩, ⟨aUnsafeCompactNullableString, ⟨by kernel_rfl, rfl, rfl⟩, by kernel_rfl⟩, ⟨hCompactArrayLen, ⟨by kernel_rfl, rfl, rfl⟩, .of (by kernel_rfl) (by kernel_rfl) (by kernel_rfl) (by decide), dokDescribeUserSCRAMCredentialsResponseResult, rfl, ⟨⟨aUnsafeCompactString, ⟨by kernel_rfl, rfl, rfl⟩, by kernel_rfl⟩, ⟨aInt16, ⟨by kernel_rfl, rfl, rfl⟩, by kernel_rfl⟩, ⟨aUnsafeCompactNullableString, ⟨by kernel_rfl, rfl, rfl⟩, by kernel_rfl⟩, ⟨hCompactArrayLen, ⟨by kernel_rfl, rfl, rfl⟩, .of (by kernel_rfl) (by kernel_rfl) (by kernel_rfl) (by decide), dokDescribeUserSCRAMCredentialsResponseResultCredentialInfo, rfl, ⟨⟨aInt8, ⟨by kernel_rfl, rfl, rfl⟩, by kernel_rfl⟩, ⟨aInt32, ⟨by kernel_rfl, rfl, rfl⟩, by kernel_rfl⟩, ⟨aTags, ⟨by kernel_rfl, rfl, rfl⟩, by kernel_rfl⟩, trivial⟩⟩, ⟨aTags, ⟨by kernel_rfl, rfl, rfl⟩, by kernel_rfl⟩, trivial⟩⟩, ⟨aTags, ⟨by kernel_rfl, rfl, rfl⟩, by kernel_rfl⟩, trivial⟩
theorem door0u {w : World} {l : List UInt8} {data e0 : Value} (hl : l.length ≤ 1000) (hd : DataIn w data l) (he : ErrAt w N.gErr e0) (he0 : ∃ d y, e0 = .iface d y) : Gives P 17 [.int .i64 0, data] w fun u w' => DoorPost w w' u (toldOf ss0s (fsAt 0) gpDescribeUserSCRAMCredentialsResponse l) ∧ Keeps [] w w' :=
  door_ver (e := E) (fNew := 31) (fSet := 33) (fRead := 36) (fRf := 50) (fDef := 49) (fTell := 35) (S := 91) (ds := dsDescribeUserSCRAMCredentialsResponse) (ls := lsDescribeUserSCRAMCredentialsResponse) (ss := ss0u) (v := 0) (uns := true) (fs0 := fsAt 0) (mid := mid) (mid1 := .int .i16 0 :: mid) (ts := tysDescribeUserSCRAMCredentialsResponse)
    rdF octF tellF tyZ rfA (fun _ => hOk) hComplete errI newOk defDescribeUserSCRAMCredentialsResponse toldDescribeUserSCRAMCredentialsResponse (by kernel_rfl) (by kernel_rfl) (by kernel_rfl) (by kernel_rfl) ok0u rfl rfl rfl rfl (by kernel_rfl) (by kernel_rfl) rfl rfl rfl rfl (by decide) hl hd he he0

def ssAll : List (List Step) := [ss0s]
def outOf (l : List UInt8) (v : Nat) : Option PT := toldOf (ssAll.getD v []) (fsAt v) gpDescribeUserSCRAMCredentialsResponse l

theorem out0 (l : List UInt8) : outOf l 0 = toldOf ss0s (fsAt 0) gpDescribeUserSCRAMCredentialsResponse l := rfl
theorem allTell (w : World) (v : Nat) (l : List UInt8) (data e0 : Value) (hv : v ≤ 0) (hl : l.length ≤ 1000) (hd : DataIn w data l) (he : ErrAt w N.gErr e0) (he0 : ∃ d y, e0 = .iface d y) : Gives P 16 [.int .i64 v, data] w fun u w' => DoorPost w w' u (outOf l v) ∧ Keeps [] w w' := by
  have h : v = 0 := by omega
  rcases h with rfl
  · rw [out0]; exact door0s hl hd he he0

theorem allUnsafe (w : World) (v : Nat) (l : List UInt8) (data e0 : Value) (hv : v ≤ 0) (hl : l.length ≤ 1000) (hd : DataIn w data l) (he : ErrAt w N.gErr e0) (he0 : ∃ d y, e0 = .iface d y) : Gives P 17 [.int .i64 v, data] w fun u w' => DoorPost w w' u (outOf l v) ∧ Keeps [] w w' := by
  have h : v = 0 := by omega
  rcases h with rfl
  · rw [out0]; exact door0u hl hd he he0

theorem maxOk (w : World) : Gives P 15 [] w fun v w' => v = .int .i64 (0 : Nat) ∧ Keeps [] w w' := max_gives (fNew := 31) (fMax := 32) (m := 0) rdF newOk (by kernel_rfl) (by kernel_rfl) rfl
theorem verOk (n : Nat) (hn : n < 256) (w : World) : Gives P 8 [.int .u8 n, .int .i64 (0 : Nat)] w fun v w' => v = .int .i64 (n % (0 + 1) : Nat) ∧ w' = w := version_gives rdF (by kernel_rfl) hn (by decide)

/-- The law: whatever the octets. -/
theorem lawOk (w : World) (n : Nat) (hn : n < 256) (data e0 : Value) (l : List UInt8) (hd : DataIn w data l) (he : ErrAt w N.gErr e0) (he0 : ∃ d y, e0 = .iface d y) : Gives P 5 [.int .u8 n, data] w fun v w' => v = .bool true ∧ Keeps [] w w' :=
  unsafeLaw_gives (m := 0) (out := outOf l) (e0 := e0) (l := l) rdF tellF tyZ (by kernel_rfl) maxOk (verOk n hn) (fun w hl hd he => allTell w _ l data e0 (Nat.le_of_lt_succ (Nat.mod_lt _ (by decide))) hl hd he he0) (fun w hl hd he => allUnsafe w _ l data e0 (Nat.le_of_lt_succ (Nat.mod_lt _ (by decide))) hl hd he he0) hGot hSameTree hd he
end Go.Proofs.YtinimlbgpacpfaaDoor
