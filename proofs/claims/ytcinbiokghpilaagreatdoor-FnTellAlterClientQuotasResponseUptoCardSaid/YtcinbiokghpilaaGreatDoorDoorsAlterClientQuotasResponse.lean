/- AlterClientQuotasResponse: its doors. -/
import Derived.Test.YtcinbiokghpilaaGreatDoorMsgAlterClientQuotasResponse
namespace Go.Proofs.YtcinbiokghpilaaGreatDoor
open Go Go.Kf

theorem rfA : RfFacts P N 102 := .of (by kernel_rfl) (by kernel_rfl) (by kernel_rfl) (by kernel_rfl) (by kernel_rfl)
theorem errI : ∃ ms, P.underlying N.tErr = some (.interface ms) := iface_of (by kernel_rfl)
def mid : List Value := [.int .i32 0, .slice none 0 0, .map none]
def fsAt (v : Int) : List FV := .one (.int .i16 v) :: [.one (.int .i32 0), .list true [], .tags []]
theorem newOk : NewOk P 36 (.int .i16 0 :: mid) := new_gives rdF.mix (by kernel_rfl : zeroTy P 102 = some (.agg ⟨.int .i16 0 :: [.int .i32 0, .slice none 0 0, .map none]⟩, 4)) dokAlterClientQuotasResponse (by kernel_rfl) (by kernel_rfl)

def ss0s : List Step := [.call (.num 4 .i32) 74 1 21 1, .listS .len 78 2 100 2 108 4 92 dfAlterClientQuotasResponseEntry [.call (.num 2 .i16) 75 0 46 0, .call .nstr 96 1 105 1, .listS .len 78 2 106 2 139 3 97 dfAlterClientQuotasResponseEntryEntity [.call .str 86 0 9 0, .call .nstr 96 1 105 1]]]
theorem ok0s : StepsOk P N 102 lsAlterClientQuotasResponse ss0s := ⟨⟨aInt32, ⟨by kernel_rfl, rfl, rfl⟩, by kernel_rfl⟩, ⟨hArrayLen, ⟨by kernel_rfl, rfl, rfl⟩, .of (by kernel_rfl) (by kernel_rfl) (by kernel_rfl) (by decide), dokAlterClientQuotasResponseEntry, rfl, ⟨⟨aInt16, ⟨by kernel_rfl, rfl, rfl⟩, by kernel_rfl⟩, ⟨aNullableString, ⟨by kernel_rfl, rfl, rfl⟩, by kernel_rfl⟩, ⟨hArrayLen, ⟨by kernel_rfl, rfl, rfl⟩, .of (by kernel_rfl) (by kernel_rfl) (by kernel_rfl) (by decide), dokAlterClientQuotasResponseEntryEntity, rfl, ⟨⟨aString, ⟨by kernel_rfl, rfl, rfl⟩, by kernel_rfl⟩, ⟨aNullableString, ⟨by kernel_rfl, rfl, rfl⟩, by kernel_rfl⟩, trivial⟩⟩, trivial⟩⟩, trivial⟩
theorem door0s {w : World} {l : List UInt8} {data e0 : Value} (hl : l.length ≤ 1073741824) (hd : DataIn w data l) (he : ErrAt w N.gErr e0) (he0 : ∃ d y, e0 = .iface d y) : Gives P 17 [.int .i64 0, data] w fun u w' => DoorPost w w' u (toldOf ss0s (fsAt 0) gpAlterClientQuotasResponse l) ∧ Keeps [] w w' :=
  door_ver (e := E) (fNew := 36) (fSet := 39) (fRead := 40) (fRf := 65) (fDef := 63) (fTell := 41) (S := 102) (ds := dsAlterClientQuotasResponse) (ls := lsAlterClientQuotasResponse) (ss := ss0s) (v := 0) (uns := false) (fs0 := fsAt 0) (mid := mid) (mid1 := .int .i16 0 :: mid) (ts := tysAlterClientQuotasResponse)
    rdF octF tellF tyZ rfA (fun _ => hOk) hComplete errI newOk defAlterClientQuotasResponse toldAlterClientQuotasResponse (by kernel_rfl) (by kernel_rfl) (by kernel_rfl) (by kernel_rfl) ok0s rfl rfl rfl rfl rfl (by kernel_rfl) (by kernel_rfl) rfl rfl rfl rfl (by decide) hl hd he he0

def ss1s : List Step := [.call (.num 4 .i32) 74 1 21 1, .listS .clen 77 2 100 2 108 4 92 dfAlterClientQuotasResponseEntry [.call (.num 2 .i16) 75 0 46 0, .call .cnstr 94 1 105 1, .listS .clen 77 2 106 2 139 3 97 dfAlterClientQuotasResponseEntryEntity [.call .cstr 85 0 9 0, .call .cnstr 94 1 105 1, .call .tags 87 2 82 2], .call .tags 87 3 82 3], .call .tags 87 3 82 3]
theorem ok1s : StepsOk P N 102 lsAlterClientQuotasResponse ss1s := ⟨⟨aInt32, ⟨by kernel_rfl, rfl, rfl⟩, by kernel_rfl⟩, ⟨hCompactArrayLen, ⟨by kernel_rfl, rfl, rfl⟩, .of (by kernel_rfl) (by kernel_rfl) (by kernel_rfl) (by decide), dokAlterClientQuotasResponseEntry, rfl, ⟨⟨aInt16, ⟨by kernel_rfl, rfl, rfl⟩, by kernel_rfl⟩, ⟨aCompactNullableString, ⟨by kernel_rfl, rfl, rfl⟩, by kernel_rfl⟩, ⟨hCompactArrayLen, ⟨by kernel_rfl, rfl, rfl⟩, .of (by kernel_rfl) (by kernel_rfl) (by kernel_rfl) (by decide), dokAlterClientQuotasResponseEntryEntity, rfl, ⟨⟨aCompactString, ⟨by kernel_rfl, rfl, rfl⟩, by kernel_rfl⟩, ⟨aCompactNullableString, ⟨by kernel_rfl, rfl, rfl⟩, by kernel_rfl⟩, ⟨aTags, ⟨by kernel_rfl, rfl, rfl⟩, by kernel_rfl⟩, trivial⟩⟩, ⟨aTags, ⟨by kernel_rfl, rfl, rfl⟩, by kernel_rfl⟩, trivial⟩⟩, ⟨aTags, ⟨by kernel_rfl, rfl, rfl⟩, by kernel_rfl⟩, trivial⟩
theorem door1s {w : World} {l : List UInt8} {data e0 : Value} (hl : l.length ≤ 1073741824) (hd : DataIn w data l) (he : ErrAt w N.gErr e0) (he0 : ∃ d y, e0 = .iface d y) : Gives P 17 [.int .i64 1, data] w fun u w' => DoorPost w w' u (toldOf ss1s (fsAt 1) gpAlterClientQuotasResponse l) ∧ Keeps [] w w' :=
  door_ver (e := E) (fNew := 36) (fSet := 39) (fRead := 40) (fRf := 65) (fDef := 63) (fTell := 41) (S := 102) (ds := dsAlterClientQuotasResponse) (ls := lsAlterClientQuotasResponse) (ss := ss1s) (v := 1) (uns := false) (fs0 := fsAt 1) (mid := mid) (mid1 := .int .i16 1 :: mid) (ts := tysAlterClientQuotasResponse)
    rdF octF tellF tyZ rfA (fun _ => hOk) hComplete errI newOk defAlterClientQuotasResponse toldAlterClientQuotasResponse (by kernel_rfl) (by kernel_rfl) (by kernel_rfl) (by kernel_rfl) ok1s rfl rfl rfl rfl rfl (by kernel_rfl) (by kernel_rfl) rfl rfl rfl rfl (by decide) hl hd he he0

def ssAll : List (List Step) := [ss0s, ss1s]
def outOf (l : List UInt8) (v : Nat) : Option PT := toldOf (ssAll.getD v []) (fsAt v) gpAlterClientQuotasResponse l

theorem out0 (l : List UInt8) : outOf l 0 = toldOf ss0s (fsAt 0) gpAlterClientQuotasResponse l := rfl
theorem out1 (l : List UInt8) : outOf l 1 = toldOf ss1s (fsAt 1) gpAlterClientQuotasResponse l := rfl
theorem allTell (w : World) (v : Nat) (l : List UInt8) (data e0 : Value) (hv : v ≤ 1) (hl : l.length ≤ 1073741824) (hd : DataIn w data l) (he : ErrAt w N.gErr e0) (he0 : ∃ d y, e0 = .iface d y) : Gives P 17 [.int .i64 v, data] w fun u w' => DoorPost w w' u (outOf l v) ∧ Keeps [] w w' := by
  have h : v = 0 ∨ v = 1 := by omega
  rcases h with rfl | rfl
  · rw [out0]; exact door0s hl hd he he0
  · rw [out1]; exact door1s hl hd he he0

theorem maxOk (w : World) : Gives P 15 [] w fun v w' => v = .int .i64 (1 : Nat) ∧ Keeps [] w w' := max_gives (fNew := 36) (fMax := 37) (m := 1) rdF newOk (by kernel_rfl) (by kernel_rfl) rfl
theorem verOk (n : Nat) (hn : n < 256) (w : World) : Gives P 9 [.int .u8 n, .int .i64 (1 : Nat)] w fun v w' => v = .int .i64 (n % (1 + 1) : Nat) ∧ w' = w := version_gives rdF (by kernel_rfl) hn (by decide)

end Go.Proofs.YtcinbiokghpilaaGreatDoor
