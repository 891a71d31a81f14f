/- ApiVersionsResponse: read, and Default called. -/
import Derived.Test.YtpibjbgaedphbabGreatDoorMsgApiVersionsResponse
import Derived.Test.YtpibjbgaedphbabGreatDoorFieldsApiVersionsResponse
namespace Go.Proofs.YtpibjbgaedphbabGreatDoor
open Go Go.Kf

def tdApiVersionsResponseApiKey : List TD := [.prim 0, .prim 1, .prim 2]
def tgApiVersionsResponseApiKey : Option Nat := some 3
def tdApiVersionsResponseSupportedFeature : List TD := [.prim 0, .prim 1, .prim 2]
def tgApiVersionsResponseSupportedFeature : Option Nat := some 3
def tdApiVersionsResponseFinalizedFeature : List TD := [.prim 0, .prim 1, .prim 2]
def tgApiVersionsResponseFinalizedFeature : Option Nat := some 3
def tdApiVersionsResponse : List TD := [.prim 1, .lsub 2 tdApiVersionsResponseApiKey tgApiVersionsResponseApiKey, .prim 3, .lsub 4 tdApiVersionsResponseSupportedFeature tgApiVersionsResponseSupportedFeature, .prim 5, .lsub 6 tdApiVersionsResponseFinalizedFeature tgApiVersionsResponseFinalizedFeature, .prim 7]
def tgApiVersionsResponse : Option Nat := some 8
theorem gpTd : gpApiVersionsResponse = tdGp tdApiVersionsResponse tgApiVersionsResponse := by kernel_rfl
theorem hSetX : TagSetX P 50 := tagSetX_gives rdF tagF (by kernel_rfl)
theorem rfA : RfFacts P N 72 := .of (by kernel_rfl) (by kernel_rfl) (by kernel_rfl) (by kernel_rfl) (by kernel_rfl)
theorem errI : ∃ ms, P.underlying N.tErr = some (.interface ms) := iface_of (by kernel_rfl)
def mid : List Value := [.int .i16 0, .slice none 0 0, .int .i32 0, .slice none 0 0, .int .i64 (-1), .slice none 0 0, .bool false, .map none]
def fsAt (v : Int) : List FV := .one (.int .i16 v) :: [.one (.int .i16 0), .list true [], .one (.int .i32 0), .list true [], .one (.int .i64 (-1)), .list true [], .one (.bool false), .tags []]
theorem newOk : NewOk P 13 (.int .i16 0 :: mid) := new_gives rdF.mix (by kernel_rfl : zeroTy P 72 = some (.agg ⟨.int .i16 0 :: [.int .i16 0, .slice none 0 0, .int .i32 0, .slice none 0 0, .int .i64 0, .slice none 0 0, .bool false, .map none]⟩, 9)) dokApiVersionsResponse (by kernel_rfl) (by kernel_rfl)

def ss0s : List Step := [.call (.num 2 .i16) 41 1 45 1, .listS .len 43 2 65 2 77 4 46 dfApiVersionsResponseApiKey [.call (.num 2 .i16) 41 0 45 0, .call (.num 2 .i16) 41 1 45 1, .call (.num 2 .i16) 41 2 45 2]]
theorem ok0s : StepsOk P N 72 lsApiVersionsResponse ss0s := ⟨⟨aInt16, ⟨by kernel_rfl, rfl, rfl⟩, by kernel_rfl⟩, ⟨hArrayLen, ⟨by kernel_rfl, rfl, rfl⟩, .of (by kernel_rfl) (by kernel_rfl) (by kernel_rfl) (by decide), dokApiVersionsResponseApiKey, rfl, ⟨⟨aInt16, ⟨by kernel_rfl, rfl, rfl⟩, by kernel_rfl⟩, ⟨aInt16, ⟨by kernel_rfl, rfl, rfl⟩, by kernel_rfl⟩, ⟨aInt16, ⟨by kernel_rfl, rfl, rfl⟩, by kernel_rfl⟩, trivial⟩⟩, trivial⟩
theorem rd0 (t : PT) (hok : t.ok) (hle : (pWrite pf 3 0 t).length ≤ 1073741824) : ∃ fs1, (∀ e0, ReadsTo P N 19 0 mid e0 (pWrite pf 3 0 t) fs1) ∧ True ∧ okFs fs1 tysApiVersionsResponse ∧ True := by
  obtain ⟨fs1, h1⟩ := rtT_plain (a := pfA) (b := pfB) (x := 3) (v := 0) (ss := ss0s) (ds := tdApiVersionsResponse) (dflt := fsAt 0) (p := 1) pfAok pfBok rfl (by kernel_rfl) t hok
  rw [pfAB] at h1
  refine ⟨fs1, fun e0 => readsTo_of (e := E) (g := 26) (S := 72) (fDef := 20) (ds := dsApiVersionsResponse) (ls := lsApiVersionsResponse) (ss := ss0s) (uns := false) (fs0 := fsAt 0) (fs1 := fsAt 0) (mid1 := .int .i16 0 :: mid) rdF rfA (fun _ => hOk) hComplete (by kernel_rfl) (by kernel_rfl) defApiVersionsResponse ok0s rfl rfl rfl rfl rfl (by kernel_rfl) (by kernel_rfl) rfl rfl hle h1 rfl, trivial, ?_, trivial⟩
  exact runSteps_ok ss0s tysApiVersionsResponse (fsAt 0) _ fs1 _ rfl (okImms_ok rfl) hle h1

theorem dft0 (w : World) (t : PT) (hok : t.ok) (hle : (pWrite pf 3 0 t).length ≤ 1073741824) (data e0 : Value) (hr : DataIn w data (pWrite pf 3 0 t)) (he : ErrAt w N.gErr e0) : Gives P 8 [.int .i64 0, data] w fun u w' => (∃ g, DoorPost w w' u (some g) ∧ pDefs pf g 0 = true) ∧ Keeps [] w w' := by
  obtain ⟨fs1, h1, h2, h3, h4⟩ := rd0 t hok hle
  refine (dftDoor_gives (S := 72) (fSet := 18) (ds := dsApiVersionsResponse) (ts := tysApiVersionsResponse) rdF octF tellF tyZ (by kernel_rfl) errI (by decide) newOk (by kernel_rfl) (by kernel_rfl) (by kernel_rfl) (h1 e0) defApiVersionsResponse (by kernel_rfl) (by kernel_rfl) h3 toldApiVersionsResponse hle hr he).mono fun u w' h => ⟨⟨_, h.1, ?_⟩, h.2⟩
  rw [gpTd]
  exact df_message (p := 1) (gs := fs1) (by kernel_rfl) (by kernel_rfl) (by have := congrArg List.length (okFs_map _ _ h3); simp only [List.length_map] at this; rw [this]; decide)

def ss1s : List Step := [.call (.num 2 .i16) 41 1 45 1, .listS .len 43 2 65 2 77 4 46 dfApiVersionsResponseApiKey [.call (.num 2 .i16) 41 0 45 0, .call (.num 2 .i16) 41 1 45 1, .call (.num 2 .i16) 41 2 45 2], .call (.num 4 .i32) 48 3 21 3]
theorem ok1s : StepsOk P N 72 lsApiVersionsResponse ss1s := ⟨⟨aInt16, ⟨by kernel_rfl, rfl, rfl⟩, by kernel_rfl⟩, ⟨hArrayLen, ⟨by kernel_rfl, rfl, rfl⟩, .of (by kernel_rfl) (by kernel_rfl) (by kernel_rfl) (by decide), dokApiVersionsResponseApiKey, rfl, ⟨⟨aInt16, ⟨by kernel_rfl, rfl, rfl⟩, by kernel_rfl⟩, ⟨aInt16, ⟨by kernel_rfl, rfl, rfl⟩, by kernel_rfl⟩, ⟨aInt16, ⟨by kernel_rfl, rfl, rfl⟩, by kernel_rfl⟩, trivial⟩⟩, ⟨aInt32, ⟨by kernel_rfl, rfl, rfl⟩, by kernel_rfl⟩, trivial⟩
theorem rd1 (t : PT) (hok : t.ok) (hle : (pWrite pf 3 1 t).length ≤ 1073741824) : ∃ fs1, (∀ e0, ReadsTo P N 19 1 mid e0 (pWrite pf 3 1 t) fs1) ∧ True ∧ okFs fs1 tysApiVersionsResponse ∧ True := by
  obtain ⟨fs1, h1⟩ := rtT_plain (a := pfA) (b := pfB) (x := 3) (v := 1) (ss := ss1s) (ds := tdApiVersionsResponse) (dflt := fsAt 1) (p := 1) pfAok pfBok rfl (by kernel_rfl) t hok
  rw [pfAB] at h1
  refine ⟨fs1, fun e0 => readsTo_of (e := E) (g := 26) (S := 72) (fDef := 20) (ds := dsApiVersionsResponse) (ls := lsApiVersionsResponse) (ss := ss1s) (uns := false) (fs0 := fsAt 1) (fs1 := fsAt 1) (mid1 := .int .i16 1 :: mid) rdF rfA (fun _ => hOk) hComplete (by kernel_rfl) (by kernel_rfl) defApiVersionsResponse ok1s rfl rfl rfl rfl rfl (by kernel_rfl) (by kernel_rfl) rfl rfl hle h1 rfl, trivial, ?_, trivial⟩
  exact runSteps_ok ss1s tysApiVersionsResponse (fsAt 1) _ fs1 _ rfl (okImms_ok rfl) hle h1

theorem dft1 (w : World) (t : PT) (hok : t.ok) (hle : (pWrite pf 3 1 t).length ≤ 1073741824) (data e0 : Value) (hr : DataIn w data (pWrite pf 3 1 t)) (he : ErrAt w N.gErr e0) : Gives P 8 [.int .i64 1, data] w fun u w' => (∃ g, DoorPost w w' u (some g) ∧ pDefs pf g 0 = true) ∧ Keeps [] w w' := by
  obtain ⟨fs1, h1, h2, h3, h4⟩ := rd1 t hok hle
  refine (dftDoor_gives (S := 72) (fSet := 18) (ds := dsApiVersionsResponse) (ts := tysApiVersionsResponse) rdF octF tellF tyZ (by kernel_rfl) errI (by decide) newOk (by kernel_rfl) (by kernel_rfl) (by kernel_rfl) (h1 e0) defApiVersionsResponse (by kernel_rfl) (by kernel_rfl) h3 toldApiVersionsResponse hle hr he).mono fun u w' h => ⟨⟨_, h.1, ?_⟩, h.2⟩
  rw [gpTd]
  exact df_message (p := 1) (gs := fs1) (by kernel_rfl) (by kernel_rfl) (by have := congrArg List.length (okFs_map _ _ h3); simp only [List.length_map] at this; rw [this]; decide)

def ss2s : List Step := [.call (.num 2 .i16) 41 1 45 1, .listS .len 43 2 65 2 77 4 46 dfApiVersionsResponseApiKey [.call (.num 2 .i16) 41 0 45 0, .call (.num 2 .i16) 41 1 45 1, .call (.num 2 .i16) 41 2 45 2], .call (.num 4 .i32) 48 3 21 3]
theorem ok2s : StepsOk P N 72 lsApiVersionsResponse ss2s := ⟨⟨aInt16, ⟨by kernel_rfl, rfl, rfl⟩, by kernel_rfl⟩, ⟨hArrayLen, ⟨by kernel_rfl, rfl, rfl⟩, .of (by kernel_rfl) (by kernel_rfl) (by kernel_rfl) (by decide), dokApiVersionsResponseApiKey, rfl, ⟨⟨aInt16, ⟨by kernel_rfl, rfl, rfl⟩, by kernel_rfl⟩, ⟨aInt16, ⟨by kernel_rfl, rfl, rfl⟩, by kernel_rfl⟩, ⟨aInt16, ⟨by kernel_rfl, rfl, rfl⟩, by kernel_rfl⟩, trivial⟩⟩, ⟨aInt32, ⟨by kernel_rfl, rfl, rfl⟩, by kernel_rfl⟩, trivial⟩
theorem rd2 (t : PT) (hok : t.ok) (hle : (pWrite pf 3 2 t).length ≤ 1073741824) : ∃ fs1, (∀ e0, ReadsTo P N 19 2 mid e0 (pWrite pf 3 2 t) fs1) ∧ True ∧ okFs fs1 tysApiVersionsResponse ∧ True := by
  obtain ⟨fs1, h1⟩ := rtT_plain (a := pfA) (b := pfB) (x := 3) (v := 2) (ss := ss2s) (ds := tdApiVersionsResponse) (dflt := fsAt 2) (p := 1) pfAok pfBok rfl (by kernel_rfl) t hok
  rw [pfAB] at h1
  refine ⟨fs1, fun e0 => readsTo_of (e := E) (g := 26) (S := 72) (fDef := 20) (ds := dsApiVersionsResponse) (ls := lsApiVersionsResponse) (ss := ss2s) (uns := false) (fs0 := fsAt 2) (fs1 := fsAt 2) (mid1 := .int .i16 2 :: mid) rdF rfA (fun _ => hOk) hComplete (by kernel_rfl) (by kernel_rfl) defApiVersionsResponse ok2s rfl rfl rfl rfl rfl (by kernel_rfl) (by kernel_rfl) rfl rfl hle h1 rfl, trivial, ?_, trivial⟩
  exact runSteps_ok ss2s tysApiVersionsResponse (fsAt 2) _ fs1 _ rfl (okImms_ok rfl) hle h1

theorem dft2 (w : World) (t : PT) (hok : t.ok) (hle : (pWrite pf 3 2 t).length ≤ 1073741824) (data e0 : Value) (hr : DataIn w data (pWrite pf 3 2 t)) (he : ErrAt w N.gErr e0) : Gives P 8 [.int .i64 2, data] w fun u w' => (∃ g, DoorPost w w' u (some g) ∧ pDefs pf g 0 = true) ∧ Keeps [] w w' := by
  obtain ⟨fs1, h1, h2, h3, h4⟩ := rd2 t hok hle
  refine (dftDoor_gives (S := 72) (fSet := 18) (ds := dsApiVersionsResponse) (ts := tysApiVersionsResponse) rdF octF tellF tyZ (by kernel_rfl) errI (by decide) newOk (by kernel_rfl) (by kernel_rfl) (by kernel_rfl) (h1 e0) defApiVersionsResponse (by kernel_rfl) (by kernel_rfl) h3 toldApiVersionsResponse hle hr he).mono fun u w' h => ⟨⟨_, h.1, ?_⟩, h.2⟩
  rw [gpTd]
  exact df_message (p := 1) (gs := fs1) (by kernel_rfl) (by kernel_rfl) (by have := congrArg List.length (okFs_map _ _ h3); simp only [List.length_map] at this; rw [this]; decide)

def ss3s : List Step := [.call (.num 2 .i16) 41 1 45 1, .listS .clen 42 2 65 2 77 4 46 dfApiVersionsResponseApiKey [.call (.num 2 .i16) 41 0 45 0, .call (.num 2 .i16) 41 1 45 1, .call (.num 2 .i16) 41 2 45 2, .call .tags 47 3 70 3], .call (.num 4 .i32) 48 3 21 3]
theorem ok3s : StepsOk P N 72 lsApiVersionsResponse ss3s := ⟨⟨aInt16, ⟨by kernel_rfl, rfl, rfl⟩, by kernel_rfl⟩, ⟨hCompactArrayLen, ⟨by kernel_rfl, rfl, rfl⟩, .of (by kernel_rfl) (by kernel_rfl) (by kernel_rfl) (by decide), dokApiVersionsResponseApiKey, rfl, ⟨⟨aInt16, ⟨by kernel_rfl, rfl, rfl⟩, by kernel_rfl⟩, ⟨aInt16, ⟨by kernel_rfl, rfl, rfl⟩, by kernel_rfl⟩, ⟨aInt16, ⟨by kernel_rfl, rfl, rfl⟩, by kernel_rfl⟩, ⟨aTags, ⟨by kernel_rfl, rfl, rfl⟩, by kernel_rfl⟩, trivial⟩⟩, ⟨aInt32, ⟨by kernel_rfl, rfl, rfl⟩, by kernel_rfl⟩, trivial⟩
def st3s : List Step := [.listS .clen 42 4 66 4 81 4 52 dfApiVersionsResponseSupportedFeature [.call .cstr 55 0 9 0, .call (.num 2 .i16) 41 1 45 1, .call (.num 2 .i16) 41 2 45 2, .call .tags 47 3 70 3], .call (.num 8 .i64) 57 5 2 5, .listS .clen 42 6 67 6 85 4 58 dfApiVersionsResponseFinalizedFeature [.call .cstr 55 0 9 0, .call (.num 2 .i16) 41 1 45 1, .call (.num 2 .i16) 41 2 45 2, .call .tags 47 3 70 3], .call .bool 59 7 4 7]
theorem okt3s : StepsOk P N 72 lsApiVersionsResponse st3s := ⟨⟨hCompactArrayLen, ⟨by kernel_rfl, rfl, rfl⟩, .of (by kernel_rfl) (by kernel_rfl) (by kernel_rfl) (by decide), dokApiVersionsResponseSupportedFeature, rfl, ⟨⟨aCompactString, ⟨by kernel_rfl, rfl, rfl⟩, by kernel_rfl⟩, ⟨aInt16, ⟨by kernel_rfl, rfl, rfl⟩, by kernel_rfl⟩, ⟨aInt16, ⟨by kernel_rfl, rfl, rfl⟩, by kernel_rfl⟩, ⟨aTags, ⟨by kernel_rfl, rfl, rfl⟩, by kernel_rfl⟩, trivial⟩⟩, ⟨aInt64, ⟨by kernel_rfl, rfl, rfl⟩, by kernel_rfl⟩, ⟨hCompactArrayLen, ⟨by kernel_rfl, rfl, rfl⟩, .of (by kernel_rfl) (by kernel_rfl) (by kernel_rfl) (by decide), dokApiVersionsResponseFinalizedFeature, rfl, ⟨⟨aCompactString, ⟨by kernel_rfl, rfl, rfl⟩, by kernel_rfl⟩, ⟨aInt16, ⟨by kernel_rfl, rfl, rfl⟩, by kernel_rfl⟩, ⟨aInt16, ⟨by kernel_rfl, rfl, rfl⟩, by kernel_rfl⟩, ⟨aTags, ⟨by kernel_rfl, rfl, rfl⟩, by kernel_rfl⟩, trivial⟩⟩, ⟨aBool, ⟨by kernel_rfl, rfl, rfl⟩, by kernel_rfl⟩, trivial⟩
theorem rd3 (t : PT) (hok : t.ok) (hle : (pWrite pf 3 3 t).length ≤ 1073741824) : ∃ fs1, (∀ e0, ReadsTo P N 19 3 mid e0 (pWrite pf 3 3 t) fs1) ∧ True ∧ okFs fs1 tysApiVersionsResponse ∧ True := by
  obtain ⟨fsA, rA, fs2, r2, h1, h2, h3, h4, h5⟩ := rtT_tags (a := pfA) (b := pfB) (x := 3) (v := 3) (ss := ss3s) (sts := st3s) (dsA := tdApiVersionsResponse) (dsB := tdApiVersionsResponse.drop 3) (dflt := fsAt 3) (p := 1) (i := 8) pfAok pfBok rfl (by kernel_rfl) (by kernel_rfl) rfl rfl t hok (by decide) hle
  rw [pfAB] at h1 h4
  refine ⟨fs2.set 8 (.tags (wholeTags (pUnknown pf t.u))), fun e0 => readsToT_of (e := E) (g := 26) (S := 72) (fDef := 20) (ds := dsApiVersionsResponse) (ls := lsApiVersionsResponse) (ss := ss3s) (sts := st3s) (ks := [0, 1, 2, 3]) (uns := false) (fs0 := fsAt 3) (fs1 := fsAt 3) (mid1 := .int .i16 3 :: mid) rdF rfA hOk hComplete (by kernel_rfl) (by kernel_rfl) hUvarint hSpanA hSetX errI ⟨by kernel_rfl, rfl, rfl⟩ okt3s rfl rfl defApiVersionsResponse ok3s rfl rfl rfl rfl rfl (by kernel_rfl) (by kernel_rfl) rfl rfl hle h1 h2 h4 h5, trivial, ?_, trivial⟩
  exact okFs_set (runTg_ok (ts := tysApiVersionsResponse) rfl _ _ _ _ _ _ _ (runSteps_ok ss3s tysApiVersionsResponse (fsAt 3) _ fsA _ rfl (okImms_ok rfl) hle h1) (Nat.le_trans (rUv_len rA) h3) h4) rfl ⟨rfl, small_tags _ _⟩

theorem dft3 (w : World) (t : PT) (hok : t.ok) (hle : (pWrite pf 3 3 t).length ≤ 1073741824) (data e0 : Value) (hr : DataIn w data (pWrite pf 3 3 t)) (he : ErrAt w N.gErr e0) : Gives P 8 [.int .i64 3, data] w fun u w' => (∃ g, DoorPost w w' u (some g) ∧ pDefs pf g 0 = true) ∧ Keeps [] w w' := by
  obtain ⟨fs1, h1, h2, h3, h4⟩ := rd3 t hok hle
  refine (dftDoor_gives (S := 72) (fSet := 18) (ds := dsApiVersionsResponse) (ts := tysApiVersionsResponse) rdF octF tellF tyZ (by kernel_rfl) errI (by decide) newOk (by kernel_rfl) (by kernel_rfl) (by kernel_rfl) (h1 e0) defApiVersionsResponse (by kernel_rfl) (by kernel_rfl) h3 toldApiVersionsResponse hle hr he).mono fun u w' h => ⟨⟨_, h.1, ?_⟩, h.2⟩
  rw [gpTd]
  exact df_message (p := 1) (gs := fs1) (by kernel_rfl) (by kernel_rfl) (by have := congrArg List.length (okFs_map _ _ h3); simp only [List.length_map] at this; rw [this]; decide)

def ss4s : List Step := [.call (.num 2 .i16) 41 1 45 1, .listS .clen 42 2 65 2 77 4 46 dfApiVersionsResponseApiKey [.call (.num 2 .i16) 41 0 45 0, .call (.num 2 .i16) 41 1 45 1, .call (.num 2 .i16) 41 2 45 2, .call .tags 47 3 70 3], .call (.num 4 .i32) 48 3 21 3]
theorem ok4s : StepsOk P N 72 lsApiVersionsResponse ss4s := ⟨⟨aInt16, ⟨by kernel_rfl, rfl, rfl⟩, by kernel_rfl⟩, ⟨hCompactArrayLen, ⟨by kernel_rfl, rfl, rfl⟩, .of (by kernel_rfl) (by kernel_rfl) (by kernel_rfl) (by decide), dokApiVersionsResponseApiKey, rfl, ⟨⟨aInt16, ⟨by kernel_rfl, rfl, rfl⟩, by kernel_rfl⟩, ⟨aInt16, ⟨by kernel_rfl, rfl, rfl⟩, by kernel_rfl⟩, ⟨aInt16, ⟨by kernel_rfl, rfl, rfl⟩, by kernel_rfl⟩, ⟨aTags, ⟨by kernel_rfl, rfl, rfl⟩, by kernel_rfl⟩, trivial⟩⟩, ⟨aInt32, ⟨by kernel_rfl, rfl, rfl⟩, by kernel_rfl⟩, trivial⟩
def st4s : List Step := [.listS .clen 42 4 66 4 81 4 52 dfApiVersionsResponseSupportedFeature [.call .cstr 55 0 9 0, .call (.num 2 .i16) 41 1 45 1, .call (.num 2 .i16) 41 2 45 2, .call .tags 47 3 70 3], .call (.num 8 .i64) 57 5 2 5, .listS .clen 42 6 67 6 85 4 58 dfApiVersionsResponseFinalizedFeature [.call .cstr 55 0 9 0, .call (.num 2 .i16) 41 1 45 1, .call (.num 2 .i16) 41 2 45 2, .call .tags 47 3 70 3], .call .bool 59 7 4 7]
theorem okt4s : StepsOk P N 72 lsApiVersionsResponse st4s := ⟨⟨hCompactArrayLen, ⟨by kernel_rfl, rfl, rfl⟩, .of (by kernel_rfl) (by kernel_rfl) (by kernel_rfl) (by decide), dokApiVersionsResponseSupportedFeature, rfl, ⟨⟨aCompactString, ⟨by kernel_rfl, rfl, rfl⟩, by kernel_rfl⟩, ⟨aInt16, ⟨by kernel_rfl, rfl, rfl⟩, by kernel_rfl⟩, ⟨aInt16, ⟨by kernel_rfl, rfl, rfl⟩, by kernel_rfl⟩, ⟨aTags, ⟨by kernel_rfl, rfl, rfl⟩, by kernel_rfl⟩, trivial⟩⟩, ⟨aInt64, ⟨by kernel_rfl, rfl, rfl⟩, by kernel_rfl⟩, ⟨hCompactArrayLen, ⟨by kernel_rfl, rfl, rfl⟩, .of (by kernel_rfl) (by kernel_rfl) (by kernel_rfl) (by decide), dokApiVersionsResponseFinalizedFeature, rfl, ⟨⟨aCompactString, ⟨by kernel_rfl, rfl, rfl⟩, by kernel_rfl⟩, ⟨aInt16, ⟨by kernel_rfl, rfl, rfl⟩, by kernel_rfl⟩, ⟨aInt16, ⟨by kernel_rfl, rfl, rfl⟩, by kernel_rfl⟩, ⟨aTags, ⟨by kernel_rfl, rfl, rfl⟩, by kernel_rfl⟩, trivial⟩⟩, ⟨aBool, ⟨by kernel_rfl, rfl, rfl⟩, by kernel_rfl⟩, trivial⟩
theorem rd4 (t : PT) (hok : t.ok) (hle : (pWrite pf 3 4 t).length ≤ 1073741824) : ∃ fs1, (∀ e0, ReadsTo P N 19 4 mid e0 (pWrite pf 3 4 t) fs1) ∧ True ∧ okFs fs1 tysApiVersionsResponse ∧ True := by
  obtain ⟨fsA, rA, fs2, r2, h1, h2, h3, h4, h5⟩ := rtT_tags (a := pfA) (b := pfB) (x := 3) (v := 4) (ss := ss4s) (sts := st4s) (dsA := tdApiVersionsResponse) (dsB := tdApiVersionsResponse.drop 3) (dflt := fsAt 4) (p := 1) (i := 8) pfAok pfBok rfl (by kernel_rfl) (by kernel_rfl) rfl rfl t hok (by decide) hle
  rw [pfAB] at h1 h4
  refine ⟨fs2.set 8 (.tags (wholeTags (pUnknown pf t.u))), fun e0 => readsToT_of (e := E) (g := 26) (S := 72) (fDef := 20) (ds := dsApiVersionsResponse) (ls := lsApiVersionsResponse) (ss := ss4s) (sts := st4s) (ks := [0, 1, 2, 3]) (uns := false) (fs0 := fsAt 4) (fs1 := fsAt 4) (mid1 := .int .i16 4 :: mid) rdF rfA hOk hComplete (by kernel_rfl) (by kernel_rfl) hUvarint hSpanA hSetX errI ⟨by kernel_rfl, rfl, rfl⟩ okt4s rfl rfl defApiVersionsResponse ok4s rfl rfl rfl rfl rfl (by kernel_rfl) (by kernel_rfl) rfl rfl hle h1 h2 h4 h5, trivial, ?_, trivial⟩
  exact okFs_set (runTg_ok (ts := tysApiVersionsResponse) rfl _ _ _ _ _ _ _ (runSteps_ok ss4s tysApiVersionsResponse (fsAt 4) _ fsA _ rfl (okImms_ok rfl) hle h1) (Nat.le_trans (rUv_len rA) h3) h4) rfl ⟨rfl, small_tags _ _⟩

theorem dft4 (w : World) (t : PT) (hok : t.ok) (hle : (pWrite pf 3 4 t).length ≤ 1073741824) (data e0 : Value) (hr : DataIn w data (pWrite pf 3 4 t)) (he : ErrAt w N.gErr e0) : Gives P 8 [.int .i64 4, data] w fun u w' => (∃ g, DoorPost w w' u (some g) ∧ pDefs pf g 0 = true) ∧ Keeps [] w w' := by
  obtain ⟨fs1, h1, h2, h3, h4⟩ := rd4 t hok hle
  refine (dftDoor_gives (S := 72) (fSet := 18) (ds := dsApiVersionsResponse) (ts := tysApiVersionsResponse) rdF octF tellF tyZ (by kernel_rfl) errI (by decide) newOk (by kernel_rfl) (by kernel_rfl) (by kernel_rfl) (h1 e0) defApiVersionsResponse (by kernel_rfl) (by kernel_rfl) h3 toldApiVersionsResponse hle hr he).mono fun u w' h => ⟨⟨_, h.1, ?_⟩, h.2⟩
  rw [gpTd]
  exact df_message (p := 1) (gs := fs1) (by kernel_rfl) (by kernel_rfl) (by have := congrArg List.length (okFs_map _ _ h3); simp only [List.length_map] at this; rw [this]; decide)

def ss5s : List Step := [.call (.num 2 .i16) 41 1 45 1, .listS .clen 42 2 65 2 77 4 46 dfApiVersionsResponseApiKey [.call (.num 2 .i16) 41 0 45 0, .call (.num 2 .i16) 41 1 45 1, .call (.num 2 .i16) 41 2 45 2, .call .tags 47 3 70 3], .call (.num 4 .i32) 48 3 21 3]
theorem ok5s : StepsOk P N 72 lsApiVersionsResponse ss5s := ⟨⟨aInt16, ⟨by kernel_rfl, rfl, rfl⟩, by kernel_rfl⟩, ⟨hCompactArrayLen, ⟨by kernel_rfl, rfl, rfl⟩, .of (by kernel_rfl) (by kernel_rfl) (by kernel_rfl) (by decide), dokApiVersionsResponseApiKey, rfl, ⟨⟨aInt16, ⟨by kernel_rfl, rfl, rfl⟩, by kernel_rfl⟩, ⟨aInt16, ⟨by kernel_rfl, rfl, rfl⟩, by kernel_rfl⟩, ⟨aInt16, ⟨by kernel_rfl, rfl, rfl⟩, by kernel_rfl⟩, ⟨aTags, ⟨by kernel_rfl, rfl, rfl⟩, by kernel_rfl⟩, trivial⟩⟩, ⟨aInt32, ⟨by kernel_rfl, rfl, rfl⟩, by kernel_rfl⟩, trivial⟩
def st5s : List Step := [.listS .clen 42 4 66 4 81 4 52 dfApiVersionsResponseSupportedFeature [.call .cstr 55 0 9 0, .call (.num 2 .i16) 41 1 45 1, .call (.num 2 .i16) 41 2 45 2, .call .tags 47 3 70 3], .call (.num 8 .i64) 57 5 2 5, .listS .clen 42 6 67 6 85 4 58 dfApiVersionsResponseFinalizedFeature [.call .cstr 55 0 9 0, .call (.num 2 .i16) 41 1 45 1, .call (.num 2 .i16) 41 2 45 2, .call .tags 47 3 70 3], .call .bool 59 7 4 7]
theorem okt5s : StepsOk P N 72 lsApiVersionsResponse st5s := ⟨⟨hCompactArrayLen, ⟨by kernel_rfl, rfl, rfl⟩, .of (by kernel_rfl) (by kernel_rfl) (by kernel_rfl) (by decide), dokApiVersionsResponseSupportedFeature, rfl, ⟨⟨aCompactString, ⟨by kernel_rfl, rfl, rfl⟩, by kernel_rfl⟩, ⟨aInt16, ⟨by kernel_rfl, rfl, rfl⟩, by kernel_rfl⟩, ⟨aInt16, ⟨by kernel_rfl, rfl, rfl⟩, by kernel_rfl⟩, ⟨aTags, ⟨by kernel_rfl, rfl, rfl⟩, by kernel_rfl⟩, trivial⟩⟩, ⟨aInt64, ⟨by kernel_rfl, rfl, rfl⟩, by kernel_rfl⟩, ⟨hCompactArrayLen, ⟨by kernel_rfl, rfl, rfl⟩, .of (by kernel_rfl) (by kernel_rfl) (by kernel_rfl) (by decide), dokApiVersionsResponseFinalizedFeature, rfl, ⟨⟨aCompactString, ⟨by kernel_rfl, rfl, rfl⟩, by kernel_rfl⟩, ⟨aInt16, ⟨by kernel_rfl, rfl, rfl⟩, by kernel_rfl⟩, ⟨aInt16, ⟨by kernel_rfl, rfl, rfl⟩, by kernel_rfl⟩, ⟨aTags, ⟨by kernel_rfl, rfl, rfl⟩, by kernel_rfl⟩, trivial⟩⟩, ⟨aBool, ⟨by kernel_rfl, rfl, rfl⟩, by kernel_rfl⟩, trivial⟩
theorem rd5 (t : PT) (hok : t.ok) (hle : (pWrite pf 3 5 t).length ≤ 1073741824) : ∃ fs1, (∀ e0, ReadsTo P N 19 5 mid e0 (pWrite pf 3 5 t) fs1) ∧ True ∧ okFs fs1 tysApiVersionsResponse ∧ True := by
  obtain ⟨fsA, rA, fs2, r2, h1, h2, h3, h4, h5⟩ := rtT_tags (a := pfA) (b := pfB) (x := 3) (v := 5) (ss := ss5s) (sts := st5s) (dsA := tdApiVersionsResponse) (dsB := tdApiVersionsResponse.drop 3) (dflt := fsAt 5) (p := 1) (i := 8) pfAok pfBok rfl (by kernel_rfl) (by kernel_rfl) rfl rfl t hok (by decide) hle
  rw [pfAB] at h1 h4
  refine ⟨fs2.set 8 (.tags (wholeTags (pUnknown pf t.u))), fun e0 => readsToT_of (e := E) (g := 26) (S := 72) (fDef := 20) (ds := dsApiVersionsResponse) (ls := lsApiVersionsResponse) (ss := ss5s) (sts := st5s) (ks := [0, 1, 2, 3]) (uns := false) (fs0 := fsAt 5) (fs1 := fsAt 5) (mid1 := .int .i16 5 :: mid) rdF rfA hOk hComplete (by kernel_rfl) (by kernel_rfl) hUvarint hSpanA hSetX errI ⟨by kernel_rfl, rfl, rfl⟩ okt5s rfl rfl defApiVersionsResponse ok5s rfl rfl rfl rfl rfl (by kernel_rfl) (by kernel_rfl) rfl rfl hle h1 h2 h4 h5, trivial, ?_, trivial⟩
  exact okFs_set (runTg_ok (ts := tysApiVersionsResponse) rfl _ _ _ _ _ _ _ (runSteps_ok ss5s tysApiVersionsResponse (fsAt 5) _ fsA _ rfl (okImms_ok rfl) hle h1) (Nat.le_trans (rUv_len rA) h3) h4) rfl ⟨rfl, small_tags _ _⟩

theorem dft5 (w : World) (t : PT) (hok : t.ok) (hle : (pWrite pf 3 5 t).length ≤ 1073741824) (data e0 : Value) (hr : DataIn w data (pWrite pf 3 5 t)) (he : ErrAt w N.gErr e0) : Gives P 8 [.int .i64 5, data] w fun u w' => (∃ g, DoorPost w w' u (some g) ∧ pDefs pf g 0 = true) ∧ Keeps [] w w' := by
  obtain ⟨fs1, h1, h2, h3, h4⟩ := rd5 t hok hle
  refine (dftDoor_gives (S := 72) (fSet := 18) (ds := dsApiVersionsResponse) (ts := tysApiVersionsResponse) rdF octF tellF tyZ (by kernel_rfl) errI (by decide) newOk (by kernel_rfl) (by kernel_rfl) (by kernel_rfl) (h1 e0) defApiVersionsResponse (by kernel_rfl) (by kernel_rfl) h3 toldApiVersionsResponse hle hr he).mono fun u w' h => ⟨⟨_, h.1, ?_⟩, h.2⟩
  rw [gpTd]
  exact df_message (p := 1) (gs := fs1) (by kernel_rfl) (by kernel_rfl) (by have := congrArg List.length (okFs_map _ _ h3); simp only [List.length_map] at this; rw [this]; decide)

theorem dftAll (v : Nat) (hv : v ≤ 5) (w : World) (t : PT) (hok : t.ok) (hle : (pWrite pf 3 v t).length ≤ 1073741824) (data e0 : Value) (hr : DataIn w data (pWrite pf 3 v t)) (he : ErrAt w N.gErr e0) : Gives P 8 [.int .i64 v, data] w fun u w' => (∃ g, DoorPost w w' u (some g) ∧ pDefs pf g 0 = true) ∧ Keeps [] w w' := by
  have h : v = 0 ∨ v = 1 ∨ v = 2 ∨ v = 3 ∨ v = 4 ∨ v = 5 := by omega
  rcases h with rfl | rfl | rfl | rfl | rfl | rfl
  · exact dft0 w t hok hle data e0 hr he
  · exact dft1 w t hok hle data e0 hr he
  · exact dft2 w t hok hle data e0 hr he
  · exact dft3 w t hok hle data e0 hr he
  · exact dft4 w t hok hle data e0 hr he
  · exact dft5 w t hok hle data e0 hr he
theorem maxOk (w : World) : Gives P 5 [] w fun v w' => v = .int .i64 (5 : Nat) ∧ Keeps [] w w' := max_gives (fNew := 13) (fMax := 14) (m := 5) rdF newOk (by kernel_rfl) (by kernel_rfl) rfl
theorem verOk (n : Nat) (hn : n < 256) (w : World) : Gives P 7 [.int .u8 n, .int .i64 (5 : Nat)] w fun v w' => v = .int .i64 (n % (5 + 1) : Nat) ∧ w' = w := version_gives rdF (by kernel_rfl) hn (by decide)

/-- The law: whatever the tree. -/
theorem lawOk (w : World) (n : Nat) (hn : n < 256) (t : PT) (ts : List Value) (e0 : Value) (ht : TreeC w t ts) (hok : t.ok) (hwt : t.wt ≤ 1048576) (he : ErrAt w N.gErr e0) (_ : ∃ d y, e0 = .iface d y) : Gives P 3 [.int .u8 n, .agg ⟨ts⟩] w fun v w' => v = .bool true ∧ Keeps [] w w' :=
  have hv : n % (5 + 1) ≤ 5 := Nat.le_of_lt_succ (Nat.mod_lt _ (by decide))
  have hle : (pWrite pf 3 (n % (5 + 1) : Nat) t).length ≤ 1073741824 := Nat.le_trans (pWriteT_len pf _ _ t) (Nat.mul_le_mul kOk hwt)
  dftLawT_gives (m := 5) (fs := pf) (x := 3) (e0 := e0) (fDfts := 10) spF spT ⟨by kernel_rfl, by kernel_rfl⟩ (by kernel_rfl) (by kernel_rfl) (by kernel_rfl) fitT tellF tyZ (by kernel_rfl) (by kernel_rfl) (by kernel_rfl) fineOk (by decide) ⟨_, fbF.zero, rfl⟩ maxOk (verOk n hn) msgOk (fun w data hr he => dftAll _ hv w t hok hle data e0 hr he) hle hGot ht hok he
end Go.Proofs.YtpibjbgaedphbabGreatDoor
