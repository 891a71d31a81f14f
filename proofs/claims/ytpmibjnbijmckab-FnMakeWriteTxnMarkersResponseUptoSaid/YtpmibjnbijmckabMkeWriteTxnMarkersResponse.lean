/- WriteTxnMarkersResponse: filled, and written. -/
import Derived.Test.YtpmibjnbijmckabMsgWriteTxnMarkersResponse
import Derived.Test.YtpmibjnbijmckabFieldsWriteTxnMarkersResponse
import Derived.Test.YtpmibjnbijmckabWr
namespace Go.Proofs.Ytpmibjnbijmckab
open Go Go.Kf

def mid : List Value := [.slice none 0 0, .map none]
theorem newOk : NewOk P 14 (.int .i16 0 :: mid) := new_gives rdF.mix (by kernel_rfl : zeroTy P 57 = some (.agg ⟨.int .i16 0 :: [.slice none 0 0, .map none]⟩, 3)) dokWriteTxnMarkersResponse (by kernel_rfl) (by kernel_rfl)

def N2 : Nums := { N with tTree := N.sTree, tTrees := N.sTrees, tTagL := N.sTagL, tTag := N.sTag, sTree := N.tTree, sTrees := N.tTrees, sTagL := N.tTagL, sTag := N.tTag }
def sn2 : SN := { sn with at_ := 28 }
theorem rdF2 : RdFacts P N2 := ⟨by kernel_rfl, by kernel_rfl, by kernel_rfl, by kernel_rfl, by kernel_rfl, by kernel_rfl, by kernel_rfl, by kernel_rfl, by kernel_rfl, by kernel_rfl, by kernel_rfl, by kernel_rfl, by kernel_rfl, by kernel_rfl, by kernel_rfl⟩
theorem tyY2 : TyFacts P N2 N2.sTree N2.sTrees N2.sTagL N2.sTag := ⟨by kernel_rfl, by kernel_rfl, by kernel_rfl, by kernel_rfl, by kernel_rfl, by kernel_rfl, by kernel_rfl, by kernel_rfl, by kernel_rfl, by kernel_rfl, by kernel_rfl, by kernel_rfl, by kernel_rfl, by kernel_rfl, by kernel_rfl, by kernel_rfl, by kernel_rfl⟩
theorem tyZ2 : TyFacts P N2 N2.tTree N2.tTrees N2.tTagL N2.tTag := ⟨by kernel_rfl, by kernel_rfl, by kernel_rfl, by kernel_rfl, by kernel_rfl, by kernel_rfl, by kernel_rfl, by kernel_rfl, by kernel_rfl, by kernel_rfl, by kernel_rfl, by kernel_rfl, by kernel_rfl, by kernel_rfl, by kernel_rfl, by kernel_rfl, by kernel_rfl⟩
theorem rowS2 : RowFacts P N2.sTree 5 := .of (by kernel_rfl) (by kernel_rfl) (by decide)
theorem rowSg2 : RowFacts P N2.sTag 2 := .of (by kernel_rfl) (by kernel_rfl) (by decide)
theorem gotF2 : GotFacts P N2 := .of (by kernel_rfl) (by kernel_rfl) (by kernel_rfl) (by kernel_rfl) (by kernel_rfl) rowS2 rowSg2
theorem rowF2 : RowFacts P sn2.field 8 := .of (by kernel_rfl) (by kernel_rfl) (by decide)
theorem spF2 : SpFacts P N2 sn2 := .of rdF2 tyY2 gotF2 rowF2 (by kernel_rfl) (by kernel_rfl) (by kernel_rfl) (by kernel_rfl) (by kernel_rfl) (by kernel_rfl) (by kernel_rfl) (by kernel_rfl)
theorem fillF : FillFacts P N2 := ⟨by kernel_rfl, by kernel_rfl, by kernel_rfl, by kernel_rfl⟩
theorem hAt : treeIn P sn2.at_ noOrc [.tmp 0, .tmp 1] 2 = tAt N2 := by kernel_rfl
theorem hGiven : ∀ x, GotOf P 10 x := got_gives rdF2 tyY2 tyZ2 gotF2 (by kernel_rfl)
theorem hSetY : TagSetY P 30 := tagSetY_gives rdF tagF (by kernel_rfl)
theorem mkT : MkTrees P N sn 11 20 := ⟨by kernel_rfl, by kernel_rfl⟩

def fsWriteTxnMarkersResponseMarkerTopicPartition : List FStep := [.prim (.num .i32) 0 0 0 21 0, .prim (.num .i16) 1 1 1 45 0, .tags 2 2 30]
theorem fsokWriteTxnMarkersResponseMarkerTopicPartition : FStepsOk P N2 86 tysWriteTxnMarkersResponseMarkerTopicPartition fsWriteTxnMarkersResponseMarkerTopicPartition := ⟨⟨⟨by kernel_rfl, rfl, rfl⟩, by kernel_rfl, (show P.underlying 21 = some (.int .i32) by kernel_rfl)⟩, ⟨⟨by kernel_rfl, rfl, rfl⟩, by kernel_rfl, (show P.underlying 45 = some (.int .i16) by kernel_rfl)⟩, ⟨⟨by kernel_rfl, rfl, rfl⟩, hSetY⟩, trivial⟩
def zcWriteTxnMarkersResponseMarkerTopicPartition : List Value := [.int .i32 0, .int .i16 0, .map none]
theorem mkWriteTxnMarkersResponseMarkerTopicPartition : MakeOf P 60 tysWriteTxnMarkersResponseMarkerTopicPartition (fun y => fillVals fsWriteTxnMarkersResponseMarkerTopicPartition y zfWriteTxnMarkersResponseMarkerTopicPartition) := make_gives (S := 86) (cells := zcWriteTxnMarkersResponseMarkerTopicPartition) spF2 fillF hAt (by kernel_rfl) (by kernel_rfl) (by kernel_rfl) rfl rfl rfl (preS_of rfl) (stepsOk_all fsokWriteTxnMarkersResponseMarkerTopicPartition) (by kernel_rfl)

def fsWriteTxnMarkersResponseMarkerTopic : List FStep := [.prim .text 0 0 0 9 0, .listS 1 1 1 80 86 60 zfWriteTxnMarkersResponseMarkerTopicPartition fsWriteTxnMarkersResponseMarkerTopicPartition, .tags 2 2 30]
theorem fsokWriteTxnMarkersResponseMarkerTopic : FStepsOk P N2 82 tysWriteTxnMarkersResponseMarkerTopic fsWriteTxnMarkersResponseMarkerTopic := ⟨⟨⟨by kernel_rfl, rfl, rfl⟩, by kernel_rfl, trivial⟩, ⟨tysWriteTxnMarkersResponseMarkerTopicPartition, ⟨by kernel_rfl, rfl, rfl⟩, by kernel_rfl, by kernel_rfl, .of (by kernel_rfl) (by kernel_rfl) (of_decide_eq_true (by kernel_rfl)), mkWriteTxnMarkersResponseMarkerTopicPartition⟩, ⟨⟨by kernel_rfl, rfl, rfl⟩, hSetY⟩, trivial⟩
def zcWriteTxnMarkersResponseMarkerTopic : List Value := [.string (strOf []), .slice none 0 0, .map none]
theorem mkWriteTxnMarkersResponseMarkerTopic : MakeOf P 49 tysWriteTxnMarkersResponseMarkerTopic (fun y => fillVals fsWriteTxnMarkersResponseMarkerTopic y zfWriteTxnMarkersResponseMarkerTopic) := make_gives (S := 82) (cells := zcWriteTxnMarkersResponseMarkerTopic) spF2 fillF hAt (by kernel_rfl) (by kernel_rfl) (by kernel_rfl) rfl rfl rfl (preS_of rfl) (stepsOk_all fsokWriteTxnMarkersResponseMarkerTopic) (by kernel_rfl)

def fsWriteTxnMarkersResponseMarker : List FStep := [.prim (.num .i64) 0 0 0 2 0, .listS 1 1 1 71 82 49 zfWriteTxnMarkersResponseMarkerTopic fsWriteTxnMarkersResponseMarkerTopic, .tags 2 2 30]
theorem fsokWriteTxnMarkersResponseMarker : FStepsOk P N2 73 tysWriteTxnMarkersResponseMarker fsWriteTxnMarkersResponseMarker := ⟨⟨⟨by kernel_rfl, rfl, rfl⟩, by kernel_rfl, (show P.underlying 2 = some (.int .i64) by kernel_rfl)⟩, ⟨tysWriteTxnMarkersResponseMarkerTopic, ⟨by kernel_rfl, rfl, rfl⟩, by kernel_rfl, by kernel_rfl, .of (by kernel_rfl) (by kernel_rfl) (of_decide_eq_true (by kernel_rfl)), mkWriteTxnMarkersResponseMarkerTopic⟩, ⟨⟨by kernel_rfl, rfl, rfl⟩, hSetY⟩, trivial⟩
def zcWriteTxnMarkersResponseMarker : List Value := [.int .i64 0, .slice none 0 0, .map none]
theorem mkWriteTxnMarkersResponseMarker : MakeOf P 29 tysWriteTxnMarkersResponseMarker (fun y => fillVals fsWriteTxnMarkersResponseMarker y zfWriteTxnMarkersResponseMarker) := make_gives (S := 73) (cells := zcWriteTxnMarkersResponseMarker) spF2 fillF hAt (by kernel_rfl) (by kernel_rfl) (by kernel_rfl) rfl rfl rfl (preS_of rfl) (stepsOk_all fsokWriteTxnMarkersResponseMarker) (by kernel_rfl)

def fsWriteTxnMarkersResponse : List FStep := [.listS 1 0 1 52 73 29 zfWriteTxnMarkersResponseMarker fsWriteTxnMarkersResponseMarker, .tags 2 2 30]
theorem fsokWriteTxnMarkersResponse : FStepsOk P N2 57 tysWriteTxnMarkersResponse fsWriteTxnMarkersResponse := ⟨⟨tysWriteTxnMarkersResponseMarker, ⟨by kernel_rfl, rfl, rfl⟩, by kernel_rfl, by kernel_rfl, .of (by kernel_rfl) (by kernel_rfl) (of_decide_eq_true (by kernel_rfl)), mkWriteTxnMarkersResponseMarker⟩, ⟨⟨by kernel_rfl, rfl, rfl⟩, hSetY⟩, trivial⟩
def zt : List FV := [.list true [], .tags []]
def zct : List Value := [.slice none 0 0, .map none]
def tyt : List Ty := [.list (tysWriteTxnMarkersResponseMarker), .tags]
theorem fillOk : FillOf P 18 tysWriteTxnMarkersResponse (fun fs => ∀ st ∈ fsWriteTxnMarkersResponse, preS st fs) (fun t fs => runF fsWriteTxnMarkersResponse t fs) := fill_gives (S := 57) (p := 1) spF2 fillF hAt rfl (stepsOk_all fsokWriteTxnMarkersResponse) (by kernel_rfl)

def ws0 : List WStep := [.listS .len 32 1 52 1 73 3 tysWriteTxnMarkersResponseMarker [.call (.num 8 .i64) 33 0 2 0, .listS .len 32 1 71 1 82 3 tysWriteTxnMarkersResponseMarkerTopic [.call .str 35 0 9 0, .listS .len 32 1 80 1 86 3 tysWriteTxnMarkersResponseMarkerTopicPartition [.call (.num 4 .i32) 36 0 21 0, .call (.num 2 .i16) 37 1 45 1]]]]
theorem wsok0 : SemW P tysWriteTxnMarkersResponse (fun s n d x k => gWSteps N ws0 s 57 n d x k) (encSteps ws0) := (semW_cons (semW_listS ⟨by kernel_rfl, rfl, rfl⟩ (by kernel_rfl) (by kernel_rfl) (by kernel_rfl) rfl wLen rfl (semW_cons (semW_call xAppendInt64 ⟨by kernel_rfl, rfl, rfl⟩ (show oneTy P 2 = true by kernel_rfl)) (semW_cons (semW_listS ⟨by kernel_rfl, rfl, rfl⟩ (by kernel_rfl) (by kernel_rfl) (by kernel_rfl) rfl wLen rfl (semW_cons (semW_call xAppendString ⟨by kernel_rfl, rfl, rfl⟩ (show oneTy P 9 = true by kernel_rfl)) (semW_cons (semW_listS ⟨by kernel_rfl, rfl, rfl⟩ (by kernel_rfl) (by kernel_rfl) (by kernel_rfl) rfl wLen rfl (semW_cons (semW_call xAppendInt32 ⟨by kernel_rfl, rfl, rfl⟩ (show oneTy P 21 = true by kernel_rfl)) (semW_cons (semW_call xAppendInt16 ⟨by kernel_rfl, rfl, rfl⟩ (show oneTy P 45 = true by kernel_rfl)) semW_nil))) semW_nil))) semW_nil))) semW_nil)
theorem app0 : AppTo P 19 tysWriteTxnMarkersResponse 0 ws0 := appTo_gives (S := 57) rdF (by kernel_rfl) (by kernel_rfl) (by kernel_rfl) wsok0

theorem mke0 (w : World) (t : PT) (hok : t.ok) (hle : (pWrite pf 1 0 t).length ≤ 1073741824) (cs : List Value) (htc : TreeC w (pFit 0 pf t) cs) : MadeBy P 9 [.int .i64 0, .agg ⟨cs⟩] w (pWrite pf 1 0 t) := by
  obtain ⟨he, hk⟩ := mk_message (v := 0) (x := 1) (fs := pf) (ss := fsWriteTxnMarkersResponse) (ws := ws0) (tys := tyt) (zs := zt) plainOk (by kernel_rfl) (by decide) (by kernel_rfl) t
  rw [← he] at hle ⊢
  exact mkDoor_gives (S := 57) (fSet := 17) (fFill := 18) (cells := zct) (ts := tysWriteTxnMarkersResponse) rdF tyZ (by kernel_rfl) (by decide) (ps := [(0, 1), (1, 1), (2, 1)]) (by kernel_rfl) (by kernel_rfl) (by kernel_rfl) (by kernel_rfl) (by kernel_rfl) fillOk rfl rfl (preS_of rfl) rfl app0 hk htc (pFit_tidy 0 pf hok) (Nat.le_trans hle (by decide))

def ws1 : List WStep := [.listS .clen 31 1 52 1 73 3 tysWriteTxnMarkersResponseMarker [.call (.num 8 .i64) 33 0 2 0, .listS .clen 31 1 71 1 82 3 tysWriteTxnMarkersResponseMarkerTopic [.call .cstr 34 0 9 0, .listS .clen 31 1 80 1 86 3 tysWriteTxnMarkersResponseMarkerTopicPartition [.call (.num 4 .i32) 36 0 21 0, .call (.num 2 .i16) 37 1 45 1, .tags 38 39 40 2 2], .tags 38 39 40 2 2], .tags 38 39 40 2 2], .tags 38 39 40 2 2]
theorem wsok1 : SemW P tysWriteTxnMarkersResponse (fun s n d x k => gWSteps N ws1 s 57 n d x k) (encSteps ws1) := (semW_cons (semW_listS ⟨by kernel_rfl, rfl, rfl⟩ (by kernel_rfl) (by kernel_rfl) (by kernel_rfl) rfl wCLen rfl (semW_cons (semW_call xAppendInt64 ⟨by kernel_rfl, rfl, rfl⟩ (show oneTy P 2 = true by kernel_rfl)) (semW_cons (semW_listS ⟨by kernel_rfl, rfl, rfl⟩ (by kernel_rfl) (by kernel_rfl) (by kernel_rfl) rfl wCLen rfl (semW_cons (semW_call xAppendCompactString ⟨by kernel_rfl, rfl, rfl⟩ (show oneTy P 9 = true by kernel_rfl)) (semW_cons (semW_listS ⟨by kernel_rfl, rfl, rfl⟩ (by kernel_rfl) (by kernel_rfl) (by kernel_rfl) rfl wCLen rfl (semW_cons (semW_call xAppendInt32 ⟨by kernel_rfl, rfl, rfl⟩ (show oneTy P 21 = true by kernel_rfl)) (semW_cons (semW_call xAppendInt16 ⟨by kernel_rfl, rfl, rfl⟩ (show oneTy P 45 = true by kernel_rfl)) (semW_cons (semW_tags spF wUv hTagsLen wEach ⟨by kernel_rfl, rfl, rfl⟩) semW_nil)))) (semW_cons (semW_tags spF wUv hTagsLen wEach ⟨by kernel_rfl, rfl, rfl⟩) semW_nil)))) (semW_cons (semW_tags spF wUv hTagsLen wEach ⟨by kernel_rfl, rfl, rfl⟩) semW_nil)))) (semW_cons (semW_tags spF wUv hTagsLen wEach ⟨by kernel_rfl, rfl, rfl⟩) semW_nil))
theorem app1 : AppTo P 19 tysWriteTxnMarkersResponse 1 ws1 := appTo_gives (S := 57) rdF (by kernel_rfl) (by kernel_rfl) (by kernel_rfl) wsok1

theorem mke1 (w : World) (t : PT) (hok : t.ok) (hle : (pWrite pf 1 1 t).length ≤ 1073741824) (cs : List Value) (htc : TreeC w (pFit 1 pf t) cs) : MadeBy P 9 [.int .i64 1, .agg ⟨cs⟩] w (pWrite pf 1 1 t) := by
  obtain ⟨he, hk⟩ := mk_message (v := 1) (x := 1) (fs := pf) (ss := fsWriteTxnMarkersResponse) (ws := ws1) (tys := tyt) (zs := zt) plainOk (by kernel_rfl) (by decide) (by kernel_rfl) t
  rw [← he] at hle ⊢
  exact mkDoor_gives (S := 57) (fSet := 17) (fFill := 18) (cells := zct) (ts := tysWriteTxnMarkersResponse) rdF tyZ (by kernel_rfl) (by decide) (ps := [(0, 1), (1, 1), (2, 1)]) (by kernel_rfl) (by kernel_rfl) (by kernel_rfl) (by kernel_rfl) (by kernel_rfl) fillOk rfl rfl (preS_of rfl) rfl app1 hk htc (pFit_tidy 1 pf hok) (Nat.le_trans hle (by decide))

def ws2 : List WStep := [.listS .clen 31 1 52 1 73 3 tysWriteTxnMarkersResponseMarker [.call (.num 8 .i64) 33 0 2 0, .listS .clen 31 1 71 1 82 3 tysWriteTxnMarkersResponseMarkerTopic [.call .cstr 34 0 9 0, .listS .clen 31 1 80 1 86 3 tysWriteTxnMarkersResponseMarkerTopicPartition [.call (.num 4 .i32) 36 0 21 0, .call (.num 2 .i16) 37 1 45 1, .tags 38 39 40 2 2], .tags 38 39 40 2 2], .tags 38 39 40 2 2], .tags 38 39 40 2 2]
theorem wsok2 : SemW P tysWriteTxnMarkersResponse (fun s n d x k => gWSteps N ws2 s 57 n d x k) (encSteps ws2) := (semW_cons (semW_listS ⟨by kernel_rfl, rfl, rfl⟩ (by kernel_rfl) (by kernel_rfl) (by kernel_rfl) rfl wCLen rfl (semW_cons (semW_call xAppendInt64 ⟨by kernel_rfl, rfl, rfl⟩ (show oneTy P 2 = true by kernel_rfl)) (semW_cons (semW_listS ⟨by kernel_rfl, rfl, rfl⟩ (by kernel_rfl) (by kernel_rfl) (by kernel_rfl) rfl wCLen rfl (semW_cons (semW_call xAppendCompactString ⟨by kernel_rfl, rfl, rfl⟩ (show oneTy P 9 = true by kernel_rfl)) (semW_cons (semW_listS ⟨by kernel_rfl, rfl, rfl⟩ (by kernel_rfl) (by kernel_rfl) (by kernel_rfl) rfl wCLen rfl (semW_cons (semW_call xAppendInt32 ⟨by kernel_rfl, rfl, rfl⟩ (show oneTy P 21 = true by kernel_rfl)) (semW_cons (semW_call xAppendInt16 ⟨by kernel_rfl, rfl, rfl⟩ (show oneTy P 45 = true by kernel_rfl)) (semW_cons (semW_tags spF wUv hTagsLen wEach ⟨by kernel_rfl, rfl, rfl⟩) semW_nil)))) (semW_cons (semW_tags spF wUv hTagsLen wEach ⟨by kernel_rfl, rfl, rfl⟩) semW_nil)))) (semW_cons (semW_tags spF wUv hTagsLen wEach ⟨by kernel_rfl, rfl, rfl⟩) semW_nil)))) (semW_cons (semW_tags spF wUv hTagsLen wEach ⟨by kernel_rfl, rfl, rfl⟩) semW_nil))
theorem app2 : AppTo P 19 tysWriteTxnMarkersResponse 2 ws2 := appTo_gives (S := 57) rdF (by kernel_rfl) (by kernel_rfl) (by kernel_rfl) wsok2

theorem mke2 (w : World) (t : PT) (hok : t.ok) (hle : (pWrite pf 1 2 t).length ≤ 1073741824) (cs : List Value) (htc : TreeC w (pFit 2 pf t) cs) : MadeBy P 9 [.int .i64 2, .agg ⟨cs⟩] w (pWrite pf 1 2 t) := by
  obtain ⟨he, hk⟩ := mk_message (v := 2) (x := 1) (fs := pf) (ss := fsWriteTxnMarkersResponse) (ws := ws2) (tys := tyt) (zs := zt) plainOk (by kernel_rfl) (by decide) (by kernel_rfl) t
  rw [← he] at hle ⊢
  exact mkDoor_gives (S := 57) (fSet := 17) (fFill := 18) (cells := zct) (ts := tysWriteTxnMarkersResponse) rdF tyZ (by kernel_rfl) (by decide) (ps := [(0, 1), (1, 1), (2, 1)]) (by kernel_rfl) (by kernel_rfl) (by kernel_rfl) (by kernel_rfl) (by kernel_rfl) fillOk rfl rfl (preS_of rfl) rfl app2 hk htc (pFit_tidy 2 pf hok) (Nat.le_trans hle (by decide))

theorem mkeAll (v : Nat) (hv : v ≤ 2) (w : World) (t : PT) (hok : t.ok) (hle : (pWrite pf 1 v t).length ≤ 1073741824) (cs : List Value) (htc : TreeC w (pFit v pf t) cs) : MadeBy P 9 [.int .i64 v, .agg ⟨cs⟩] w (pWrite pf 1 v t) := by
  have h : v = 0 ∨ v = 1 ∨ v = 2 := by omega
  rcases h with rfl | rfl | rfl
  · exact mke0 w t hok hle cs htc
  · exact mke1 w t hok hle cs htc
  · exact mke2 w t hok hle cs htc
theorem maxOk (w : World) : Gives P 5 [] w fun v w' => v = .int .i64 (2 : Nat) ∧ Keeps [] w w' := max_gives (fNew := 14) (fMax := 15) (m := 2) rdF newOk (by kernel_rfl) (by kernel_rfl) rfl
theorem verOk (n : Nat) (hn : n < 256) (w : World) : Gives P 7 [.int .u8 n, .int .i64 (2 : Nat)] w fun v w' => v = .int .i64 (n % (2 + 1) : Nat) ∧ w' = w := version_gives rdF (by kernel_rfl) hn (by decide)

/-- The law: whatever the tree. -/
theorem lawOk (w : World) (n : Nat) (hn : n < 256) (t : PT) (ts : List Value) (ht : TreeC w t ts) (hok : t.ok) (hwt : t.wt ≤ 1048576) : Gives P 3 [.int .u8 n, .agg ⟨ts⟩] w fun v w' => v = .bool true ∧ Keeps [] w w' :=
  have hv : n % (2 + 1) ≤ 2 := Nat.le_of_lt_succ (Nat.mod_lt _ (by decide))
  have hle : (pWrite pf 1 (n % (2 + 1) : Nat) t).length ≤ 1073741824 := Nat.le_trans (pWrite_len plainOk _ _ t) (Nat.mul_le_mul kOk hwt)
  mkLaw_gives (m := 2) (fs := pf) (x := 1) spF spT mkT fitT sameT (by kernel_rfl) plainOk (by decide) ⟨_, fbF.zero, rfl⟩ maxOk (verOk n hn) msgOk hGiven (fun w cs htc => mkeAll _ hv w t hok hle cs htc) hle ht hok
end Go.Proofs.Ytpmibjnbijmckab
