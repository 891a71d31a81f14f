/- TxnMetadataKey: its doors. -/
import Derived.Test.YtmficcifapfkdaaDoorMsgTxnMetadataKey
import Derived.Test.YtmficcifapfkdaaDoorFieldsTxnMetadataKey
namespace Go.Proofs.YtmficcifapfkdaaDoor
open Go Go.Kf

theorem rfA : RfFacts P N 43 := .of (by kernel_rfl) (by kernel_rfl) (by kernel_rfl) (by kernel_rfl) (by kernel_rfl)
theorem errI : ∃ ms, P.underlying N.tErr = some (.interface ms) := iface_of (by kernel_rfl)
def mid0 : List Value := [.int .i16 0, .string (strOf [])]
def tyt : List Ty := [.text]
theorem newV : NewVOk P 10 mid0 := newV_gives (S := 43) (s := 2) (z := .agg ⟨[.int .i16 0, .string (strOf [])]⟩) (dflt := dfTxnMetadataKey) rdF.mix (by kernel_rfl) (by kernel_rfl) rfl (by kernel_rfl) dokTxnMetadataKey (by kernel_rfl) (by kernel_rfl)
def sss : List Step := [.call .str 22 1 9 1]
theorem oks : StepsOk P N 43 lsTxnMetadataKey sss := ⟨⟨aString, ⟨by kernel_rfl, rfl, rfl⟩, by kernel_rfl⟩, trivial⟩
theorem rts {e0 : Value} {l : List UInt8} (hv : ∀ x r', (PK.num 2 .i16).run ⟨l, false, l.isEmpty⟩ = (x, r') → ∀ y, none = some y → x = .one (.int .i16 y)) (hl : l.length ≤ 1073741824) : KeptRT P N 11 12 mid0 e0 (kOut (verStep N 20 :: sss) dfTxnMetadataKey gpTxnMetadataKey) l :=
  keptRT_of (e := E) (g := 18) (S := 43) (fDef := 17) (ds := dsTxnMetadataKey) (ls := lsTxnMetadataKey) (ss := sss) (vo := none) (orc := noOrc) (uns := false) (fs0 := dfTxnMetadataKey) (fs1 := dfTxnMetadataKey) (mid0 := mid0) (mid1 := mid0) (ts := tyt)
    rdF rfA (fun h => by cases h) hComplete aInt16 (by kernel_rfl) ⟨by kernel_rfl, rfl, rfl⟩ (by kernel_rfl) (by kernel_rfl) defTxnMetadataKey oks rfl rfl rfl rfl (by kernel_rfl) (by kernel_rfl) (fun _ => rfl) rfl rfl rfl toldTxnMetadataKey hv hl
theorem doors {w : World} {l : List UInt8} {data e0 : Value} (hv : ∀ x r', (PK.num 2 .i16).run ⟨l, false, l.isEmpty⟩ = (x, r') → ∀ y, none = some y → x = .one (.int .i16 y)) (hl : l.length ≤ 1073741824) (hd : DataIn w data l) (he : ErrAt w N.gErr e0) (he0 : ∃ d y, e0 = .iface d y) : Gives P 4 [data] w fun u w' => DoorPost w w' u (kOut (verStep N 20 :: sss) dfTxnMetadataKey gpTxnMetadataKey l) ∧ Keeps [] w w' :=
  keptDoor_gives (S := 43) (s := 2) (z := .agg ⟨[.int .i16 0, .string (strOf [])]⟩) (mid := mid0) rdF octF tellF tyZ (by kernel_rfl) errI he0 newV (by kernel_rfl) rfl (by kernel_rfl) (by kernel_rfl) rfA.ver rfA.oneI16 (rts hv hl) hl hd he

def ssu : List Step := [.call .str 21 1 9 1]
theorem oku : StepsOk P N 43 lsTxnMetadataKey ssu := ⟨⟨aUnsafeString, ⟨by kernel_rfl, rfl, rfl⟩, by kernel_rfl⟩, trivial⟩
theorem rtu {e0 : Value} {l : List UInt8} (hv : ∀ x r', (PK.num 2 .i16).run ⟨l, false, l.isEmpty⟩ = (x, r') → ∀ y, none = some y → x = .one (.int .i16 y)) (hl : l.length ≤ 1073741824) : KeptRT P N 15 12 mid0 e0 (kOut (verStep N 20 :: ssu) dfTxnMetadataKey gpTxnMetadataKey) l :=
  keptRT_of (e := E) (g := 18) (S := 43) (fDef := 17) (ds := dsTxnMetadataKey) (ls := lsTxnMetadataKey) (ss := ssu) (vo := none) (orc := noOrc) (uns := true) (fs0 := dfTxnMetadataKey) (fs1 := dfTxnMetadataKey) (mid0 := mid0) (mid1 := mid0) (ts := tyt)
    rdF rfA (fun h => by cases h) hComplete aInt16 (by kernel_rfl) ⟨by kernel_rfl, rfl, rfl⟩ (by kernel_rfl) (by kernel_rfl) defTxnMetadataKey oku rfl rfl rfl rfl (by kernel_rfl) (by kernel_rfl) (fun _ => rfl) rfl rfl rfl toldTxnMetadataKey hv hl
theorem dooru {w : World} {l : List UInt8} {data e0 : Value} (hv : ∀ x r', (PK.num 2 .i16).run ⟨l, false, l.isEmpty⟩ = (x, r') → ∀ y, none = some y → x = .one (.int .i16 y)) (hl : l.length ≤ 1073741824) (hd : DataIn w data l) (he : ErrAt w N.gErr e0) (he0 : ∃ d y, e0 = .iface d y) : Gives P 7 [data] w fun u w' => DoorPost w w' u (kOut (verStep N 20 :: ssu) dfTxnMetadataKey gpTxnMetadataKey l) ∧ Keeps [] w w' :=
  keptDoor_gives (S := 43) (s := 2) (z := .agg ⟨[.int .i16 0, .string (strOf [])]⟩) (mid := mid0) rdF octF tellF tyZ (by kernel_rfl) errI he0 newV (by kernel_rfl) rfl (by kernel_rfl) (by kernel_rfl) rfA.ver rfA.oneI16 (rtu hv hl) hl hd he

def tdTxnMetadataKey : List TD := [.prim 1]
def tgTxnMetadataKey : Option Nat := none
theorem gpTd : gpTxnMetadataKey = tdGp tdTxnMetadataKey tgTxnMetadataKey := by kernel_rfl
def outK (l : List UInt8) : Option PT := kOut (verStep N 20 :: sss) dfTxnMetadataKey gpTxnMetadataKey l
theorem noV {l : List UInt8} : ∀ x r', (PK.num 2 .i16).run ⟨l, false, l.isEmpty⟩ = (x, r') → ∀ y, (none : Option Int) = some y → x = .one (.int .i16 y) := fun _ _ _ _ h => by cases h
theorem canOk : (outK (pKept pf (-1) 0 .zero)).isSome = true := by kernel_rfl
theorem lenOk0 : (pKept pf (-1) 0 .zero).length ≤ 1073741824 := of_decide_eq_true (by kernel_rfl)
theorem unsOk (w : World) (l : List UInt8) (data e0 : Value) (hl : l.length ≤ 1073741824) (hd : DataIn w data l) (he : ErrAt w N.gErr e0) (he0 : ∃ d y, e0 = .iface d y) : Gives P 7 [data] w fun u w' => DoorPost w w' u (outK l) ∧ Keeps [] w w' := by
  have h := dooru (w := w) noV hl hd he he0
  rw [kOut_same (show eraseSs (verStep N 20 :: ssu) = eraseSs (verStep N 20 :: sss) by kernel_rfl) dfTxnMetadataKey gpTxnMetadataKey l] at h
  exact h
/-- The law: whatever the octets. -/
theorem lawOk (w : World) (data e0 : Value) (l : List UInt8) (hd : DataIn w data l) (he : ErrAt w N.gErr e0) (he0 : ∃ d y, e0 = .iface d y) : Gives P 3 [data] w fun v w' => v = .bool true ∧ Keeps [] w w' :=
  unsafeLawK_gives (fKept := 5) (fs := pf) (x := (-1)) (out := outK) (e0 := e0) (l := l) spF spT tellF tyZ gotF (by kernel_rfl) (by kernel_rfl) plainOk (by decide) msgOk (fun w l data hl hd he => doors noV hl hd he he0) (fun w l data hl hd he => unsOk w l data e0 hl hd he he0) canOk lenOk0 hGot hSameTree hd he
end Go.Proofs.YtmficcifapfkdaaDoor
