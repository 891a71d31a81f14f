/- TxnMetadataKey: its fields, how it is read and told. -/
import Derived.Test.YtmficcifapfkdaaDoorParts
namespace Go.Proofs.YtmficcifapfkdaaDoor
open Go Go.Kf

def tysTxnMetadataKey : List Ty := [.num .i16, .text]
def lsTxnMetadataKey : List Nat := [1, 1]
def zfTxnMetadataKey : List FV := [.one (.int .i16 0), .text []]
def dfTxnMetadataKey : List FV := [.one (.int .i16 0), .text []]
def dsTxnMetadataKey : List Dset := []
theorem dsokTxnMetadataKey : DsetsOk P 43 lsTxnMetadataKey dsTxnMetadataKey := trivial
theorem defTxnMetadataKey : DefSets P 17 lsTxnMetadataKey dsTxnMetadataKey := default_gives rdF.mix (by kernel_rfl) dsokTxnMetadataKey
theorem dokTxnMetadataKey : DefOk P 17 43 dfTxnMetadataKey := DefSets.ok (z := .agg ⟨[.int .i16 0, .string (strOf [])]⟩) (zfs := zfTxnMetadataKey) (dc := [.int .i16 0, .string (strOf [])]) defTxnMetadataKey (by kernel_rfl) (by kernel_rfl) rfl rfl rfl (by kernel_rfl)
def tfsTxnMetadataKey : List (List FV → PT) := [fun fs => tellPrim (fvGet fs 1)]
def tssTxnMetadataKey : List TStep := [.text 1 0]
theorem tsokTxnMetadataKey : StepsTell P N 43 tysTxnMetadataKey tssTxnMetadataKey tfsTxnMetadataKey 0 := ⟨told_text rdF tyZ tellF oneStr ⟨by kernel_rfl, rfl, rfl⟩, trivial⟩
def gpTxnMetadataKey (fs : List FV) : PT := .mk 0 [] false (tfsTxnMetadataKey.map (· fs)) []
theorem toldTxnMetadataKey : TellOf P 12 tysTxnMetadataKey gpTxnMetadataKey := told_of (S := 43) (N := 1) rdF tyZ tellF (by kernel_rfl) rfl (by decide) tsokTxnMetadataKey

end Go.Proofs.YtmficcifapfkdaaDoor
