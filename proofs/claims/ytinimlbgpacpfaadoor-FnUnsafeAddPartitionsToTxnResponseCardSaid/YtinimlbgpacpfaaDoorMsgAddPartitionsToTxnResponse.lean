/- AddPartitionsToTxnResponse: its fields, how it is read and told. -/
import Derived.Test.YtinimlbgpacpfaaDoorParts
namespace Go.Proofs.YtinimlbgpacpfaaDoor
open Go Go.Kf

def tysAddPartitionsToTxnResponseTransactionTopicPartition : List Ty := [.num .i32, .num .i16, .tags]
def lsAddPartitionsToTxnResponseTransactionTopicPartition : List Nat := [1, 1, 1]
def zfAddPartitionsToTxnResponseTransactionTopicPartition : List FV := [.one (.int .i32 0), .one (.int .i16 0), .tags []]
def dfAddPartitionsToTxnResponseTransactionTopicPartition : List FV := [.one (.int .i32 0), .one (.int .i16 0), .tags []]
def dsAddPartitionsToTxnResponseTransactionTopicPartition : List Dset := []
theorem dsokAddPartitionsToTxnResponseTransactionTopicPartition : DsetsOk P 117 lsAddPartitionsToTxnResponseTransactionTopicPartition dsAddPartitionsToTxnResponseTransactionTopicPartition := fun d hd => by cases hd
theorem defAddPartitionsToTxnResponseTransactionTopicPartition : DefSets P 75 lsAddPartitionsToTxnResponseTransactionTopicPartition dsAddPartitionsToTxnResponseTransactionTopicPartition := default_gives rdF.mix (by kernel_rfl) dsokAddPartitionsToTxnResponseTransactionTopicPartition
theorem dokAddPartitionsToTxnResponseTransactionTopicPartition : DefOk P 75 117 dfAddPartitionsToTxnResponseTransactionTopicPartition := DefSets.ok (z := .agg ⟨[.int .i32 0, .int .i16 0, .map none]⟩) (zfs := zfAddPartitionsToTxnResponseTransactionTopicPartition) (dc := [.int .i32 0, .int .i16 0, .map none]) defAddPartitionsToTxnResponseTransactionTopicPartition (by kernel_rfl) (by kernel_rfl) rfl rfl (by kernel_rfl)
def tfsAddPartitionsToTxnResponseTransactionTopicPartition : List (List FV → PT) := [fun fs => tellPrim (fvGet fs 0), fun fs => tellPrim (fvGet fs 1)]
def tssAddPartitionsToTxnResponseTransactionTopicPartition : List TStep := [.num 0 21 0, .num 1 38 1]
theorem tsokAddPartitionsToTxnResponseTransactionTopicPartition : StepsTell P N 117 tysAddPartitionsToTxnResponseTransactionTopicPartition tssAddPartitionsToTxnResponseTransactionTopicPartition tfsAddPartitionsToTxnResponseTransactionTopicPartition 0 := ⟨told_num tyZ tellF ⟨by kernel_rfl, rfl, rfl⟩ (by kernel_rfl) (by kernel_rfl) fits_i32, told_num tyZ tellF ⟨by kernel_rfl, rfl, rfl⟩ (by kernel_rfl) (by kernel_rfl) fits_i16, trivial⟩
def gpAddPartitionsToTxnResponseTransactionTopicPartition (fs : List FV) : PT := .mk 0 [] false (tfsAddPartitionsToTxnResponseTransactionTopicPartition.map (· fs)) (tellTags (fvGet fs 2))
theorem toldAddPartitionsToTxnResponseTransactionTopicPartition : TellOf P 98 tysAddPartitionsToTxnResponseTransactionTopicPartition gpAddPartitionsToTxnResponseTransactionTopicPartition := told_tags (S := 117) (N := 2) (g := 122) (ss := tssAddPartitionsToTxnResponseTransactionTopicPartition) rdF tyZ tellF (closure_gives rdF tyZ octF rowTg tagPlan (by kernel_rfl)) hEach hSorted (by kernel_rfl) rfl (by decide) tsokAddPartitionsToTxnResponseTransactionTopicPartition ⟨by kernel_rfl, rfl, rfl⟩

def tysAddPartitionsToTxnResponseTransactionTopic : List Ty := [.text, .list (tysAddPartitionsToTxnResponseTransactionTopicPartition), .tags]
def lsAddPartitionsToTxnResponseTransactionTopic : List Nat := [1, 1, 1]
def zfAddPartitionsToTxnResponseTransactionTopic : List FV := [.text [], .list true [], .tags []]
def dfAddPartitionsToTxnResponseTransactionTopic : List FV := [.text [], .list true [], .tags []]
def dsAddPartitionsToTxnResponseTransactionTopic : List Dset := []
theorem dsokAddPartitionsToTxnResponseTransactionTopic : DsetsOk P 114 lsAddPartitionsToTxnResponseTransactionTopic dsAddPartitionsToTxnResponseTransactionTopic := fun d hd => by cases hd
theorem defAddPartitionsToTxnResponseTransactionTopic : DefSets P 74 lsAddPartitionsToTxnResponseTransactionTopic dsAddPartitionsToTxnResponseTransactionTopic := default_gives rdF.mix (by kernel_rfl) dsokAddPartitionsToTxnResponseTransactionTopic
theorem dokAddPartitionsToTxnResponseTransactionTopic : DefOk P 74 114 dfAddPartitionsToTxnResponseTransactionTopic := DefSets.ok (z := .agg ⟨[.string (strOf []), .slice none 0 0, .map none]⟩) (zfs := zfAddPartitionsToTxnResponseTransactionTopic) (dc := [.string (strOf []), .slice none 0 0, .map none]) defAddPartitionsToTxnResponseTransactionTopic (by kernel_rfl) (by kernel_rfl) rfl rfl (by kernel_rfl)
def tfsAddPartitionsToTxnResponseTransactionTopic : List (List FV → PT) := [fun fs => tellPrim (fvGet fs 0), fun fs => tellList gpAddPartitionsToTxnResponseTransactionTopicPartition (fvGet fs 1)]
def tssAddPartitionsToTxnResponseTransactionTopic : List TStep := [.text 0 0, .list 1 112 1 (.sub 98)]
theorem tsokAddPartitionsToTxnResponseTransactionTopic : StepsTell P N 114 tysAddPartitionsToTxnResponseTransactionTopic tssAddPartitionsToTxnResponseTransactionTopic tfsAddPartitionsToTxnResponseTransactionTopic 0 := ⟨told_text rdF tyZ tellF oneStr ⟨by kernel_rfl, rfl, rfl⟩, told_list (T := 117) rdF tyZ tellF ⟨by kernel_rfl, rfl, rfl⟩ (by kernel_rfl) (by kernel_rfl) (by kernel_rfl) rfl (el_sub toldAddPartitionsToTxnResponseTransactionTopicPartition), trivial⟩
def gpAddPartitionsToTxnResponseTransactionTopic (fs : List FV) : PT := .mk 0 [] false (tfsAddPartitionsToTxnResponseTransactionTopic.map (· fs)) (tellTags (fvGet fs 2))
theorem toldAddPartitionsToTxnResponseTransactionTopic : TellOf P 78 tysAddPartitionsToTxnResponseTransactionTopic gpAddPartitionsToTxnResponseTransactionTopic := told_tags (S := 114) (N := 2) (g := 99) (ss := tssAddPartitionsToTxnResponseTransactionTopic) rdF tyZ tellF (closure_gives rdF tyZ octF rowTg tagPlan (by kernel_rfl)) hEach hSorted (by kernel_rfl) rfl (by decide) tsokAddPartitionsToTxnResponseTransactionTopic ⟨by kernel_rfl, rfl, rfl⟩

def tysAddPartitionsToTxnResponseTransaction : List Ty := [.text, .list (tysAddPartitionsToTxnResponseTransactionTopic), .tags]
def lsAddPartitionsToTxnResponseTransaction : List Nat := [1, 1, 1]
def zfAddPartitionsToTxnResponseTransaction : List FV := [.text [], .list true [], .tags []]
def dfAddPartitionsToTxnResponseTransaction : List FV := [.text [], .list true [], .tags []]
def dsAddPartitionsToTxnResponseTransaction : List Dset := []
theorem dsokAddPartitionsToTxnResponseTransaction : DsetsOk P 83 lsAddPartitionsToTxnResponseTransaction dsAddPartitionsToTxnResponseTransaction := fun d hd => by cases hd
theorem defAddPartitionsToTxnResponseTransaction : DefSets P 73 lsAddPartitionsToTxnResponseTransaction dsAddPartitionsToTxnResponseTransaction := default_gives rdF.mix (by kernel_rfl) dsokAddPartitionsToTxnResponseTransaction
theorem dokAddPartitionsToTxnResponseTransaction : DefOk P 73 83 dfAddPartitionsToTxnResponseTransaction := DefSets.ok (z := .agg ⟨[.string (strOf []), .slice none 0 0, .map none]⟩) (zfs := zfAddPartitionsToTxnResponseTransaction) (dc := [.string (strOf []), .slice none 0 0, .map none]) defAddPartitionsToTxnResponseTransaction (by kernel_rfl) (by kernel_rfl) rfl rfl (by kernel_rfl)
def tfsAddPartitionsToTxnResponseTransaction : List (List FV → PT) := [fun fs => tellPrim (fvGet fs 0), fun fs => tellList gpAddPartitionsToTxnResponseTransactionTopic (fvGet fs 1)]
def tssAddPartitionsToTxnResponseTransaction : List TStep := [.text 0 0, .list 1 81 1 (.sub 78)]
theorem tsokAddPartitionsToTxnResponseTransaction : StepsTell P N 83 tysAddPartitionsToTxnResponseTransaction tssAddPartitionsToTxnResponseTransaction tfsAddPartitionsToTxnResponseTransaction 0 := ⟨told_text rdF tyZ tellF oneStr ⟨by kernel_rfl, rfl, rfl⟩, told_list (T := 114) rdF tyZ tellF ⟨by kernel_rfl, rfl, rfl⟩ (by kernel_rfl) (by kernel_rfl) (by kernel_rfl) rfl (el_sub toldAddPartitionsToTxnResponseTransactionTopic), trivial⟩
def gpAddPartitionsToTxnResponseTransaction (fs : List FV) : PT := .mk 0 [] false (tfsAddPartitionsToTxnResponseTransaction.map (· fs)) (tellTags (fvGet fs 2))
theorem toldAddPartitionsToTxnResponseTransaction : TellOf P 46 tysAddPartitionsToTxnResponseTransaction gpAddPartitionsToTxnResponseTransaction := told_tags (S := 83) (N := 2) (g := 79) (ss := tssAddPartitionsToTxnResponseTransaction) rdF tyZ tellF (closure_gives rdF tyZ octF rowTg tagPlan (by kernel_rfl)) hEach hSorted (by kernel_rfl) rfl (by decide) tsokAddPartitionsToTxnResponseTransaction ⟨by kernel_rfl, rfl, rfl⟩

def tysAddPartitionsToTxnResponseTopicPartition : List Ty := [.num .i32, .num .i16, .tags]
def lsAddPartitionsToTxnResponseTopicPartition : List Nat := [1, 1, 1]
def zfAddPartitionsToTxnResponseTopicPartition : List FV := [.one (.int .i32 0), .one (.int .i16 0), .tags []]
def dfAddPartitionsToTxnResponseTopicPartition : List FV := [.one (.int .i32 0), .one (.int .i16 0), .tags []]
def dsAddPartitionsToTxnResponseTopicPartition : List Dset := []
theorem dsokAddPartitionsToTxnResponseTopicPartition : DsetsOk P 119 lsAddPartitionsToTxnResponseTopicPartition dsAddPartitionsToTxnResponseTopicPartition := fun d hd => by cases hd
theorem defAddPartitionsToTxnResponseTopicPartition : DefSets P 77 lsAddPartitionsToTxnResponseTopicPartition dsAddPartitionsToTxnResponseTopicPartition := default_gives rdF.mix (by kernel_rfl) dsokAddPartitionsToTxnResponseTopicPartition
theorem dokAddPartitionsToTxnResponseTopicPartition : DefOk P 77 119 dfAddPartitionsToTxnResponseTopicPartition := DefSets.ok (z := .agg ⟨[.int .i32 0, .int .i16 0, .map none]⟩) (zfs := zfAddPartitionsToTxnResponseTopicPartition) (dc := [.int .i32 0, .int .i16 0, .map none]) defAddPartitionsToTxnResponseTopicPartition (by kernel_rfl) (by kernel_rfl) rfl rfl (by kernel_rfl)
def tfsAddPartitionsToTxnResponseTopicPartition : List (List FV → PT) := [fun fs => tellPrim (fvGet fs 0), fun fs => tellPrim (fvGet fs 1)]
def tssAddPartitionsToTxnResponseTopicPartition : List TStep := [.num 0 21 0, .num 1 38 1]
theorem tsokAddPartitionsToTxnResponseTopicPartition : StepsTell P N 119 tysAddPartitionsToTxnResponseTopicPartition tssAddPartitionsToTxnResponseTopicPartition tfsAddPartitionsToTxnResponseTopicPartition 0 := ⟨told_num tyZ tellF ⟨by kernel_rfl, rfl, rfl⟩ (by kernel_rfl) (by kernel_rfl) fits_i32, told_num tyZ tellF ⟨by kernel_rfl, rfl, rfl⟩ (by kernel_rfl) (by kernel_rfl) fits_i16, trivial⟩
def gpAddPartitionsToTxnResponseTopicPartition (fs : List FV) : PT := .mk 0 [] false (tfsAddPartitionsToTxnResponseTopicPartition.map (· fs)) (tellTags (fvGet fs 2))
theorem toldAddPartitionsToTxnResponseTopicPartition : TellOf P 80 tysAddPartitionsToTxnResponseTopicPartition gpAddPartitionsToTxnResponseTopicPartition := told_tags (S := 119) (N := 2) (g := 100) (ss := tssAddPartitionsToTxnResponseTopicPartition) rdF tyZ tellF (closure_gives rdF tyZ octF rowTg tagPlan (by kernel_rfl)) hEach hSorted (by kernel_rfl) rfl (by decide) tsokAddPartitionsToTxnResponseTopicPartition ⟨by kernel_rfl, rfl, rfl⟩

def tysAddPartitionsToTxnResponseTopic : List Ty := [.text, .list (tysAddPartitionsToTxnResponseTopicPartition), .tags]
def lsAddPartitionsToTxnResponseTopic : List Nat := [1, 1, 1]
def zfAddPartitionsToTxnResponseTopic : List FV := [.text [], .list true [], .tags []]
def dfAddPartitionsToTxnResponseTopic : List FV := [.text [], .list true [], .tags []]
def dsAddPartitionsToTxnResponseTopic : List Dset := []
theorem dsokAddPartitionsToTxnResponseTopic : DsetsOk P 88 lsAddPartitionsToTxnResponseTopic dsAddPartitionsToTxnResponseTopic := fun d hd => by cases hd
theorem defAddPartitionsToTxnResponseTopic : DefSets P 76 lsAddPartitionsToTxnResponseTopic dsAddPartitionsToTxnResponseTopic := default_gives rdF.mix (by kernel_rfl) dsokAddPartitionsToTxnResponseTopic
theorem dokAddPartitionsToTxnResponseTopic : DefOk P 76 88 dfAddPartitionsToTxnResponseTopic := DefSets.ok (z := .agg ⟨[.string (strOf []), .slice none 0 0, .map none]⟩) (zfs := zfAddPartitionsToTxnResponseTopic) (dc := [.string (strOf []), .slice none 0 0, .map none]) defAddPartitionsToTxnResponseTopic (by kernel_rfl) (by kernel_rfl) rfl rfl (by kernel_rfl)
def tfsAddPartitionsToTxnResponseTopic : List (List FV → PT) := [fun fs => tellPrim (fvGet fs 0), fun fs => tellList gpAddPartitionsToTxnResponseTopicPartition (fvGet fs 1)]
def tssAddPartitionsToTxnResponseTopic : List TStep := [.text 0 0, .list 1 86 1 (.sub 80)]
theorem tsokAddPartitionsToTxnResponseTopic : StepsTell P N 88 tysAddPartitionsToTxnResponseTopic tssAddPartitionsToTxnResponseTopic tfsAddPartitionsToTxnResponseTopic 0 := ⟨told_text rdF tyZ tellF oneStr ⟨by kernel_rfl, rfl, rfl⟩, told_list (T := 119) rdF tyZ tellF ⟨by kernel_rfl, rfl, rfl⟩ (by kernel_rfl) (by kernel_rfl) (by kernel_rfl) rfl (el_sub toldAddPartitionsToTxnResponseTopicPartition), trivial⟩
def gpAddPartitionsToTxnResponseTopic (fs : List FV) : PT := .mk 0 [] false (tfsAddPartitionsToTxnResponseTopic.map (· fs)) (tellTags (fvGet fs 2))
theorem toldAddPartitionsToTxnResponseTopic : TellOf P 47 tysAddPartitionsToTxnResponseTopic gpAddPartitionsToTxnResponseTopic := told_tags (S := 88) (N := 2) (g := 81) (ss := tssAddPartitionsToTxnResponseTopic) rdF tyZ tellF (closure_gives rdF tyZ octF rowTg tagPlan (by kernel_rfl)) hEach hSorted (by kernel_rfl) rfl (by decide) tsokAddPartitionsToTxnResponseTopic ⟨by kernel_rfl, rfl, rfl⟩

def tysAddPartitionsToTxnResponse : List Ty := [.num .i16, .num .i32, .num .i16, .list (tysAddPartitionsToTxnResponseTransaction), .list (tysAddPartitionsToTxnResponseTopic), .tags]
def lsAddPartitionsToTxnResponse : List Nat := [1, 1, 1, 1, 1, 1]
def zfAddPartitionsToTxnResponse : List FV := [.one (.int .i16 0), .one (.int .i32 0), .one (.int .i16 0), .list true [], .list true [], .tags []]
def dfAddPartitionsToTxnResponse : List FV := [.one (.int .i16 0), .one (.int .i32 0), .one (.int .i16 0), .list true [], .list true [], .tags []]
def dsAddPartitionsToTxnResponse : List Dset := []
theorem dsokAddPartitionsToTxnResponse : DsetsOk P 78 lsAddPartitionsToTxnResponse dsAddPartitionsToTxnResponse := fun d hd => by cases hd
theorem defAddPartitionsToTxnResponse : DefSets P 44 lsAddPartitionsToTxnResponse dsAddPartitionsToTxnResponse := default_gives rdF.mix (by kernel_rfl) dsokAddPartitionsToTxnResponse
theorem dokAddPartitionsToTxnResponse : DefOk P 44 78 dfAddPartitionsToTxnResponse := DefSets.ok (z := .agg ⟨[.int .i16 0, .int .i32 0, .int .i16 0, .slice none 0 0, .slice none 0 0, .map none]⟩) (zfs := zfAddPartitionsToTxnResponse) (dc := [.int .i16 0, .int .i32 0, .int .i16 0, .slice none 0 0, .slice none 0 0, .map none]) defAddPartitionsToTxnResponse (by kernel_rfl) (by kernel_rfl) rfl rfl (by kernel_rfl)
def tfsAddPartitionsToTxnResponse : List (List FV → PT) := [fun fs => tellPrim (fvGet fs 1), fun fs => tellPrim (fvGet fs 2), fun fs => tellList gpAddPartitionsToTxnResponseTransaction (fvGet fs 3), fun fs => tellList gpAddPartitionsToTxnResponseTopic (fvGet fs 4)]
def tssAddPartitionsToTxnResponse : List TStep := [.num 1 21 0, .num 2 38 1, .list 3 75 2 (.sub 46), .list 4 76 3 (.sub 47)]
theorem tsokAddPartitionsToTxnResponse : StepsTell P N 78 tysAddPartitionsToTxnResponse tssAddPartitionsToTxnResponse tfsAddPartitionsToTxnResponse 0 := ⟨told_num tyZ tellF ⟨by kernel_rfl, rfl, rfl⟩ (by kernel_rfl) (by kernel_rfl) fits_i32, told_num tyZ tellF ⟨by kernel_rfl, rfl, rfl⟩ (by kernel_rfl) (by kernel_rfl) fits_i16, told_list (T := 83) rdF tyZ tellF ⟨by kernel_rfl, rfl, rfl⟩ (by kernel_rfl) (by kernel_rfl) (by kernel_rfl) rfl (el_sub toldAddPartitionsToTxnResponseTransaction), told_list (T := 88) rdF tyZ tellF ⟨by kernel_rfl, rfl, rfl⟩ (by kernel_rfl) (by kernel_rfl) (by kernel_rfl) rfl (el_sub toldAddPartitionsToTxnResponseTopic), trivial⟩
def gpAddPartitionsToTxnResponse (fs : List FV) : PT := .mk 0 [] false (tfsAddPartitionsToTxnResponse.map (· fs)) (tellTags (fvGet fs 5))
theorem toldAddPartitionsToTxnResponse : TellOf P 29 tysAddPartitionsToTxnResponse gpAddPartitionsToTxnResponse := told_tags (S := 78) (N := 4) (g := 48) (ss := tssAddPartitionsToTxnResponse) rdF tyZ tellF (closure_gives rdF tyZ octF rowTg tagPlan (by kernel_rfl)) hEach hSorted (by kernel_rfl) rfl (by decide) tsokAddPartitionsToTxnResponse ⟨by kernel_rfl, rfl, rfl⟩

end Go.Proofs.YtinimlbgpacpfaaDoor
