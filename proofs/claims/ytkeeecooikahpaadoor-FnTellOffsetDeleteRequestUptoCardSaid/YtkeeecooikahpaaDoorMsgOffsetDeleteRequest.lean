/- OffsetDeleteRequest: its fields, how it is read and told. -/
import Derived.Test.YtkeeecooikahpaaDoorParts
namespace Go.Proofs.YtkeeecooikahpaaDoor
open Go Go.Kf

def tysOffsetDeleteRequestTopicPartition : List Ty := [.num .i32]
def lsOffsetDeleteRequestTopicPartition : List Nat := [1]
def zfOffsetDeleteRequestTopicPartition : List FV := [.one (.int .i32 0)]
def dfOffsetDeleteRequestTopicPartition : List FV := [.one (.int .i32 0)]
def dsOffsetDeleteRequestTopicPartition : List Dset := []
theorem dsokOffsetDeleteRequestTopicPartition : DsetsOk P 97 lsOffsetDeleteRequestTopicPartition dsOffsetDeleteRequestTopicPartition := trivial
theorem defOffsetDeleteRequestTopicPartition : DefSets P 48 lsOffsetDeleteRequestTopicPartition dsOffsetDeleteRequestTopicPartition := default_gives rdF.mix (by kernel_rfl) dsokOffsetDeleteRequestTopicPartition
theorem dokOffsetDeleteRequestTopicPartition : DefOk P 48 97 dfOffsetDeleteRequestTopicPartition := DefSets.ok (z := .agg ⟨[.int .i32 0]⟩) (zfs := zfOffsetDeleteRequestTopicPartition) (dc := [.int .i32 0]) defOffsetDeleteRequestTopicPartition (by kernel_rfl) (by kernel_rfl) rfl rfl rfl (by kernel_rfl)
def tfsOffsetDeleteRequestTopicPartition : List (List FV → PT) := [fun fs => tellPrim (fvGet fs 0)]
def tssOffsetDeleteRequestTopicPartition : List TStep := [.num 0 21 0]
theorem tsokOffsetDeleteRequestTopicPartition : StepsTell P N 97 tysOffsetDeleteRequestTopicPartition tssOffsetDeleteRequestTopicPartition tfsOffsetDeleteRequestTopicPartition 0 := ⟨told_num tyZ tellF ⟨by kernel_rfl, rfl, rfl⟩ (by kernel_rfl) (by kernel_rfl) fits_i32, trivial⟩
def gpOffsetDeleteRequestTopicPartition (fs : List FV) : PT := .mk 0 [] false (tfsOffsetDeleteRequestTopicPartition.map (· fs)) []
theorem toldOffsetDeleteRequestTopicPartition : TellOf P 50 tysOffsetDeleteRequestTopicPartition gpOffsetDeleteRequestTopicPartition := told_of (S := 97) (N := 1) rdF tyZ tellF (by kernel_rfl) rfl (by decide) tsokOffsetDeleteRequestTopicPartition

def tysOffsetDeleteRequestTopic : List Ty := [.text, .list (tysOffsetDeleteRequestTopicPartition)]
def lsOffsetDeleteRequestTopic : List Nat := [1, 1]
def zfOffsetDeleteRequestTopic : List FV := [.text [], .list true []]
def dfOffsetDeleteRequestTopic : List FV := [.text [], .list true []]
def dsOffsetDeleteRequestTopic : List Dset := []
theorem dsokOffsetDeleteRequestTopic : DsetsOk P 79 lsOffsetDeleteRequestTopic dsOffsetDeleteRequestTopic := trivial
theorem defOffsetDeleteRequestTopic : DefSets P 47 lsOffsetDeleteRequestTopic dsOffsetDeleteRequestTopic := default_gives rdF.mix (by kernel_rfl) dsokOffsetDeleteRequestTopic
theorem dokOffsetDeleteRequestTopic : DefOk P 47 79 dfOffsetDeleteRequestTopic := DefSets.ok (z := .agg ⟨[.string (strOf []), .slice none 0 0]⟩) (zfs := zfOffsetDeleteRequestTopic) (dc := [.string (strOf []), .slice none 0 0]) defOffsetDeleteRequestTopic (by kernel_rfl) (by kernel_rfl) rfl rfl rfl (by kernel_rfl)
def tfsOffsetDeleteRequestTopic : List (List FV → PT) := [fun fs => tellPrim (fvGet fs 0), fun fs => tellList gpOffsetDeleteRequestTopicPartition (fvGet fs 1)]
def tssOffsetDeleteRequestTopic : List TStep := [.text 0 0, .list 1 77 1 (.sub 50)]
theorem tsokOffsetDeleteRequestTopic : StepsTell P N 79 tysOffsetDeleteRequestTopic tssOffsetDeleteRequestTopic tfsOffsetDeleteRequestTopic 0 := ⟨told_text rdF tyZ tellF oneStr ⟨by kernel_rfl, rfl, rfl⟩, told_list (T := 97) rdF tyZ tellF ⟨by kernel_rfl, rfl, rfl⟩ (by kernel_rfl) (by kernel_rfl) (by kernel_rfl) rfl (el_sub toldOffsetDeleteRequestTopicPartition), trivial⟩
def gpOffsetDeleteRequestTopic (fs : List FV) : PT := .mk 0 [] false (tfsOffsetDeleteRequestTopic.map (· fs)) []
theorem toldOffsetDeleteRequestTopic : TellOf P 33 tysOffsetDeleteRequestTopic gpOffsetDeleteRequestTopic := told_of (S := 79) (N := 2) rdF tyZ tellF (by kernel_rfl) rfl (by decide) tsokOffsetDeleteRequestTopic

def tysOffsetDeleteRequest : List Ty := [.num .i16, .text, .list (tysOffsetDeleteRequestTopic)]
def lsOffsetDeleteRequest : List Nat := [1, 1, 1]
def zfOffsetDeleteRequest : List FV := [.one (.int .i16 0), .text [], .list true []]
def dfOffsetDeleteRequest : List FV := [.one (.int .i16 0), .text [], .list true []]
def dsOffsetDeleteRequest : List Dset := []
theorem dsokOffsetDeleteRequest : DsetsOk P 73 lsOffsetDeleteRequest dsOffsetDeleteRequest := trivial
theorem defOffsetDeleteRequest : DefSets P 30 lsOffsetDeleteRequest dsOffsetDeleteRequest := default_gives rdF.mix (by kernel_rfl) dsokOffsetDeleteRequest
theorem dokOffsetDeleteRequest : DefOk P 30 73 dfOffsetDeleteRequest := DefSets.ok (z := .agg ⟨[.int .i16 0, .string (strOf []), .slice none 0 0]⟩) (zfs := zfOffsetDeleteRequest) (dc := [.int .i16 0, .string (strOf []), .slice none 0 0]) defOffsetDeleteRequest (by kernel_rfl) (by kernel_rfl) rfl rfl rfl (by kernel_rfl)
def tfsOffsetDeleteRequest : List (List FV → PT) := [fun fs => tellPrim (fvGet fs 1), fun fs => tellList gpOffsetDeleteRequestTopic (fvGet fs 2)]
def tssOffsetDeleteRequest : List TStep := [.text 1 0, .list 2 71 1 (.sub 33)]
theorem tsokOffsetDeleteRequest : StepsTell P N 73 tysOffsetDeleteRequest tssOffsetDeleteRequest tfsOffsetDeleteRequest 0 := ⟨told_text rdF tyZ tellF oneStr ⟨by kernel_rfl, rfl, rfl⟩, told_list (T := 79) rdF tyZ tellF ⟨by kernel_rfl, rfl, rfl⟩ (by kernel_rfl) (by kernel_rfl) (by kernel_rfl) rfl (el_sub toldOffsetDeleteRequestTopic), trivial⟩
def gpOffsetDeleteRequest (fs : List FV) : PT := .mk 0 [] false (tfsOffsetDeleteRequest.map (· fs)) []
theorem toldOffsetDeleteRequest : TellOf P 19 tysOffsetDeleteRequest gpOffsetDeleteRequest := told_of (S := 73) (N := 2) rdF tyZ tellF (by kernel_rfl) rfl (by decide) tsokOffsetDeleteRequest

end Go.Proofs.YtkeeecooikahpaaDoor
