/- ConsumerMemberMetadata: its fields, how it is read and told. -/
import Derived.Test.YtmficcifapfkdabDoorParts
namespace Go.Proofs.YtmficcifapfkdabDoor
open Go Go.Kf

def tysConsumerMemberMetadataOwnedPartition : List Ty := [.text, .list [.num .i32]]
def lsConsumerMemberMetadataOwnedPartition : List Nat := [1, 1]
def zfConsumerMemberMetadataOwnedPartition : List FV := [.text [], .list true []]
def dfConsumerMemberMetadataOwnedPartition : List FV := [.text [], .list true []]
def dsConsumerMemberMetadataOwnedPartition : List Dset := []
theorem dsokConsumerMemberMetadataOwnedPartition : DsetsOk P 78 lsConsumerMemberMetadataOwnedPartition dsConsumerMemberMetadataOwnedPartition := trivial
theorem defConsumerMemberMetadataOwnedPartition : DefSets P 45 lsConsumerMemberMetadataOwnedPartition dsConsumerMemberMetadataOwnedPartition := default_gives rdF.mix (by kernel_rfl) dsokConsumerMemberMetadataOwnedPartition
theorem dokConsumerMemberMetadataOwnedPartition : DefOk P 45 78 dfConsumerMemberMetadataOwnedPartition := DefSets.ok (z := .agg ⟨[.string (strOf []), .slice none 0 0]⟩) (zfs := zfConsumerMemberMetadataOwnedPartition) (dc := [.string (strOf []), .slice none 0 0]) defConsumerMemberMetadataOwnedPartition (by kernel_rfl) (by kernel_rfl) rfl rfl rfl (by kernel_rfl)
def tfsConsumerMemberMetadataOwnedPartition : List (List FV → PT) := [fun fs => tellPrim (fvGet fs 0), fun fs => tellList (fun r => tellPrim (fvGet r 0)) (fvGet fs 1)]
def tssConsumerMemberMetadataOwnedPartition : List TStep := [.text 0 0, .list 1 76 1 (.num 21)]
theorem tsokConsumerMemberMetadataOwnedPartition : StepsTell P N 78 tysConsumerMemberMetadataOwnedPartition tssConsumerMemberMetadataOwnedPartition tfsConsumerMemberMetadataOwnedPartition 0 := ⟨told_text rdF tyZ tellF oneStr ⟨by kernel_rfl, rfl, rfl⟩, told_list (T := 21) rdF tyZ tellF ⟨by kernel_rfl, rfl, rfl⟩ (by kernel_rfl) (by kernel_rfl) (by kernel_rfl) rfl (el_num (by kernel_rfl) (by kernel_rfl) fits_i32), trivial⟩
def gpConsumerMemberMetadataOwnedPartition (fs : List FV) : PT := .mk 0 [] false (tfsConsumerMemberMetadataOwnedPartition.map (· fs)) []
theorem toldConsumerMemberMetadataOwnedPartition : TellOf P 30 tysConsumerMemberMetadataOwnedPartition gpConsumerMemberMetadataOwnedPartition := told_of (S := 78) (N := 2) rdF tyZ tellF (by kernel_rfl) rfl (by decide) tsokConsumerMemberMetadataOwnedPartition

def tysConsumerMemberMetadata : List Ty := [.num .i16, .list [.text], .octs, .list (tysConsumerMemberMetadataOwnedPartition), .num .i32, .ntext]
def lsConsumerMemberMetadata : List Nat := [1, 1, 1, 1, 1, 1]
def zfConsumerMemberMetadata : List FV := [.one (.int .i16 0), .list true [], .octs true [], .list true [], .one (.int .i32 0), .ntext none]
def dfConsumerMemberMetadata : List FV := [.one (.int .i16 0), .list true [], .octs true [], .list true [], .one (.int .i32 (-1)), .ntext none]
def dsConsumerMemberMetadata : List Dset := [.set 4 21 4 (.int .i32 (-1))]
theorem dsokConsumerMemberMetadata : DsetsOk P 52 lsConsumerMemberMetadata dsConsumerMemberMetadata := ⟨⟨⟨by kernel_rfl, rfl, rfl⟩, by kernel_rfl, rfl⟩, trivial⟩
theorem defConsumerMemberMetadata : DefSets P 27 lsConsumerMemberMetadata dsConsumerMemberMetadata := default_gives rdF.mix (by kernel_rfl) dsokConsumerMemberMetadata
theorem dokConsumerMemberMetadata : DefOk P 27 52 dfConsumerMemberMetadata := DefSets.ok (z := .agg ⟨[.int .i16 0, .slice none 0 0, .slice none 0 0, .slice none 0 0, .int .i32 0, .pointer none]⟩) (zfs := zfConsumerMemberMetadata) (dc := [.int .i16 0, .slice none 0 0, .slice none 0 0, .slice none 0 0, .int .i32 (-1), .pointer none]) defConsumerMemberMetadata (by kernel_rfl) (by kernel_rfl) rfl rfl rfl (by kernel_rfl)
def tfsConsumerMemberMetadata : List (List FV → PT) := [fun fs => tellList (fun r => tellPrim (fvGet r 0)) (fvGet fs 1), fun fs => tellPrim (fvGet fs 2), fun fs => tellList gpConsumerMemberMetadataOwnedPartition (fvGet fs 3), fun fs => tellPrim (fvGet fs 4), fun fs => tellPrim (fvGet fs 5)]
def tssConsumerMemberMetadata : List TStep := [.list 1 48 0 (.text), .call 29 2 22 1, .list 3 49 2 (.sub 30), .num 4 21 3, .call 31 5 50 4]
theorem tsokConsumerMemberMetadata : StepsTell P N 52 tysConsumerMemberMetadata tssConsumerMemberMetadata tfsConsumerMemberMetadata 0 := ⟨told_list (T := 9) rdF tyZ tellF ⟨by kernel_rfl, rfl, rfl⟩ (by kernel_rfl) (by kernel_rfl) (by kernel_rfl) rfl (el_text oneStr), told_call tyZ ⟨by kernel_rfl, rfl, rfl⟩ (by kernel_rfl) cOcts, told_list (T := 78) rdF tyZ tellF ⟨by kernel_rfl, rfl, rfl⟩ (by kernel_rfl) (by kernel_rfl) (by kernel_rfl) rfl (el_sub toldConsumerMemberMetadataOwnedPartition), told_num tyZ tellF ⟨by kernel_rfl, rfl, rfl⟩ (by kernel_rfl) (by kernel_rfl) fits_i32, told_call tyZ ⟨by kernel_rfl, rfl, rfl⟩ (by kernel_rfl) cText, trivial⟩
def gpConsumerMemberMetadata (fs : List FV) : PT := .mk 0 [] false (tfsConsumerMemberMetadata.map (· fs)) []
theorem toldConsumerMemberMetadata : TellOf P 15 tysConsumerMemberMetadata gpConsumerMemberMetadata := told_of (S := 52) (N := 5) rdF tyZ tellF (by kernel_rfl) rfl (by decide) tsokConsumerMemberMetadata

end Go.Proofs.YtmficcifapfkdabDoor
