/-
  NARROWER THAN 'FOR EVERY INPUT', by the rows' own cells (each row's printed sentence says how): FnDefaultAlterPartitionAssignmentsResponse: loops, laid · FnDefaultDescribeClusterResponse: loops, laid · FnDefaultVoteRequest: loops, laid · FnDefaultBrokerRegistrationRequest: loops, laid · FnTellMetadataRequest: loops, laid · FnTellAddPartitionsToTxnRequest: loops, laid · FnTellShareGroupHeartbeatResponse: loops, laid.
  DERIVED. THE GIVEN ROWS OF THIS SEAT. 7 by the template 'for every input the law returns true; each argument reads behind the call as it read before'; 0 by the template 'total and deterministic' (their statements: YtcbpjflgkefidaaGreatDoorTotals.lean).
  GIVEN WITH THE SEED: the statements are not yours to turn. If you find one false, say at which input.
  Laid BY PROGRAM, IN A SANDBOX (cutbox-rows.mjs): the forced cells as the released guide's own fill.sh prints them over the translation 479ca1fcdb56aff6… (all of the seat's roots in one cut). By AI agents, Wed Nov 11 2026. No macro, syntax, notation, axiom, sorry.
-/
import Derived.Test.YtcbpjflgkefidaaGreatDoorChecked
import GoSem.Claim
import GoSem.ClaimJoined
import GoSem.ClaimMapViews
import Derived.JoinedTies
import Derived.KernelRfl
namespace Go.Proofs.YtcbpjflgkefidaaGreatDoor
/- THE CELL 'sum', in the pinned program and in every row, IS THE sha256 OF THE DUMP (.gsa) THAT YtcbpjflgkefidaaGreatDoorProg.lean LOADS. Nothing in Lean hashes anything: it is a label: what it is worth is what the hold of that sum in a sandbox is worth. -/
noncomputable def Tryz.pinned : Pinned := { name := "ytcbpjflgkefidaagreatdoor", sum := "479ca1fcdb56aff6c21adedba157644e3e8427ee6d2751f7b377fe50570fe7e0", checked := Tryz.checked }
namespace Rows
def none {H : Type} : Left H := { results := [], args := [] }

/- WHAT THE LISTED PACKAGE-LEVEL VARIABLES READ AS WHEN THE CALL BEGINS. Each datum BY PROGRAM (the guide's laid-datum.mjs) off the statement by which the dump's own 'gosem.cut.vars' lays the variable. In a bare row this is a premise. The card (YtcbpjflgkefidaaGreatDoorCards.lean) ties it to the program's text. -/
def laid_pub_mailsack_pub_kmsg_inner_kbin_ErrNotEnoughData {H : Type} : DataW H := .iface "*errors.errorString" (.ptr (.agg [.lit (.string [114, 101, 115, 112, 111, 110, 115, 101, 32, 100, 105, 100, 32, 110, 111, 116, 32, 99, 111, 110, 116, 97, 105, 110, 32, 101, 110, 111, 117, 103, 104, 32, 100, 97, 116, 97, 32, 116, 111, 32, 98, 101, 32, 118, 97, 108, 105, 100])]))

/-- 'laws.FnDefaultAlterPartitionAssignmentsResponse': WHATEVER THE INPUT: true; the input reads as it did. -/
def fnDefaultAlterPartitionAssignmentsResponseSpec : ChangeSpec := { name := "fnDefaultAlterPartitionAssignmentsResponse", fn := fun _ => fun
  | [d1, d2] => { results := [.lit (.bool true)], args := [d1, d2] }
  | _ => none }
def fnDefaultAlterPartitionAssignmentsResponseRow : OpenClaim := { program := "ytcbpjflgkefidaagreatdoor", sum := "479ca1fcdb56aff6c21adedba157644e3e8427ee6d2751f7b377fe50570fe7e0", func := "pub-mailsack/laws.FnDefaultAlterPartitionAssignmentsResponse", spec := "fnDefaultAlterPartitionAssignmentsResponse", inPlace := ["internal/reflectlite.ValueOf", "internal/reflectlite.Swapper", "(internal/reflectlite.Value).Len"], unfollowed := true, recurses := true, named := ["encoding/binary.BigEndian", "pub-mailsack/pub/kmsg/inner/kbin.ErrNotEnoughData"], loops := true, apart := false, laid := [("pub-mailsack/pub/kmsg/inner/kbin.ErrNotEnoughData", laid_pub_mailsack_pub_kmsg_inner_kbin_ErrNotEnoughData)] }
def FnDefaultAlterPartitionAssignmentsResponseSaid : Prop := fnDefaultAlterPartitionAssignmentsResponseRow.holds Tryz.pinned (OpenSpec.ofChange fnDefaultAlterPartitionAssignmentsResponseSpec)

/-- ITS FALSE NEIGHBOUR: 'it returns false'. Refute it at one input. -/
def fnDefaultAlterPartitionAssignmentsResponseWrong : ChangeSpec := { name := "fnDefaultAlterPartitionAssignmentsResponse", fn := fun _ => fun
  | [d1, d2] => { results := [.lit (.bool false)], args := [d1, d2] }
  | _ => none }
def FnDefaultAlterPartitionAssignmentsResponseWrongFalsely : Prop := fnDefaultAlterPartitionAssignmentsResponseRow.holds Tryz.pinned (OpenSpec.ofChange fnDefaultAlterPartitionAssignmentsResponseWrong)

/-- 'laws.FnDefaultDescribeClusterResponse': WHATEVER THE INPUT: true; the input reads as it did. -/
def fnDefaultDescribeClusterResponseSpec : ChangeSpec := { name := "fnDefaultDescribeClusterResponse", fn := fun _ => fun
  | [d1, d2] => { results := [.lit (.bool true)], args := [d1, d2] }
  | _ => none }
def fnDefaultDescribeClusterResponseRow : OpenClaim := { program := "ytcbpjflgkefidaagreatdoor", sum := "479ca1fcdb56aff6c21adedba157644e3e8427ee6d2751f7b377fe50570fe7e0", func := "pub-mailsack/laws.FnDefaultDescribeClusterResponse", spec := "fnDefaultDescribeClusterResponse", inPlace := ["internal/reflectlite.ValueOf", "internal/reflectlite.Swapper", "(internal/reflectlite.Value).Len"], unfollowed := true, recurses := true, named := ["encoding/binary.BigEndian", "pub-mailsack/pub/kmsg/inner/kbin.ErrNotEnoughData"], loops := true, apart := false, laid := [("pub-mailsack/pub/kmsg/inner/kbin.ErrNotEnoughData", laid_pub_mailsack_pub_kmsg_inner_kbin_ErrNotEnoughData)] }
def FnDefaultDescribeClusterResponseSaid : Prop := fnDefaultDescribeClusterResponseRow.holds Tryz.pinned (OpenSpec.ofChange fnDefaultDescribeClusterResponseSpec)

/-- ITS FALSE NEIGHBOUR: 'it returns false'. Refute it at one input. -/
def fnDefaultDescribeClusterResponseWrong : ChangeSpec := { name := "fnDefaultDescribeClusterResponse", fn := fun _ => fun
  | [d1, d2] => { results := [.lit (.bool false)], args := [d1, d2] }
  | _ => none }
def FnDefaultDescribeClusterResponseWrongFalsely : Prop := fnDefaultDescribeClusterResponseRow.holds Tryz.pinned (OpenSpec.ofChange fnDefaultDescribeClusterResponseWrong)

/-- 'laws.FnDefaultVoteRequest': WHATEVER THE INPUT: true; the input reads as it did. -/
def fnDefaultVoteRequestSpec : ChangeSpec := { name := "fnDefaultVoteRequest", fn := fun _ => fun
  | [d1, d2] => { results := [.lit (.bool true)], args := [d1, d2] }
  | _ => none }
def fnDefaultVoteRequestRow : OpenClaim := { program := "ytcbpjflgkefidaagreatdoor", sum := "479ca1fcdb56aff6c21adedba157644e3e8427ee6d2751f7b377fe50570fe7e0", func := "pub-mailsack/laws.FnDefaultVoteRequest", spec := "fnDefaultVoteRequest", inPlace := ["internal/reflectlite.ValueOf", "internal/reflectlite.Swapper", "(internal/reflectlite.Value).Len"], unfollowed := true, recurses := true, named := ["encoding/binary.BigEndian", "pub-mailsack/pub/kmsg/inner/kbin.ErrNotEnoughData"], loops := true, apart := false, laid := [("pub-mailsack/pub/kmsg/inner/kbin.ErrNotEnoughData", laid_pub_mailsack_pub_kmsg_inner_kbin_ErrNotEnoughData)] }
def FnDefaultVoteRequestSaid : Prop := fnDefaultVoteRequestRow.holds Tryz.pinned (OpenSpec.ofChange fnDefaultVoteRequestSpec)

/-- ITS FALSE NEIGHBOUR: 'it returns false'. Refute it at one input. -/
def fnDefaultVoteRequestWrong : ChangeSpec := { name := "fnDefaultVoteRequest", fn := fun _ => fun
  | [d1, d2] => { results := [.lit (.bool false)], args := [d1, d2] }
  | _ => none }
def FnDefaultVoteRequestWrongFalsely : Prop := fnDefaultVoteRequestRow.holds Tryz.pinned (OpenSpec.ofChange fnDefaultVoteRequestWrong)

/-- 'laws.FnDefaultBrokerRegistrationRequest': WHATEVER THE INPUT: true; the input reads as it did. -/
def fnDefaultBrokerRegistrationRequestSpec : ChangeSpec := { name := "fnDefaultBrokerRegistrationRequest", fn := fun _ => fun
  | [d1, d2] => { results := [.lit (.bool true)], args := [d1, d2] }
  | _ => none }
def fnDefaultBrokerRegistrationRequestRow : OpenClaim := { program := "ytcbpjflgkefidaagreatdoor", sum := "479ca1fcdb56aff6c21adedba157644e3e8427ee6d2751f7b377fe50570fe7e0", func := "pub-mailsack/laws.FnDefaultBrokerRegistrationRequest", spec := "fnDefaultBrokerRegistrationRequest", inPlace := ["internal/reflectlite.ValueOf", "internal/reflectlite.Swapper", "(internal/reflectlite.Value).Len"], unfollowed := true, recurses := true, named := ["encoding/binary.BigEndian", "pub-mailsack/pub/kmsg/inner/kbin.ErrNotEnoughData"], loops := true, apart := false, laid := [("pub-mailsack/pub/kmsg/inner/kbin.ErrNotEnoughData", laid_pub_mailsack_pub_kmsg_inner_kbin_ErrNotEnoughData)] }
def FnDefaultBrokerRegistrationRequestSaid : Prop := fnDefaultBrokerRegistrationRequestRow.holds Tryz.pinned (OpenSpec.ofChange fnDefaultBrokerRegistrationRequestSpec)

/-- ITS FALSE NEIGHBOUR: 'it returns false'. Refute it at one input. -/
def fnDefaultBrokerRegistrationRequestWrong : ChangeSpec := { name := "fnDefaultBrokerRegistrationRequest", fn := fun _ => fun
  | [d1, d2] => { results := [.lit (.bool false)], args := [d1, d2] }
  | _ => none }
def FnDefaultBrokerRegistrationRequestWrongFalsely : Prop := fnDefaultBrokerRegistrationRequestRow.holds Tryz.pinned (OpenSpec.ofChange fnDefaultBrokerRegistrationRequestWrong)

/-- 'laws.FnTellMetadataRequest': WHATEVER THE INPUT: true; the input reads as it did. -/
def fnTellMetadataRequestSpec : ChangeSpec := { name := "fnTellMetadataRequest", fn := fun _ => fun
  | [d1, d2] => { results := [.lit (.bool true)], args := [d1, d2] }
  | _ => none }
def fnTellMetadataRequestRow : OpenClaim := { program := "ytcbpjflgkefidaagreatdoor", sum := "479ca1fcdb56aff6c21adedba157644e3e8427ee6d2751f7b377fe50570fe7e0", func := "pub-mailsack/laws.FnTellMetadataRequest", spec := "fnTellMetadataRequest", inPlace := ["internal/reflectlite.ValueOf", "internal/reflectlite.Swapper", "(internal/reflectlite.Value).Len"], unfollowed := true, recurses := true, named := ["encoding/binary.BigEndian", "pub-mailsack/pub/kmsg/inner/kbin.ErrNotEnoughData"], loops := true, apart := false, laid := [("pub-mailsack/pub/kmsg/inner/kbin.ErrNotEnoughData", laid_pub_mailsack_pub_kmsg_inner_kbin_ErrNotEnoughData)] }
def FnTellMetadataRequestSaid : Prop := fnTellMetadataRequestRow.holds Tryz.pinned (OpenSpec.ofChange fnTellMetadataRequestSpec)

/-- ITS FALSE NEIGHBOUR: 'it returns false'. Refute it at one input. -/
def fnTellMetadataRequestWrong : ChangeSpec := { name := "fnTellMetadataRequest", fn := fun _ => fun
  | [d1, d2] => { results := [.lit (.bool false)], args := [d1, d2] }
  | _ => none }
def FnTellMetadataRequestWrongFalsely : Prop := fnTellMetadataRequestRow.holds Tryz.pinned (OpenSpec.ofChange fnTellMetadataRequestWrong)

/-- 'laws.FnTellAddPartitionsToTxnRequest': WHATEVER THE INPUT: true; the input reads as it did. -/
def fnTellAddPartitionsToTxnRequestSpec : ChangeSpec := { name := "fnTellAddPartitionsToTxnRequest", fn := fun _ => fun
  | [d1, d2] => { results := [.lit (.bool true)], args := [d1, d2] }
  | _ => none }
def fnTellAddPartitionsToTxnRequestRow : OpenClaim := { program := "ytcbpjflgkefidaagreatdoor", sum := "479ca1fcdb56aff6c21adedba157644e3e8427ee6d2751f7b377fe50570fe7e0", func := "pub-mailsack/laws.FnTellAddPartitionsToTxnRequest", spec := "fnTellAddPartitionsToTxnRequest", inPlace := ["internal/reflectlite.ValueOf", "internal/reflectlite.Swapper", "(internal/reflectlite.Value).Len"], unfollowed := true, recurses := true, named := ["encoding/binary.BigEndian", "pub-mailsack/pub/kmsg/inner/kbin.ErrNotEnoughData"], loops := true, apart := false, laid := [("pub-mailsack/pub/kmsg/inner/kbin.ErrNotEnoughData", laid_pub_mailsack_pub_kmsg_inner_kbin_ErrNotEnoughData)] }
def FnTellAddPartitionsToTxnRequestSaid : Prop := fnTellAddPartitionsToTxnRequestRow.holds Tryz.pinned (OpenSpec.ofChange fnTellAddPartitionsToTxnRequestSpec)

/-- ITS FALSE NEIGHBOUR: 'it returns false'. Refute it at one input. -/
def fnTellAddPartitionsToTxnRequestWrong : ChangeSpec := { name := "fnTellAddPartitionsToTxnRequest", fn := fun _ => fun
  | [d1, d2] => { results := [.lit (.bool false)], args := [d1, d2] }
  | _ => none }
def FnTellAddPartitionsToTxnRequestWrongFalsely : Prop := fnTellAddPartitionsToTxnRequestRow.holds Tryz.pinned (OpenSpec.ofChange fnTellAddPartitionsToTxnRequestWrong)

/-- 'laws.FnTellShareGroupHeartbeatResponse': WHATEVER THE INPUT: true; the input reads as it did. -/
def fnTellShareGroupHeartbeatResponseSpec : ChangeSpec := { name := "fnTellShareGroupHeartbeatResponse", fn := fun _ => fun
  | [d1, d2] => { results := [.lit (.bool true)], args := [d1, d2] }
  | _ => none }
def fnTellShareGroupHeartbeatResponseRow : OpenClaim := { program := "ytcbpjflgkefidaagreatdoor", sum := "479ca1fcdb56aff6c21adedba157644e3e8427ee6d2751f7b377fe50570fe7e0", func := "pub-mailsack/laws.FnTellShareGroupHeartbeatResponse", spec := "fnTellShareGroupHeartbeatResponse", inPlace := ["internal/reflectlite.ValueOf", "internal/reflectlite.Swapper", "(internal/reflectlite.Value).Len"], unfollowed := true, recurses := true, named := ["encoding/binary.BigEndian", "pub-mailsack/pub/kmsg/inner/kbin.ErrNotEnoughData"], loops := true, apart := false, laid := [("pub-mailsack/pub/kmsg/inner/kbin.ErrNotEnoughData", laid_pub_mailsack_pub_kmsg_inner_kbin_ErrNotEnoughData)] }
def FnTellShareGroupHeartbeatResponseSaid : Prop := fnTellShareGroupHeartbeatResponseRow.holds Tryz.pinned (OpenSpec.ofChange fnTellShareGroupHeartbeatResponseSpec)

/-- ITS FALSE NEIGHBOUR: 'it returns false'. Refute it at one input. -/
def fnTellShareGroupHeartbeatResponseWrong : ChangeSpec := { name := "fnTellShareGroupHeartbeatResponse", fn := fun _ => fun
  | [d1, d2] => { results := [.lit (.bool false)], args := [d1, d2] }
  | _ => none }
def FnTellShareGroupHeartbeatResponseWrongFalsely : Prop := fnTellShareGroupHeartbeatResponseRow.holds Tryz.pinned (OpenSpec.ofChange fnTellShareGroupHeartbeatResponseWrong)

/- THE SECOND FORM. 'bulk': how many values and letters a reading holds, each counted each time it is reached (what is shared counts as often as it is met; a slice's spare places count too). A statement '..UptoSaid' is the law's where the arguments, and the package variables that the reading takes, are together of bulk at most 1048576: NARROWER than '..Said'. Prove '..Said' where nothing that the law and all that it calls make is longer than what came in: it says more and counts as full. Else prove '..UptoSaid'. A law counts once. -/
mutual
def uptoBulk {H : Type} : DataW H → Nat
  | .lit (.string bytes) => bytes.length + 1
  | .lit _ => 1
  | .nil => 1
  | .ptr d => uptoBulk d + 1
  | .slice elems spare => uptoBulkAll elems + uptoBulkAll spare + 1
  | .agg parts => uptoBulkAll parts + 1
  | .iface _ d => uptoBulk d + 1
  | .map entries => uptoBulkEntries entries + 1
  | .held _ => 1
def uptoBulkAll {H : Type} : List (DataW H) → Nat
  | [] => 0
  | d :: r => uptoBulk d + uptoBulkAll r
def uptoBulkEntries {H : Type} : List (Lit × DataW H) → Nat
  | [] => 0
  | x :: r => uptoBulkEntry x + uptoBulkEntries r
def uptoBulkEntry {H : Type} : Lit × DataW H → Nat
  | (.string bytes, d) => bytes.length + uptoBulk d + 1
  | (_, d) => uptoBulk d + 1
 end
def uptoSmall : (H : Type) → List (DataW H) → Bool := fun _ ds => decide (uptoBulkAll ds ≤ 1048576)
def OpenSpec.upto (s : _root_.Go.ChangeSpec) : _root_.Go.OpenSpec := { _root_.Go.OpenSpec.ofChange s with cond := some uptoSmall }

/-- 'laws.FnDefaultAlterPartitionAssignmentsResponse', WHERE WHAT IT READS IS OF BULK AT MOST 1048576: true; the input reads as it did. -/
def fnDefaultAlterPartitionAssignmentsResponseUptoRow : OpenClaim := { program := "ytcbpjflgkefidaagreatdoor", sum := "479ca1fcdb56aff6c21adedba157644e3e8427ee6d2751f7b377fe50570fe7e0", func := "pub-mailsack/laws.FnDefaultAlterPartitionAssignmentsResponse", spec := "fnDefaultAlterPartitionAssignmentsResponse", inPlace := ["internal/reflectlite.ValueOf", "internal/reflectlite.Swapper", "(internal/reflectlite.Value).Len"], unfollowed := true, recurses := true, named := ["encoding/binary.BigEndian", "pub-mailsack/pub/kmsg/inner/kbin.ErrNotEnoughData"], loops := true, apart := false, laid := [("pub-mailsack/pub/kmsg/inner/kbin.ErrNotEnoughData", laid_pub_mailsack_pub_kmsg_inner_kbin_ErrNotEnoughData)], narrowed := true }
def FnDefaultAlterPartitionAssignmentsResponseUptoSaid : Prop := fnDefaultAlterPartitionAssignmentsResponseUptoRow.holds Tryz.pinned (OpenSpec.upto fnDefaultAlterPartitionAssignmentsResponseSpec)

/-- 'laws.FnDefaultDescribeClusterResponse', WHERE WHAT IT READS IS OF BULK AT MOST 1048576: true; the input reads as it did. -/
def fnDefaultDescribeClusterResponseUptoRow : OpenClaim := { program := "ytcbpjflgkefidaagreatdoor", sum := "479ca1fcdb56aff6c21adedba157644e3e8427ee6d2751f7b377fe50570fe7e0", func := "pub-mailsack/laws.FnDefaultDescribeClusterResponse", spec := "fnDefaultDescribeClusterResponse", inPlace := ["internal/reflectlite.ValueOf", "internal/reflectlite.Swapper", "(internal/reflectlite.Value).Len"], unfollowed := true, recurses := true, named := ["encoding/binary.BigEndian", "pub-mailsack/pub/kmsg/inner/kbin.ErrNotEnoughData"], loops := true, apart := false, laid := [("pub-mailsack/pub/kmsg/inner/kbin.ErrNotEnoughData", laid_pub_mailsack_pub_kmsg_inner_kbin_ErrNotEnoughData)], narrowed := true }
def FnDefaultDescribeClusterResponseUptoSaid : Prop := fnDefaultDescribeClusterResponseUptoRow.holds Tryz.pinned (OpenSpec.upto fnDefaultDescribeClusterResponseSpec)

/-- 'laws.FnDefaultVoteRequest', WHERE WHAT IT READS IS OF BULK AT MOST 1048576: true; the input reads as it did. -/
def fnDefaultVoteRequestUptoRow : OpenClaim := { program := "ytcbpjflgkefidaagreatdoor", sum := "479ca1fcdb56aff6c21adedba157644e3e8427ee6d2751f7b377fe50570fe7e0", func := "pub-mailsack/laws.FnDefaultVoteRequest", spec := "fnDefaultVoteRequest", inPlace := ["internal/reflectlite.ValueOf", "internal/reflectlite.Swapper", "(internal/reflectlite.Value).Len"], unfollowed := true, recurses := true, named := ["encoding/binary.BigEndian", "pub-mailsack/pub/kmsg/inner/kbin.ErrNotEnoughData"], loops := true, apart := false, laid := [("pub-mailsack/pub/kmsg/inner/kbin.ErrNotEnoughData", laid_pub_mailsack_pub_kmsg_inner_kbin_ErrNotEnoughData)], narrowed := true }
def FnDefaultVoteRequestUptoSaid : Prop := fnDefaultVoteRequestUptoRow.holds Tryz.pinned (OpenSpec.upto fnDefaultVoteRequestSpec)

/-- 'laws.FnDefaultBrokerRegistrationRequest', WHERE WHAT IT READS IS OF BULK AT MOST 1048576: true; the input reads as it did. -/
def fnDefaultBrokerRegistrationRequestUptoRow : OpenClaim := { program := "ytcbpjflgkefidaagreatdoor", sum := "479ca1fcdb56aff6c21adedba157644e3e8427ee6d2751f7b377fe50570fe7e0", func := "pub-mailsack/laws.FnDefaultBrokerRegistrationRequest", spec := "fnDefaultBrokerRegistrationRequest", inPlace := ["internal/reflectlite.ValueOf", "internal/reflectlite.Swapper", "(internal/reflectlite.Value).Len"], unfollowed := true, recurses := true, named := ["encoding/binary.BigEndian", "pub-mailsack/pub/kmsg/inner/kbin.ErrNotEnoughData"], loops := true, apart := false, laid := [("pub-mailsack/pub/kmsg/inner/kbin.ErrNotEnoughData", laid_pub_mailsack_pub_kmsg_inner_kbin_ErrNotEnoughData)], narrowed := true }
def FnDefaultBrokerRegistrationRequestUptoSaid : Prop := fnDefaultBrokerRegistrationRequestUptoRow.holds Tryz.pinned (OpenSpec.upto fnDefaultBrokerRegistrationRequestSpec)

/-- 'laws.FnTellMetadataRequest', WHERE WHAT IT READS IS OF BULK AT MOST 1048576: true; the input reads as it did. -/
def fnTellMetadataRequestUptoRow : OpenClaim := { program := "ytcbpjflgkefidaagreatdoor", sum := "479ca1fcdb56aff6c21adedba157644e3e8427ee6d2751f7b377fe50570fe7e0", func := "pub-mailsack/laws.FnTellMetadataRequest", spec := "fnTellMetadataRequest", inPlace := ["internal/reflectlite.ValueOf", "internal/reflectlite.Swapper", "(internal/reflectlite.Value).Len"], unfollowed := true, recurses := true, named := ["encoding/binary.BigEndian", "pub-mailsack/pub/kmsg/inner/kbin.ErrNotEnoughData"], loops := true, apart := false, laid := [("pub-mailsack/pub/kmsg/inner/kbin.ErrNotEnoughData", laid_pub_mailsack_pub_kmsg_inner_kbin_ErrNotEnoughData)], narrowed := true }
def FnTellMetadataRequestUptoSaid : Prop := fnTellMetadataRequestUptoRow.holds Tryz.pinned (OpenSpec.upto fnTellMetadataRequestSpec)

/-- 'laws.FnTellAddPartitionsToTxnRequest', WHERE WHAT IT READS IS OF BULK AT MOST 1048576: true; the input reads as it did. -/
def fnTellAddPartitionsToTxnRequestUptoRow : OpenClaim := { program := "ytcbpjflgkefidaagreatdoor", sum := "479ca1fcdb56aff6c21adedba157644e3e8427ee6d2751f7b377fe50570fe7e0", func := "pub-mailsack/laws.FnTellAddPartitionsToTxnRequest", spec := "fnTellAddPartitionsToTxnRequest", inPlace := ["internal/reflectlite.ValueOf", "internal/reflectlite.Swapper", "(internal/reflectlite.Value).Len"], unfollowed := true, recurses := true, named := ["encoding/binary.BigEndian", "pub-mailsack/pub/kmsg/inner/kbin.ErrNotEnoughData"], loops := true, apart := false, laid := [("pub-mailsack/pub/kmsg/inner/kbin.ErrNotEnoughData", laid_pub_mailsack_pub_kmsg_inner_kbin_ErrNotEnoughData)], narrowed := true }
def FnTellAddPartitionsToTxnRequestUptoSaid : Prop := fnTellAddPartitionsToTxnRequestUptoRow.holds Tryz.pinned (OpenSpec.upto fnTellAddPartitionsToTxnRequestSpec)

/-- 'laws.FnTellShareGroupHeartbeatResponse', WHERE WHAT IT READS IS OF BULK AT MOST 1048576: true; the input reads as it did. -/
def fnTellShareGroupHeartbeatResponseUptoRow : OpenClaim := { program := "ytcbpjflgkefidaagreatdoor", sum := "479ca1fcdb56aff6c21adedba157644e3e8427ee6d2751f7b377fe50570fe7e0", func := "pub-mailsack/laws.FnTellShareGroupHeartbeatResponse", spec := "fnTellShareGroupHeartbeatResponse", inPlace := ["internal/reflectlite.ValueOf", "internal/reflectlite.Swapper", "(internal/reflectlite.Value).Len"], unfollowed := true, recurses := true, named := ["encoding/binary.BigEndian", "pub-mailsack/pub/kmsg/inner/kbin.ErrNotEnoughData"], loops := true, apart := false, laid := [("pub-mailsack/pub/kmsg/inner/kbin.ErrNotEnoughData", laid_pub_mailsack_pub_kmsg_inner_kbin_ErrNotEnoughData)], narrowed := true }
def FnTellShareGroupHeartbeatResponseUptoSaid : Prop := fnTellShareGroupHeartbeatResponseUptoRow.holds Tryz.pinned (OpenSpec.upto fnTellShareGroupHeartbeatResponseSpec)

end Rows
end Go.Proofs.YtcbpjflgkefidaaGreatDoor
