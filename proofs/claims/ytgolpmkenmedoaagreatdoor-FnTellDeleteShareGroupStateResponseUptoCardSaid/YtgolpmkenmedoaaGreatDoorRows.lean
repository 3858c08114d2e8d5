/-
  NARROWER THAN 'FOR EVERY INPUT', by the rows' own cells (each row's printed sentence says how): FnTellDescribeUserSCRAMCredentialsRequest: loops, laid · FnTellDeleteShareGroupOffsetsRequest: loops, laid · FnTellDescribeACLsRequest: loops, laid · FnTellCreatePartitionsResponse: loops, laid · FnTellDeleteGroupsResponse: loops, laid · FnTellAssignReplicasToDirsResponse: loops, laid · FnTellDeleteShareGroupStateResponse: loops, laid · FnTellDescribeShareGroupOffsetsRequest: loops, laid · FnTellDeleteACLsRequest: loops, laid · FnTellListPartitionReassignmentsResponse: loops, laid.
  DERIVED. THE GIVEN ROWS OF THIS SEAT. 10 by the template 'for every input the law returns true; each argument reads behind the call as it read before'; 0 by the template 'total and deterministic' (their statements: YtgolpmkenmedoaaGreatDoorTotals.lean).
  GIVEN WITH THE SEED: the statements are not yours to turn. If you find one false, say at which input.
  Laid BY PROGRAM, IN A SANDBOX (cutbox-rows.mjs): the forced cells as the released guide's own fill.sh prints them over the translation 3fa03e2d16b0e695… (all of the seat's roots in one cut). By AI agents, Wed Nov 11 2026. No macro, syntax, notation, axiom, sorry.
-/
import Derived.Test.YtgolpmkenmedoaaGreatDoorChecked
import GoSem.Claim
import GoSem.ClaimJoined
import GoSem.ClaimMapViews
import Derived.JoinedTies
import Derived.KernelRfl
namespace Go.Proofs.YtgolpmkenmedoaaGreatDoor
/- THE CELL 'sum', in the pinned program and in every row, IS THE sha256 OF THE DUMP (.gsa) THAT YtgolpmkenmedoaaGreatDoorProg.lean LOADS. Nothing in Lean hashes anything: it is a label: what it is worth is what the hold of that sum in a sandbox is worth. -/
noncomputable def Tryz.pinned : Pinned := { name := "ytgolpmkenmedoaagreatdoor", sum := "3fa03e2d16b0e695fc06e10e141cfab8edeae5837148f9ad378454a2c6b36035", checked := Tryz.checked }
namespace Rows
def none {H : Type} : Left H := { results := [], args := [] }

/- WHAT THE LISTED PACKAGE-LEVEL VARIABLES READ AS WHEN THE CALL BEGINS. Each datum BY PROGRAM (the guide's laid-datum.mjs) off the statement by which the dump's own 'gosem.cut.vars' lays the variable. In a bare row this is a premise. The card (YtgolpmkenmedoaaGreatDoorCards.lean) ties it to the program's text. -/
def laid_pub_mailsack_pub_kmsg_inner_kbin_ErrNotEnoughData {H : Type} : DataW H := .iface "*errors.errorString" (.ptr (.agg [.lit (.string [114, 101, 115, 112, 111, 110, 115, 101, 32, 100, 105, 100, 32, 110, 111, 116, 32, 99, 111, 110, 116, 97, 105, 110, 32, 101, 110, 111, 117, 103, 104, 32, 100, 97, 116, 97, 32, 116, 111, 32, 98, 101, 32, 118, 97, 108, 105, 100])]))

/-- 'laws.FnTellDescribeUserSCRAMCredentialsRequest': WHATEVER THE INPUT: true; the input reads as it did. -/
def fnTellDescribeUserSCRAMCredentialsRequestSpec : ChangeSpec := { name := "fnTellDescribeUserSCRAMCredentialsRequest", fn := fun _ => fun
  | [d1, d2] => { results := [.lit (.bool true)], args := [d1, d2] }
  | _ => none }
def fnTellDescribeUserSCRAMCredentialsRequestRow : OpenClaim := { program := "ytgolpmkenmedoaagreatdoor", sum := "3fa03e2d16b0e695fc06e10e141cfab8edeae5837148f9ad378454a2c6b36035", func := "pub-mailsack/laws.FnTellDescribeUserSCRAMCredentialsRequest", spec := "fnTellDescribeUserSCRAMCredentialsRequest", inPlace := ["internal/reflectlite.ValueOf", "internal/reflectlite.Swapper", "(internal/reflectlite.Value).Len"], unfollowed := true, recurses := true, named := ["encoding/binary.BigEndian", "pub-mailsack/pub/kmsg/inner/kbin.ErrNotEnoughData"], loops := true, apart := false, laid := [("pub-mailsack/pub/kmsg/inner/kbin.ErrNotEnoughData", laid_pub_mailsack_pub_kmsg_inner_kbin_ErrNotEnoughData)] }
def FnTellDescribeUserSCRAMCredentialsRequestSaid : Prop := fnTellDescribeUserSCRAMCredentialsRequestRow.holds Tryz.pinned (OpenSpec.ofChange fnTellDescribeUserSCRAMCredentialsRequestSpec)

/-- ITS FALSE NEIGHBOUR: 'it returns false'. Refute it at one input. -/
def fnTellDescribeUserSCRAMCredentialsRequestWrong : ChangeSpec := { name := "fnTellDescribeUserSCRAMCredentialsRequest", fn := fun _ => fun
  | [d1, d2] => { results := [.lit (.bool false)], args := [d1, d2] }
  | _ => none }
def FnTellDescribeUserSCRAMCredentialsRequestWrongFalsely : Prop := fnTellDescribeUserSCRAMCredentialsRequestRow.holds Tryz.pinned (OpenSpec.ofChange fnTellDescribeUserSCRAMCredentialsRequestWrong)

/-- 'laws.FnTellDeleteShareGroupOffsetsRequest': WHATEVER THE INPUT: true; the input reads as it did. -/
def fnTellDeleteShareGroupOffsetsRequestSpec : ChangeSpec := { name := "fnTellDeleteShareGroupOffsetsRequest", fn := fun _ => fun
  | [d1, d2] => { results := [.lit (.bool true)], args := [d1, d2] }
  | _ => none }
def fnTellDeleteShareGroupOffsetsRequestRow : OpenClaim := { program := "ytgolpmkenmedoaagreatdoor", sum := "3fa03e2d16b0e695fc06e10e141cfab8edeae5837148f9ad378454a2c6b36035", func := "pub-mailsack/laws.FnTellDeleteShareGroupOffsetsRequest", spec := "fnTellDeleteShareGroupOffsetsRequest", inPlace := ["internal/reflectlite.ValueOf", "internal/reflectlite.Swapper", "(internal/reflectlite.Value).Len"], unfollowed := true, recurses := true, named := ["encoding/binary.BigEndian", "pub-mailsack/pub/kmsg/inner/kbin.ErrNotEnoughData"], loops := true, apart := false, laid := [("pub-mailsack/pub/kmsg/inner/kbin.ErrNotEnoughData", laid_pub_mailsack_pub_kmsg_inner_kbin_ErrNotEnoughData)] }
def FnTellDeleteShareGroupOffsetsRequestSaid : Prop := fnTellDeleteShareGroupOffsetsRequestRow.holds Tryz.pinned (OpenSpec.ofChange fnTellDeleteShareGroupOffsetsRequestSpec)

/-- ITS FALSE NEIGHBOUR: 'it returns false'. Refute it at one input. -/
def fnTellDeleteShareGroupOffsetsRequestWrong : ChangeSpec := { name := "fnTellDeleteShareGroupOffsetsRequest", fn := fun _ => fun
  | [d1, d2] => { results := [.lit (.bool false)], args := [d1, d2] }
  | _ => none }
def FnTellDeleteShareGroupOffsetsRequestWrongFalsely : Prop := fnTellDeleteShareGroupOffsetsRequestRow.holds Tryz.pinned (OpenSpec.ofChange fnTellDeleteShareGroupOffsetsRequestWrong)

/-- 'laws.FnTellDescribeACLsRequest': WHATEVER THE INPUT: true; the input reads as it did. -/
def fnTellDescribeACLsRequestSpec : ChangeSpec := { name := "fnTellDescribeACLsRequest", fn := fun _ => fun
  | [d1, d2] => { results := [.lit (.bool true)], args := [d1, d2] }
  | _ => none }
def fnTellDescribeACLsRequestRow : OpenClaim := { program := "ytgolpmkenmedoaagreatdoor", sum := "3fa03e2d16b0e695fc06e10e141cfab8edeae5837148f9ad378454a2c6b36035", func := "pub-mailsack/laws.FnTellDescribeACLsRequest", spec := "fnTellDescribeACLsRequest", inPlace := ["internal/reflectlite.ValueOf", "internal/reflectlite.Swapper", "(internal/reflectlite.Value).Len"], unfollowed := true, recurses := true, named := ["encoding/binary.BigEndian", "pub-mailsack/pub/kmsg/inner/kbin.ErrNotEnoughData"], loops := true, apart := false, laid := [("pub-mailsack/pub/kmsg/inner/kbin.ErrNotEnoughData", laid_pub_mailsack_pub_kmsg_inner_kbin_ErrNotEnoughData)] }
def FnTellDescribeACLsRequestSaid : Prop := fnTellDescribeACLsRequestRow.holds Tryz.pinned (OpenSpec.ofChange fnTellDescribeACLsRequestSpec)

/-- ITS FALSE NEIGHBOUR: 'it returns false'. Refute it at one input. -/
def fnTellDescribeACLsRequestWrong : ChangeSpec := { name := "fnTellDescribeACLsRequest", fn := fun _ => fun
  | [d1, d2] => { results := [.lit (.bool false)], args := [d1, d2] }
  | _ => none }
def FnTellDescribeACLsRequestWrongFalsely : Prop := fnTellDescribeACLsRequestRow.holds Tryz.pinned (OpenSpec.ofChange fnTellDescribeACLsRequestWrong)

/-- 'laws.FnTellCreatePartitionsResponse': WHATEVER THE INPUT: true; the input reads as it did. -/
def fnTellCreatePartitionsResponseSpec : ChangeSpec := { name := "fnTellCreatePartitionsResponse", fn := fun _ => fun
  | [d1, d2] => { results := [.lit (.bool true)], args := [d1, d2] }
  | _ => none }
def fnTellCreatePartitionsResponseRow : OpenClaim := { program := "ytgolpmkenmedoaagreatdoor", sum := "3fa03e2d16b0e695fc06e10e141cfab8edeae5837148f9ad378454a2c6b36035", func := "pub-mailsack/laws.FnTellCreatePartitionsResponse", spec := "fnTellCreatePartitionsResponse", inPlace := ["internal/reflectlite.ValueOf", "internal/reflectlite.Swapper", "(internal/reflectlite.Value).Len"], unfollowed := true, recurses := true, named := ["encoding/binary.BigEndian", "pub-mailsack/pub/kmsg/inner/kbin.ErrNotEnoughData"], loops := true, apart := false, laid := [("pub-mailsack/pub/kmsg/inner/kbin.ErrNotEnoughData", laid_pub_mailsack_pub_kmsg_inner_kbin_ErrNotEnoughData)] }
def FnTellCreatePartitionsResponseSaid : Prop := fnTellCreatePartitionsResponseRow.holds Tryz.pinned (OpenSpec.ofChange fnTellCreatePartitionsResponseSpec)

/-- ITS FALSE NEIGHBOUR: 'it returns false'. Refute it at one input. -/
def fnTellCreatePartitionsResponseWrong : ChangeSpec := { name := "fnTellCreatePartitionsResponse", fn := fun _ => fun
  | [d1, d2] => { results := [.lit (.bool false)], args := [d1, d2] }
  | _ => none }
def FnTellCreatePartitionsResponseWrongFalsely : Prop := fnTellCreatePartitionsResponseRow.holds Tryz.pinned (OpenSpec.ofChange fnTellCreatePartitionsResponseWrong)

/-- 'laws.FnTellDeleteGroupsResponse': WHATEVER THE INPUT: true; the input reads as it did. -/
def fnTellDeleteGroupsResponseSpec : ChangeSpec := { name := "fnTellDeleteGroupsResponse", fn := fun _ => fun
  | [d1, d2] => { results := [.lit (.bool true)], args := [d1, d2] }
  | _ => none }
def fnTellDeleteGroupsResponseRow : OpenClaim := { program := "ytgolpmkenmedoaagreatdoor", sum := "3fa03e2d16b0e695fc06e10e141cfab8edeae5837148f9ad378454a2c6b36035", func := "pub-mailsack/laws.FnTellDeleteGroupsResponse", spec := "fnTellDeleteGroupsResponse", inPlace := ["internal/reflectlite.ValueOf", "internal/reflectlite.Swapper", "(internal/reflectlite.Value).Len"], unfollowed := true, recurses := true, named := ["encoding/binary.BigEndian", "pub-mailsack/pub/kmsg/inner/kbin.ErrNotEnoughData"], loops := true, apart := false, laid := [("pub-mailsack/pub/kmsg/inner/kbin.ErrNotEnoughData", laid_pub_mailsack_pub_kmsg_inner_kbin_ErrNotEnoughData)] }
def FnTellDeleteGroupsResponseSaid : Prop := fnTellDeleteGroupsResponseRow.holds Tryz.pinned (OpenSpec.ofChange fnTellDeleteGroupsResponseSpec)

/-- ITS FALSE NEIGHBOUR: 'it returns false'. Refute it at one input. -/
def fnTellDeleteGroupsResponseWrong : ChangeSpec := { name := "fnTellDeleteGroupsResponse", fn := fun _ => fun
  | [d1, d2] => { results := [.lit (.bool false)], args := [d1, d2] }
  | _ => none }
def FnTellDeleteGroupsResponseWrongFalsely : Prop := fnTellDeleteGroupsResponseRow.holds Tryz.pinned (OpenSpec.ofChange fnTellDeleteGroupsResponseWrong)

/-- 'laws.FnTellAssignReplicasToDirsResponse': WHATEVER THE INPUT: true; the input reads as it did. -/
def fnTellAssignReplicasToDirsResponseSpec : ChangeSpec := { name := "fnTellAssignReplicasToDirsResponse", fn := fun _ => fun
  | [d1, d2] => { results := [.lit (.bool true)], args := [d1, d2] }
  | _ => none }
def fnTellAssignReplicasToDirsResponseRow : OpenClaim := { program := "ytgolpmkenmedoaagreatdoor", sum := "3fa03e2d16b0e695fc06e10e141cfab8edeae5837148f9ad378454a2c6b36035", func := "pub-mailsack/laws.FnTellAssignReplicasToDirsResponse", spec := "fnTellAssignReplicasToDirsResponse", inPlace := ["internal/reflectlite.ValueOf", "internal/reflectlite.Swapper", "(internal/reflectlite.Value).Len"], unfollowed := true, recurses := true, named := ["encoding/binary.BigEndian", "pub-mailsack/pub/kmsg/inner/kbin.ErrNotEnoughData"], loops := true, apart := false, laid := [("pub-mailsack/pub/kmsg/inner/kbin.ErrNotEnoughData", laid_pub_mailsack_pub_kmsg_inner_kbin_ErrNotEnoughData)] }
def FnTellAssignReplicasToDirsResponseSaid : Prop := fnTellAssignReplicasToDirsResponseRow.holds Tryz.pinned (OpenSpec.ofChange fnTellAssignReplicasToDirsResponseSpec)

/-- ITS FALSE NEIGHBOUR: 'it returns false'. Refute it at one input. -/
def fnTellAssignReplicasToDirsResponseWrong : ChangeSpec := { name := "fnTellAssignReplicasToDirsResponse", fn := fun _ => fun
  | [d1, d2] => { results := [.lit (.bool false)], args := [d1, d2] }
  | _ => none }
def FnTellAssignReplicasToDirsResponseWrongFalsely : Prop := fnTellAssignReplicasToDirsResponseRow.holds Tryz.pinned (OpenSpec.ofChange fnTellAssignReplicasToDirsResponseWrong)

/-- 'laws.FnTellDeleteShareGroupStateResponse': WHATEVER THE INPUT: true; the input reads as it did. -/
def fnTellDeleteShareGroupStateResponseSpec : ChangeSpec := { name := "fnTellDeleteShareGroupStateResponse", fn := fun _ => fun
  | [d1, d2] => { results := [.lit (.bool true)], args := [d1, d2] }
  | _ => none }
def fnTellDeleteShareGroupStateResponseRow : OpenClaim := { program := "ytgolpmkenmedoaagreatdoor", sum := "3fa03e2d16b0e695fc06e10e141cfab8edeae5837148f9ad378454a2c6b36035", func := "pub-mailsack/laws.FnTellDeleteShareGroupStateResponse", spec := "fnTellDeleteShareGroupStateResponse", inPlace := ["internal/reflectlite.ValueOf", "internal/reflectlite.Swapper", "(internal/reflectlite.Value).Len"], unfollowed := true, recurses := true, named := ["encoding/binary.BigEndian", "pub-mailsack/pub/kmsg/inner/kbin.ErrNotEnoughData"], loops := true, apart := false, laid := [("pub-mailsack/pub/kmsg/inner/kbin.ErrNotEnoughData", laid_pub_mailsack_pub_kmsg_inner_kbin_ErrNotEnoughData)] }
def FnTellDeleteShareGroupStateResponseSaid : Prop := fnTellDeleteShareGroupStateResponseRow.holds Tryz.pinned (OpenSpec.ofChange fnTellDeleteShareGroupStateResponseSpec)

/-- ITS FALSE NEIGHBOUR: 'it returns false'. Refute it at one input. -/
def fnTellDeleteShareGroupStateResponseWrong : ChangeSpec := { name := "fnTellDeleteShareGroupStateResponse", fn := fun _ => fun
  | [d1, d2] => { results := [.lit (.bool false)], args := [d1, d2] }
  | _ => none }
def FnTellDeleteShareGroupStateResponseWrongFalsely : Prop := fnTellDeleteShareGroupStateResponseRow.holds Tryz.pinned (OpenSpec.ofChange fnTellDeleteShareGroupStateResponseWrong)

/-- 'laws.FnTellDescribeShareGroupOffsetsRequest': WHATEVER THE INPUT: true; the input reads as it did. -/
def fnTellDescribeShareGroupOffsetsRequestSpec : ChangeSpec := { name := "fnTellDescribeShareGroupOffsetsRequest", fn := fun _ => fun
  | [d1, d2] => { results := [.lit (.bool true)], args := [d1, d2] }
  | _ => none }
def fnTellDescribeShareGroupOffsetsRequestRow : OpenClaim := { program := "ytgolpmkenmedoaagreatdoor", sum := "3fa03e2d16b0e695fc06e10e141cfab8edeae5837148f9ad378454a2c6b36035", func := "pub-mailsack/laws.FnTellDescribeShareGroupOffsetsRequest", spec := "fnTellDescribeShareGroupOffsetsRequest", inPlace := ["internal/reflectlite.ValueOf", "internal/reflectlite.Swapper", "(internal/reflectlite.Value).Len"], unfollowed := true, recurses := true, named := ["encoding/binary.BigEndian", "pub-mailsack/pub/kmsg/inner/kbin.ErrNotEnoughData"], loops := true, apart := false, laid := [("pub-mailsack/pub/kmsg/inner/kbin.ErrNotEnoughData", laid_pub_mailsack_pub_kmsg_inner_kbin_ErrNotEnoughData)] }
def FnTellDescribeShareGroupOffsetsRequestSaid : Prop := fnTellDescribeShareGroupOffsetsRequestRow.holds Tryz.pinned (OpenSpec.ofChange fnTellDescribeShareGroupOffsetsRequestSpec)

/-- ITS FALSE NEIGHBOUR: 'it returns false'. Refute it at one input. -/
def fnTellDescribeShareGroupOffsetsRequestWrong : ChangeSpec := { name := "fnTellDescribeShareGroupOffsetsRequest", fn := fun _ => fun
  | [d1, d2] => { results := [.lit (.bool false)], args := [d1, d2] }
  | _ => none }
def FnTellDescribeShareGroupOffsetsRequestWrongFalsely : Prop := fnTellDescribeShareGroupOffsetsRequestRow.holds Tryz.pinned (OpenSpec.ofChange fnTellDescribeShareGroupOffsetsRequestWrong)

/-- 'laws.FnTellDeleteACLsRequest': WHATEVER THE INPUT: true; the input reads as it did. -/
def fnTellDeleteACLsRequestSpec : ChangeSpec := { name := "fnTellDeleteACLsRequest", fn := fun _ => fun
  | [d1, d2] => { results := [.lit (.bool true)], args := [d1, d2] }
  | _ => none }
def fnTellDeleteACLsRequestRow : OpenClaim := { program := "ytgolpmkenmedoaagreatdoor", sum := "3fa03e2d16b0e695fc06e10e141cfab8edeae5837148f9ad378454a2c6b36035", func := "pub-mailsack/laws.FnTellDeleteACLsRequest", spec := "fnTellDeleteACLsRequest", inPlace := ["internal/reflectlite.ValueOf", "internal/reflectlite.Swapper", "(internal/reflectlite.Value).Len"], unfollowed := true, recurses := true, named := ["encoding/binary.BigEndian", "pub-mailsack/pub/kmsg/inner/kbin.ErrNotEnoughData"], loops := true, apart := false, laid := [("pub-mailsack/pub/kmsg/inner/kbin.ErrNotEnoughData", laid_pub_mailsack_pub_kmsg_inner_kbin_ErrNotEnoughData)] }
def FnTellDeleteACLsRequestSaid : Prop := fnTellDeleteACLsRequestRow.holds Tryz.pinned (OpenSpec.ofChange fnTellDeleteACLsRequestSpec)

/-- ITS FALSE NEIGHBOUR: 'it returns false'. Refute it at one input. -/
def fnTellDeleteACLsRequestWrong : ChangeSpec := { name := "fnTellDeleteACLsRequest", fn := fun _ => fun
  | [d1, d2] => { results := [.lit (.bool false)], args := [d1, d2] }
  | _ => none }
def FnTellDeleteACLsRequestWrongFalsely : Prop := fnTellDeleteACLsRequestRow.holds Tryz.pinned (OpenSpec.ofChange fnTellDeleteACLsRequestWrong)

/-- 'laws.FnTellListPartitionReassignmentsResponse': WHATEVER THE INPUT: true; the input reads as it did. -/
def fnTellListPartitionReassignmentsResponseSpec : ChangeSpec := { name := "fnTellListPartitionReassignmentsResponse", fn := fun _ => fun
  | [d1, d2] => { results := [.lit (.bool true)], args := [d1, d2] }
  | _ => none }
def fnTellListPartitionReassignmentsResponseRow : OpenClaim := { program := "ytgolpmkenmedoaagreatdoor", sum := "3fa03e2d16b0e695fc06e10e141cfab8edeae5837148f9ad378454a2c6b36035", func := "pub-mailsack/laws.FnTellListPartitionReassignmentsResponse", spec := "fnTellListPartitionReassignmentsResponse", inPlace := ["internal/reflectlite.ValueOf", "internal/reflectlite.Swapper", "(internal/reflectlite.Value).Len"], unfollowed := true, recurses := true, named := ["encoding/binary.BigEndian", "pub-mailsack/pub/kmsg/inner/kbin.ErrNotEnoughData"], loops := true, apart := false, laid := [("pub-mailsack/pub/kmsg/inner/kbin.ErrNotEnoughData", laid_pub_mailsack_pub_kmsg_inner_kbin_ErrNotEnoughData)] }
def FnTellListPartitionReassignmentsResponseSaid : Prop := fnTellListPartitionReassignmentsResponseRow.holds Tryz.pinned (OpenSpec.ofChange fnTellListPartitionReassignmentsResponseSpec)

/-- ITS FALSE NEIGHBOUR: 'it returns false'. Refute it at one input. -/
def fnTellListPartitionReassignmentsResponseWrong : ChangeSpec := { name := "fnTellListPartitionReassignmentsResponse", fn := fun _ => fun
  | [d1, d2] => { results := [.lit (.bool false)], args := [d1, d2] }
  | _ => none }
def FnTellListPartitionReassignmentsResponseWrongFalsely : Prop := fnTellListPartitionReassignmentsResponseRow.holds Tryz.pinned (OpenSpec.ofChange fnTellListPartitionReassignmentsResponseWrong)

/- THE SECOND FORM. 'bulk': how many values and letters a reading holds, each counted each time it is reached (what is shared counts as often as it is met; a slice's spare places count too). A statement '..UptoSaid' is the law's where the arguments, and the package variables that the reading takes, are together of bulk at most 1048576: NARROWER than '..Said'. Prove '..Said' where nothing that the law and all that it calls make is longer than what came in: it says more and counts as full. Else prove '..UptoSaid'. A law counts once. -/
mutual
def uptoBulk {H : Type} : DataW H → Nat
  | .lit (.string bytes) => bytes.length + 1
  | .lit _ => 1
  | .nil => 1
  | .ptr d => uptoBulk d + 1
  | .slice elems spare => uptoBulkAll elems + uptoBulkAll spare + 1
  | .agg parts => uptoBulkAll parts + 1
  | .iface _ d => uptoBulk d + 1
  | .map entries => uptoBulkEntries entries + 1
  | .held _ => 1
def uptoBulkAll {H : Type} : List (DataW H) → Nat
  | [] => 0
  | d :: r => uptoBulk d + uptoBulkAll r
def uptoBulkEntries {H : Type} : List (Lit × DataW H) → Nat
  | [] => 0
  | x :: r => uptoBulkEntry x + uptoBulkEntries r
def uptoBulkEntry {H : Type} : Lit × DataW H → Nat
  | (.string bytes, d) => bytes.length + uptoBulk d + 1
  | (_, d) => uptoBulk d + 1
 end
def uptoSmall : (H : Type) → List (DataW H) → Bool := fun _ ds => decide (uptoBulkAll ds ≤ 1048576)
def OpenSpec.upto (s : _root_.Go.ChangeSpec) : _root_.Go.OpenSpec := { _root_.Go.OpenSpec.ofChange s with cond := some uptoSmall }

/-- 'laws.FnTellDescribeUserSCRAMCredentialsRequest', WHERE WHAT IT READS IS OF BULK AT MOST 1048576: true; the input reads as it did. -/
def fnTellDescribeUserSCRAMCredentialsRequestUptoRow : OpenClaim := { program := "ytgolpmkenmedoaagreatdoor", sum := "3fa03e2d16b0e695fc06e10e141cfab8edeae5837148f9ad378454a2c6b36035", func := "pub-mailsack/laws.FnTellDescribeUserSCRAMCredentialsRequest", spec := "fnTellDescribeUserSCRAMCredentialsRequest", inPlace := ["internal/reflectlite.ValueOf", "internal/reflectlite.Swapper", "(internal/reflectlite.Value).Len"], unfollowed := true, recurses := true, named := ["encoding/binary.BigEndian", "pub-mailsack/pub/kmsg/inner/kbin.ErrNotEnoughData"], loops := true, apart := false, laid := [("pub-mailsack/pub/kmsg/inner/kbin.ErrNotEnoughData", laid_pub_mailsack_pub_kmsg_inner_kbin_ErrNotEnoughData)], narrowed := true }
def FnTellDescribeUserSCRAMCredentialsRequestUptoSaid : Prop := fnTellDescribeUserSCRAMCredentialsRequestUptoRow.holds Tryz.pinned (OpenSpec.upto fnTellDescribeUserSCRAMCredentialsRequestSpec)

/-- 'laws.FnTellDeleteShareGroupOffsetsRequest', WHERE WHAT IT READS IS OF BULK AT MOST 1048576: true; the input reads as it did. -/
def fnTellDeleteShareGroupOffsetsRequestUptoRow : OpenClaim := { program := "ytgolpmkenmedoaagreatdoor", sum := "3fa03e2d16b0e695fc06e10e141cfab8edeae5837148f9ad378454a2c6b36035", func := "pub-mailsack/laws.FnTellDeleteShareGroupOffsetsRequest", spec := "fnTellDeleteShareGroupOffsetsRequest", inPlace := ["internal/reflectlite.ValueOf", "internal/reflectlite.Swapper", "(internal/reflectlite.Value).Len"], unfollowed := true, recurses := true, named := ["encoding/binary.BigEndian", "pub-mailsack/pub/kmsg/inner/kbin.ErrNotEnoughData"], loops := true, apart := false, laid := [("pub-mailsack/pub/kmsg/inner/kbin.ErrNotEnoughData", laid_pub_mailsack_pub_kmsg_inner_kbin_ErrNotEnoughData)], narrowed := true }
def FnTellDeleteShareGroupOffsetsRequestUptoSaid : Prop := fnTellDeleteShareGroupOffsetsRequestUptoRow.holds Tryz.pinned (OpenSpec.upto fnTellDeleteShareGroupOffsetsRequestSpec)

/-- 'laws.FnTellDescribeACLsRequest', WHERE WHAT IT READS IS OF BULK AT MOST 1048576: true; the input reads as it did. -/
def fnTellDescribeACLsRequestUptoRow : OpenClaim := { program := "ytgolpmkenmedoaagreatdoor", sum := "3fa03e2d16b0e695fc06e10e141cfab8edeae5837148f9ad378454a2c6b36035", func := "pub-mailsack/laws.FnTellDescribeACLsRequest", spec := "fnTellDescribeACLsRequest", inPlace := ["internal/reflectlite.ValueOf", "internal/reflectlite.Swapper", "(internal/reflectlite.Value).Len"], unfollowed := true, recurses := true, named := ["encoding/binary.BigEndian", "pub-mailsack/pub/kmsg/inner/kbin.ErrNotEnoughData"], loops := true, apart := false, laid := [("pub-mailsack/pub/kmsg/inner/kbin.ErrNotEnoughData", laid_pub_mailsack_pub_kmsg_inner_kbin_ErrNotEnoughData)], narrowed := true }
def FnTellDescribeACLsRequestUptoSaid : Prop := fnTellDescribeACLsRequestUptoRow.holds Tryz.pinned (OpenSpec.upto fnTellDescribeACLsRequestSpec)

/-- 'laws.FnTellCreatePartitionsResponse', WHERE WHAT IT READS IS OF BULK AT MOST 1048576: true; the input reads as it did. -/
def fnTellCreatePartitionsResponseUptoRow : OpenClaim := { program := "ytgolpmkenmedoaagreatdoor", sum := "3fa03e2d16b0e695fc06e10e141cfab8edeae5837148f9ad378454a2c6b36035", func := "pub-mailsack/laws.FnTellCreatePartitionsResponse", spec := "fnTellCreatePartitionsResponse", inPlace := ["internal/reflectlite.ValueOf", "internal/reflectlite.Swapper", "(internal/reflectlite.Value).Len"], unfollowed := true, recurses := true, named := ["encoding/binary.BigEndian", "pub-mailsack/pub/kmsg/inner/kbin.ErrNotEnoughData"], loops := true, apart := false, laid := [("pub-mailsack/pub/kmsg/inner/kbin.ErrNotEnoughData", laid_pub_mailsack_pub_kmsg_inner_kbin_ErrNotEnoughData)], narrowed := true }
def FnTellCreatePartitionsResponseUptoSaid : Prop := fnTellCreatePartitionsResponseUptoRow.holds Tryz.pinned (OpenSpec.upto fnTellCreatePartitionsResponseSpec)

/-- 'laws.FnTellDeleteGroupsResponse', WHERE WHAT IT READS IS OF BULK AT MOST 1048576: true; the input reads as it did. -/
def fnTellDeleteGroupsResponseUptoRow : OpenClaim := { program := "ytgolpmkenmedoaagreatdoor", sum := "3fa03e2d16b0e695fc06e10e141cfab8edeae5837148f9ad378454a2c6b36035", func := "pub-mailsack/laws.FnTellDeleteGroupsResponse", spec := "fnTellDeleteGroupsResponse", inPlace := ["internal/reflectlite.ValueOf", "internal/reflectlite.Swapper", "(internal/reflectlite.Value).Len"], unfollowed := true, recurses := true, named := ["encoding/binary.BigEndian", "pub-mailsack/pub/kmsg/inner/kbin.ErrNotEnoughData"], loops := true, apart := false, laid := [("pub-mailsack/pub/kmsg/inner/kbin.ErrNotEnoughData", laid_pub_mailsack_pub_kmsg_inner_kbin_ErrNotEnoughData)], narrowed := true }
def FnTellDeleteGroupsResponseUptoSaid : Prop := fnTellDeleteGroupsResponseUptoRow.holds Tryz.pinned (OpenSpec.upto fnTellDeleteGroupsResponseSpec)

/-- 'laws.FnTellAssignReplicasToDirsResponse', WHERE WHAT IT READS IS OF BULK AT MOST 1048576: true; the input reads as it did. -/
def fnTellAssignReplicasToDirsResponseUptoRow : OpenClaim := { program := "ytgolpmkenmedoaagreatdoor", sum := "3fa03e2d16b0e695fc06e10e141cfab8edeae5837148f9ad378454a2c6b36035", func := "pub-mailsack/laws.FnTellAssignReplicasToDirsResponse", spec := "fnTellAssignReplicasToDirsResponse", inPlace := ["internal/reflectlite.ValueOf", "internal/reflectlite.Swapper", "(internal/reflectlite.Value).Len"], unfollowed := true, recurses := true, named := ["encoding/binary.BigEndian", "pub-mailsack/pub/kmsg/inner/kbin.ErrNotEnoughData"], loops := true, apart := false, laid := [("pub-mailsack/pub/kmsg/inner/kbin.ErrNotEnoughData", laid_pub_mailsack_pub_kmsg_inner_kbin_ErrNotEnoughData)], narrowed := true }
def FnTellAssignReplicasToDirsResponseUptoSaid : Prop := fnTellAssignReplicasToDirsResponseUptoRow.holds Tryz.pinned (OpenSpec.upto fnTellAssignReplicasToDirsResponseSpec)

/-- 'laws.FnTellDeleteShareGroupStateResponse', WHERE WHAT IT READS IS OF BULK AT MOST 1048576: true; the input reads as it did. -/
def fnTellDeleteShareGroupStateResponseUptoRow : OpenClaim := { program := "ytgolpmkenmedoaagreatdoor", sum := "3fa03e2d16b0e695fc06e10e141cfab8edeae5837148f9ad378454a2c6b36035", func := "pub-mailsack/laws.FnTellDeleteShareGroupStateResponse", spec := "fnTellDeleteShareGroupStateResponse", inPlace := ["internal/reflectlite.ValueOf", "internal/reflectlite.Swapper", "(internal/reflectlite.Value).Len"], unfollowed := true, recurses := true, named := ["encoding/binary.BigEndian", "pub-mailsack/pub/kmsg/inner/kbin.ErrNotEnoughData"], loops := true, apart := false, laid := [("pub-mailsack/pub/kmsg/inner/kbin.ErrNotEnoughData", laid_pub_mailsack_pub_kmsg_inner_kbin_ErrNotEnoughData)], narrowed := true }
def FnTellDeleteShareGroupStateResponseUptoSaid : Prop := fnTellDeleteShareGroupStateResponseUptoRow.holds Tryz.pinned (OpenSpec.upto fnTellDeleteShareGroupStateResponseSpec)

/-- 'laws.FnTellDescribeShareGroupOffsetsRequest', WHERE WHAT IT READS IS OF BULK AT MOST 1048576: true; the input reads as it did. -/
def fnTellDescribeShareGroupOffsetsRequestUptoRow : OpenClaim := { program := "ytgolpmkenmedoaagreatdoor", sum := "3fa03e2d16b0e695fc06e10e141cfab8edeae5837148f9ad378454a2c6b36035", func := "pub-mailsack/laws.FnTellDescribeShareGroupOffsetsRequest", spec := "fnTellDescribeShareGroupOffsetsRequest", inPlace := ["internal/reflectlite.ValueOf", "internal/reflectlite.Swapper", "(internal/reflectlite.Value).Len"], unfollowed := true, recurses := true, named := ["encoding/binary.BigEndian", "pub-mailsack/pub/kmsg/inner/kbin.ErrNotEnoughData"], loops := true, apart := false, laid := [("pub-mailsack/pub/kmsg/inner/kbin.ErrNotEnoughData", laid_pub_mailsack_pub_kmsg_inner_kbin_ErrNotEnoughData)], narrowed := true }
def FnTellDescribeShareGroupOffsetsRequestUptoSaid : Prop := fnTellDescribeShareGroupOffsetsRequestUptoRow.holds Tryz.pinned (OpenSpec.upto fnTellDescribeShareGroupOffsetsRequestSpec)

/-- 'laws.FnTellDeleteACLsRequest', WHERE WHAT IT READS IS OF BULK AT MOST 1048576: true; the input reads as it did. -/
def fnTellDeleteACLsRequestUptoRow : OpenClaim := { program := "ytgolpmkenmedoaagreatdoor", sum := "3fa03e2d16b0e695fc06e10e141cfab8edeae5837148f9ad378454a2c6b36035", func := "pub-mailsack/laws.FnTellDeleteACLsRequest", spec := "fnTellDeleteACLsRequest", inPlace := ["internal/reflectlite.ValueOf", "internal/reflectlite.Swapper", "(internal/reflectlite.Value).Len"], unfollowed := true, recurses := true, named := ["encoding/binary.BigEndian", "pub-mailsack/pub/kmsg/inner/kbin.ErrNotEnoughData"], loops := true, apart := false, laid := [("pub-mailsack/pub/kmsg/inner/kbin.ErrNotEnoughData", laid_pub_mailsack_pub_kmsg_inner_kbin_ErrNotEnoughData)], narrowed := true }
def FnTellDeleteACLsRequestUptoSaid : Prop := fnTellDeleteACLsRequestUptoRow.holds Tryz.pinned (OpenSpec.upto fnTellDeleteACLsRequestSpec)

/-- 'laws.FnTellListPartitionReassignmentsResponse', WHERE WHAT IT READS IS OF BULK AT MOST 1048576: true; the input reads as it did. -/
def fnTellListPartitionReassignmentsResponseUptoRow : OpenClaim := { program := "ytgolpmkenmedoaagreatdoor", sum := "3fa03e2d16b0e695fc06e10e141cfab8edeae5837148f9ad378454a2c6b36035", func := "pub-mailsack/laws.FnTellListPartitionReassignmentsResponse", spec := "fnTellListPartitionReassignmentsResponse", inPlace := ["internal/reflectlite.ValueOf", "internal/reflectlite.Swapper", "(internal/reflectlite.Value).Len"], unfollowed := true, recurses := true, named := ["encoding/binary.BigEndian", "pub-mailsack/pub/kmsg/inner/kbin.ErrNotEnoughData"], loops := true, apart := false, laid := [("pub-mailsack/pub/kmsg/inner/kbin.ErrNotEnoughData", laid_pub_mailsack_pub_kmsg_inner_kbin_ErrNotEnoughData)], narrowed := true }
def FnTellListPartitionReassignmentsResponseUptoSaid : Prop := fnTellListPartitionReassignmentsResponseUptoRow.holds Tryz.pinned (OpenSpec.upto fnTellListPartitionReassignmentsResponseSpec)

end Rows
end Go.Proofs.YtgolpmkenmedoaaGreatDoor
