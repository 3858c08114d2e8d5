/-
  NARROWER THAN 'FOR EVERY INPUT', by the rows' own cells (each row's printed sentence says how): FnTellAssignReplicasToDirsResponse: loops, laid · FnTellListPartitionReassignmentsResponse: loops, laid · FnTellDescribeShareGroupOffsetsRequest: loops, laid · FnTellDescribeUserSCRAMCredentialsRequest: loops, laid.
  DERIVED. THE GIVEN ROWS OF THIS SEAT. 4 by the template 'for every input the law returns true; each argument reads behind the call as it read before'; 0 by the template 'total and deterministic' (their statements: YtfljkhecngpcmaaGreatDoorTotals.lean).
  GIVEN WITH THE SEED: the statements are not yours to turn. If you find one false, say at which input.
  Laid BY PROGRAM, IN A SANDBOX (cutbox-rows.mjs): the forced cells as the released guide's own fill.sh prints them over the translation 869b531b09b00dc8… (all of the seat's roots in one cut). By AI agents, Wed Nov 11 2026. No macro, syntax, notation, axiom, sorry.
-/
import Derived.Test.YtfljkhecngpcmaaGreatDoorChecked
import GoSem.Claim
import GoSem.ClaimJoined
import GoSem.ClaimMapViews
import Derived.JoinedTies
import Derived.KernelRfl
namespace Go.Proofs.YtfljkhecngpcmaaGreatDoor
/- THE CELL 'sum', in the pinned program and in every row, IS THE sha256 OF THE DUMP (.gsa) THAT YtfljkhecngpcmaaGreatDoorProg.lean LOADS. Nothing in Lean hashes anything: it is a label: what it is worth is what the hold of that sum in a sandbox is worth. -/
noncomputable def Tryz.pinned : Pinned := { name := "ytfljkhecngpcmaagreatdoor", sum := "869b531b09b00dc8dec02eff69dbb65b84a33d5c35d70bde20a191b26dbcc62e", checked := Tryz.checked }
namespace Rows
def none {H : Type} : Left H := { results := [], args := [] }

/- WHAT THE LISTED PACKAGE-LEVEL VARIABLES READ AS WHEN THE CALL BEGINS. Each datum BY PROGRAM (the guide's laid-datum.mjs) off the statement by which the dump's own 'gosem.cut.vars' lays the variable. In a bare row this is a premise. The card (YtfljkhecngpcmaaGreatDoorCards.lean) ties it to the program's text. -/
def laid_pub_mailsack_pub_kmsg_inner_kbin_ErrNotEnoughData {H : Type} : DataW H := .iface "*errors.errorString" (.ptr (.agg [.lit (.string [114, 101, 115, 112, 111, 110, 115, 101, 32, 100, 105, 100, 32, 110, 111, 116, 32, 99, 111, 110, 116, 97, 105, 110, 32, 101, 110, 111, 117, 103, 104, 32, 100, 97, 116, 97, 32, 116, 111, 32, 98, 101, 32, 118, 97, 108, 105, 100])]))

/-- 'laws.FnTellAssignReplicasToDirsResponse': WHATEVER THE INPUT: true; the input reads as it did. -/
def fnTellAssignReplicasToDirsResponseSpec : ChangeSpec := { name := "fnTellAssignReplicasToDirsResponse", fn := fun _ => fun
  | [d1, d2] => { results := [.lit (.bool true)], args := [d1, d2] }
  | _ => none }
def fnTellAssignReplicasToDirsResponseRow : OpenClaim := { program := "ytfljkhecngpcmaagreatdoor", sum := "869b531b09b00dc8dec02eff69dbb65b84a33d5c35d70bde20a191b26dbcc62e", func := "pub-mailsack/laws.FnTellAssignReplicasToDirsResponse", spec := "fnTellAssignReplicasToDirsResponse", inPlace := ["internal/reflectlite.ValueOf", "internal/reflectlite.Swapper", "(internal/reflectlite.Value).Len"], unfollowed := true, recurses := true, named := ["encoding/binary.BigEndian", "pub-mailsack/pub/kmsg/inner/kbin.ErrNotEnoughData"], loops := true, apart := false, laid := [("pub-mailsack/pub/kmsg/inner/kbin.ErrNotEnoughData", laid_pub_mailsack_pub_kmsg_inner_kbin_ErrNotEnoughData)] }
def FnTellAssignReplicasToDirsResponseSaid : Prop := fnTellAssignReplicasToDirsResponseRow.holds Tryz.pinned (OpenSpec.ofChange fnTellAssignReplicasToDirsResponseSpec)

/-- ITS FALSE NEIGHBOUR: 'it returns false'. Refute it at one input. -/
def fnTellAssignReplicasToDirsResponseWrong : ChangeSpec := { name := "fnTellAssignReplicasToDirsResponse", fn := fun _ => fun
  | [d1, d2] => { results := [.lit (.bool false)], args := [d1, d2] }
  | _ => none }
def FnTellAssignReplicasToDirsResponseWrongFalsely : Prop := fnTellAssignReplicasToDirsResponseRow.holds Tryz.pinned (OpenSpec.ofChange fnTellAssignReplicasToDirsResponseWrong)

/-- 'laws.FnTellListPartitionReassignmentsResponse': WHATEVER THE INPUT: true; the input reads as it did. -/
def fnTellListPartitionReassignmentsResponseSpec : ChangeSpec := { name := "fnTellListPartitionReassignmentsResponse", fn := fun _ => fun
  | [d1, d2] => { results := [.lit (.bool true)], args := [d1, d2] }
  | _ => none }
def fnTellListPartitionReassignmentsResponseRow : OpenClaim := { program := "ytfljkhecngpcmaagreatdoor", sum := "869b531b09b00dc8dec02eff69dbb65b84a33d5c35d70bde20a191b26dbcc62e", func := "pub-mailsack/laws.FnTellListPartitionReassignmentsResponse", spec := "fnTellListPartitionReassignmentsResponse", inPlace := ["internal/reflectlite.ValueOf", "internal/reflectlite.Swapper", "(internal/reflectlite.Value).Len"], unfollowed := true, recurses := true, named := ["encoding/binary.BigEndian", "pub-mailsack/pub/kmsg/inner/kbin.ErrNotEnoughData"], loops := true, apart := false, laid := [("pub-mailsack/pub/kmsg/inner/kbin.ErrNotEnoughData", laid_pub_mailsack_pub_kmsg_inner_kbin_ErrNotEnoughData)] }
def FnTellListPartitionReassignmentsResponseSaid : Prop := fnTellListPartitionReassignmentsResponseRow.holds Tryz.pinned (OpenSpec.ofChange fnTellListPartitionReassignmentsResponseSpec)

/-- ITS FALSE NEIGHBOUR: 'it returns false'. Refute it at one input. -/
def fnTellListPartitionReassignmentsResponseWrong : ChangeSpec := { name := "fnTellListPartitionReassignmentsResponse", fn := fun _ => fun
  | [d1, d2] => { results := [.lit (.bool false)], args := [d1, d2] }
  | _ => none }
def FnTellListPartitionReassignmentsResponseWrongFalsely : Prop := fnTellListPartitionReassignmentsResponseRow.holds Tryz.pinned (OpenSpec.ofChange fnTellListPartitionReassignmentsResponseWrong)

/-- 'laws.FnTellDescribeShareGroupOffsetsRequest': WHATEVER THE INPUT: true; the input reads as it did. -/
def fnTellDescribeShareGroupOffsetsRequestSpec : ChangeSpec := { name := "fnTellDescribeShareGroupOffsetsRequest", fn := fun _ => fun
  | [d1, d2] => { results := [.lit (.bool true)], args := [d1, d2] }
  | _ => none }
def fnTellDescribeShareGroupOffsetsRequestRow : OpenClaim := { program := "ytfljkhecngpcmaagreatdoor", sum := "869b531b09b00dc8dec02eff69dbb65b84a33d5c35d70bde20a191b26dbcc62e", func := "pub-mailsack/laws.FnTellDescribeShareGroupOffsetsRequest", spec := "fnTellDescribeShareGroupOffsetsRequest", inPlace := ["internal/reflectlite.ValueOf", "internal/reflectlite.Swapper", "(internal/reflectlite.Value).Len"], unfollowed := true, recurses := true, named := ["encoding/binary.BigEndian", "pub-mailsack/pub/kmsg/inner/kbin.ErrNotEnoughData"], loops := true, apart := false, laid := [("pub-mailsack/pub/kmsg/inner/kbin.ErrNotEnoughData", laid_pub_mailsack_pub_kmsg_inner_kbin_ErrNotEnoughData)] }
def FnTellDescribeShareGroupOffsetsRequestSaid : Prop := fnTellDescribeShareGroupOffsetsRequestRow.holds Tryz.pinned (OpenSpec.ofChange fnTellDescribeShareGroupOffsetsRequestSpec)

/-- ITS FALSE NEIGHBOUR: 'it returns false'. Refute it at one input. -/
def fnTellDescribeShareGroupOffsetsRequestWrong : ChangeSpec := { name := "fnTellDescribeShareGroupOffsetsRequest", fn := fun _ => fun
  | [d1, d2] => { results := [.lit (.bool false)], args := [d1, d2] }
  | _ => none }
def FnTellDescribeShareGroupOffsetsRequestWrongFalsely : Prop := fnTellDescribeShareGroupOffsetsRequestRow.holds Tryz.pinned (OpenSpec.ofChange fnTellDescribeShareGroupOffsetsRequestWrong)

/-- 'laws.FnTellDescribeUserSCRAMCredentialsRequest': WHATEVER THE INPUT: true; the input reads as it did. -/
def fnTellDescribeUserSCRAMCredentialsRequestSpec : ChangeSpec := { name := "fnTellDescribeUserSCRAMCredentialsRequest", fn := fun _ => fun
  | [d1, d2] => { results := [.lit (.bool true)], args := [d1, d2] }
  | _ => none }
def fnTellDescribeUserSCRAMCredentialsRequestRow : OpenClaim := { program := "ytfljkhecngpcmaagreatdoor", sum := "869b531b09b00dc8dec02eff69dbb65b84a33d5c35d70bde20a191b26dbcc62e", func := "pub-mailsack/laws.FnTellDescribeUserSCRAMCredentialsRequest", spec := "fnTellDescribeUserSCRAMCredentialsRequest", inPlace := ["internal/reflectlite.ValueOf", "internal/reflectlite.Swapper", "(internal/reflectlite.Value).Len"], unfollowed := true, recurses := true, named := ["encoding/binary.BigEndian", "pub-mailsack/pub/kmsg/inner/kbin.ErrNotEnoughData"], loops := true, apart := false, laid := [("pub-mailsack/pub/kmsg/inner/kbin.ErrNotEnoughData", laid_pub_mailsack_pub_kmsg_inner_kbin_ErrNotEnoughData)] }
def FnTellDescribeUserSCRAMCredentialsRequestSaid : Prop := fnTellDescribeUserSCRAMCredentialsRequestRow.holds Tryz.pinned (OpenSpec.ofChange fnTellDescribeUserSCRAMCredentialsRequestSpec)

/-- ITS FALSE NEIGHBOUR: 'it returns false'. Refute it at one input. -/
def fnTellDescribeUserSCRAMCredentialsRequestWrong : ChangeSpec := { name := "fnTellDescribeUserSCRAMCredentialsRequest", fn := fun _ => fun
  | [d1, d2] => { results := [.lit (.bool false)], args := [d1, d2] }
  | _ => none }
def FnTellDescribeUserSCRAMCredentialsRequestWrongFalsely : Prop := fnTellDescribeUserSCRAMCredentialsRequestRow.holds Tryz.pinned (OpenSpec.ofChange fnTellDescribeUserSCRAMCredentialsRequestWrong)

/- THE SECOND FORM. 'bulk': how many values and letters a reading holds, each counted each time it is reached (what is shared counts as often as it is met; a slice's spare places count too). A statement '..UptoSaid' is the law's where the arguments, and the package variables that the reading takes, are together of bulk at most 1048576: NARROWER than '..Said'. Prove '..Said' where nothing that the law and all that it calls make is longer than what came in: it says more and counts as full. Else prove '..UptoSaid'. A law counts once. -/
mutual
def uptoBulk {H : Type} : DataW H → Nat
  | .lit (.string bytes) => bytes.length + 1
  | .lit _ => 1
  | .nil => 1
  | .ptr d => uptoBulk d + 1
  | .slice elems spare => uptoBulkAll elems + uptoBulkAll spare + 1
  | .agg parts => uptoBulkAll parts + 1
  | .iface _ d => uptoBulk d + 1
  | .map entries => uptoBulkEntries entries + 1
  | .held _ => 1
def uptoBulkAll {H : Type} : List (DataW H) → Nat
  | [] => 0
  | d :: r => uptoBulk d + uptoBulkAll r
def uptoBulkEntries {H : Type} : List (Lit × DataW H) → Nat
  | [] => 0
  | x :: r => uptoBulkEntry x + uptoBulkEntries r
def uptoBulkEntry {H : Type} : Lit × DataW H → Nat
  | (.string bytes, d) => bytes.length + uptoBulk d + 1
  | (_, d) => uptoBulk d + 1
 end
def uptoSmall : (H : Type) → List (DataW H) → Bool := fun _ ds => decide (uptoBulkAll ds ≤ 1048576)
def OpenSpec.upto (s : _root_.Go.ChangeSpec) : _root_.Go.OpenSpec := { _root_.Go.OpenSpec.ofChange s with cond := some uptoSmall }

/-- 'laws.FnTellAssignReplicasToDirsResponse', WHERE WHAT IT READS IS OF BULK AT MOST 1048576: true; the input reads as it did. -/
def fnTellAssignReplicasToDirsResponseUptoRow : OpenClaim := { program := "ytfljkhecngpcmaagreatdoor", sum := "869b531b09b00dc8dec02eff69dbb65b84a33d5c35d70bde20a191b26dbcc62e", func := "pub-mailsack/laws.FnTellAssignReplicasToDirsResponse", spec := "fnTellAssignReplicasToDirsResponse", inPlace := ["internal/reflectlite.ValueOf", "internal/reflectlite.Swapper", "(internal/reflectlite.Value).Len"], unfollowed := true, recurses := true, named := ["encoding/binary.BigEndian", "pub-mailsack/pub/kmsg/inner/kbin.ErrNotEnoughData"], loops := true, apart := false, laid := [("pub-mailsack/pub/kmsg/inner/kbin.ErrNotEnoughData", laid_pub_mailsack_pub_kmsg_inner_kbin_ErrNotEnoughData)], narrowed := true }
def FnTellAssignReplicasToDirsResponseUptoSaid : Prop := fnTellAssignReplicasToDirsResponseUptoRow.holds Tryz.pinned (OpenSpec.upto fnTellAssignReplicasToDirsResponseSpec)

/-- 'laws.FnTellListPartitionReassignmentsResponse', WHERE WHAT IT READS IS OF BULK AT MOST 1048576: true; the input reads as it did. -/
def fnTellListPartitionReassignmentsResponseUptoRow : OpenClaim := { program := "ytfljkhecngpcmaagreatdoor", sum := "869b531b09b00dc8dec02eff69dbb65b84a33d5c35d70bde20a191b26dbcc62e", func := "pub-mailsack/laws.FnTellListPartitionReassignmentsResponse", spec := "fnTellListPartitionReassignmentsResponse", inPlace := ["internal/reflectlite.ValueOf", "internal/reflectlite.Swapper", "(internal/reflectlite.Value).Len"], unfollowed := true, recurses := true, named := ["encoding/binary.BigEndian", "pub-mailsack/pub/kmsg/inner/kbin.ErrNotEnoughData"], loops := true, apart := false, laid := [("pub-mailsack/pub/kmsg/inner/kbin.ErrNotEnoughData", laid_pub_mailsack_pub_kmsg_inner_kbin_ErrNotEnoughData)], narrowed := true }
def FnTellListPartitionReassignmentsResponseUptoSaid : Prop := fnTellListPartitionReassignmentsResponseUptoRow.holds Tryz.pinned (OpenSpec.upto fnTellListPartitionReassignmentsResponseSpec)

/-- 'laws.FnTellDescribeShareGroupOffsetsRequest', WHERE WHAT IT READS IS OF BULK AT MOST 1048576: true; the input reads as it did. -/
def fnTellDescribeShareGroupOffsetsRequestUptoRow : OpenClaim := { program := "ytfljkhecngpcmaagreatdoor", sum := "869b531b09b00dc8dec02eff69dbb65b84a33d5c35d70bde20a191b26dbcc62e", func := "pub-mailsack/laws.FnTellDescribeShareGroupOffsetsRequest", spec := "fnTellDescribeShareGroupOffsetsRequest", inPlace := ["internal/reflectlite.ValueOf", "internal/reflectlite.Swapper", "(internal/reflectlite.Value).Len"], unfollowed := true, recurses := true, named := ["encoding/binary.BigEndian", "pub-mailsack/pub/kmsg/inner/kbin.ErrNotEnoughData"], loops := true, apart := false, laid := [("pub-mailsack/pub/kmsg/inner/kbin.ErrNotEnoughData", laid_pub_mailsack_pub_kmsg_inner_kbin_ErrNotEnoughData)], narrowed := true }
def FnTellDescribeShareGroupOffsetsRequestUptoSaid : Prop := fnTellDescribeShareGroupOffsetsRequestUptoRow.holds Tryz.pinned (OpenSpec.upto fnTellDescribeShareGroupOffsetsRequestSpec)

/-- 'laws.FnTellDescribeUserSCRAMCredentialsRequest', WHERE WHAT IT READS IS OF BULK AT MOST 1048576: true; the input reads as it did. -/
def fnTellDescribeUserSCRAMCredentialsRequestUptoRow : OpenClaim := { program := "ytfljkhecngpcmaagreatdoor", sum := "869b531b09b00dc8dec02eff69dbb65b84a33d5c35d70bde20a191b26dbcc62e", func := "pub-mailsack/laws.FnTellDescribeUserSCRAMCredentialsRequest", spec := "fnTellDescribeUserSCRAMCredentialsRequest", inPlace := ["internal/reflectlite.ValueOf", "internal/reflectlite.Swapper", "(internal/reflectlite.Value).Len"], unfollowed := true, recurses := true, named := ["encoding/binary.BigEndian", "pub-mailsack/pub/kmsg/inner/kbin.ErrNotEnoughData"], loops := true, apart := false, laid := [("pub-mailsack/pub/kmsg/inner/kbin.ErrNotEnoughData", laid_pub_mailsack_pub_kmsg_inner_kbin_ErrNotEnoughData)], narrowed := true }
def FnTellDescribeUserSCRAMCredentialsRequestUptoSaid : Prop := fnTellDescribeUserSCRAMCredentialsRequestUptoRow.holds Tryz.pinned (OpenSpec.upto fnTellDescribeUserSCRAMCredentialsRequestSpec)

end Rows
end Go.Proofs.YtfljkhecngpcmaaGreatDoor
