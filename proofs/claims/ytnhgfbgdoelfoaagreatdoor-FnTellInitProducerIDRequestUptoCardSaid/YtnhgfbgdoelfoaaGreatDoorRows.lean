/-
  NARROWER THAN 'FOR EVERY INPUT', by the rows' own cells (each row's printed sentence says how): FnBehindAlterReplicaLogDirsRequest: loops, laid · FnBehindWriteShareGroupStateResponse: loops, laid · FnBehindListOffsetsRequest: loops, laid · FnBehindAlterShareGroupOffsetsResponse: loops, laid · FnBehindJoinGroupResponse: loops, laid · FnBehindProduceResponse: loops, laid · FnTellInitProducerIDRequest: loops, laid.
  DERIVED. THE GIVEN ROWS OF THIS SEAT. 7 by the template 'for every input the law returns true; each argument reads behind the call as it read before'; 0 by the template 'total and deterministic' (their statements: YtnhgfbgdoelfoaaGreatDoorTotals.lean).
  GIVEN WITH THE SEED: the statements are not yours to turn. If you find one false, say at which input.
  Laid BY PROGRAM, IN A SANDBOX (cutbox-rows.mjs): the forced cells as the released guide's own fill.sh prints them over the translation 64d077e9fdcf8912… (all of the seat's roots in one cut). By AI agents, Wed Nov 11 2026. No macro, syntax, notation, axiom, sorry.
-/
import Derived.Test.YtnhgfbgdoelfoaaGreatDoorChecked
import GoSem.Claim
import GoSem.ClaimJoined
import GoSem.ClaimMapViews
import Derived.JoinedTies
import Derived.KernelRfl
namespace Go.Proofs.YtnhgfbgdoelfoaaGreatDoor
/- THE CELL 'sum', in the pinned program and in every row, IS THE sha256 OF THE DUMP (.gsa) THAT YtnhgfbgdoelfoaaGreatDoorProg.lean LOADS. Nothing in Lean hashes anything: it is a label: what it is worth is what the hold of that sum in a sandbox is worth. -/
noncomputable def Tryz.pinned : Pinned := { name := "ytnhgfbgdoelfoaagreatdoor", sum := "64d077e9fdcf8912a5a4964de13eaa76c8b593a11d6c494b90b0c36c7e13af05", checked := Tryz.checked }
namespace Rows
def none {H : Type} : Left H := { results := [], args := [] }

/- WHAT THE LISTED PACKAGE-LEVEL VARIABLES READ AS WHEN THE CALL BEGINS. Each datum BY PROGRAM (the guide's laid-datum.mjs) off the statement by which the dump's own 'gosem.cut.vars' lays the variable. In a bare row this is a premise. The card (YtnhgfbgdoelfoaaGreatDoorCards.lean) ties it to the program's text. -/
def laid_pub_mailsack_pub_kmsg_inner_kbin_ErrNotEnoughData {H : Type} : DataW H := .iface "*errors.errorString" (.ptr (.agg [.lit (.string [114, 101, 115, 112, 111, 110, 115, 101, 32, 100, 105, 100, 32, 110, 111, 116, 32, 99, 111, 110, 116, 97, 105, 110, 32, 101, 110, 111, 117, 103, 104, 32, 100, 97, 116, 97, 32, 116, 111, 32, 98, 101, 32, 118, 97, 108, 105, 100])]))

/-- 'laws.FnBehindAlterReplicaLogDirsRequest': WHATEVER THE INPUT: true; the input reads as it did. -/
def fnBehindAlterReplicaLogDirsRequestSpec : ChangeSpec := { name := "fnBehindAlterReplicaLogDirsRequest", fn := fun _ => fun
  | [d1, d2, d3] => { results := [.lit (.bool true)], args := [d1, d2, d3] }
  | _ => none }
def fnBehindAlterReplicaLogDirsRequestRow : OpenClaim := { program := "ytnhgfbgdoelfoaagreatdoor", sum := "64d077e9fdcf8912a5a4964de13eaa76c8b593a11d6c494b90b0c36c7e13af05", func := "pub-mailsack/laws.FnBehindAlterReplicaLogDirsRequest", spec := "fnBehindAlterReplicaLogDirsRequest", inPlace := ["internal/reflectlite.ValueOf", "internal/reflectlite.Swapper", "(internal/reflectlite.Value).Len"], unfollowed := true, recurses := true, named := ["encoding/binary.BigEndian", "pub-mailsack/pub/kmsg/inner/kbin.ErrNotEnoughData"], loops := true, apart := false, laid := [("pub-mailsack/pub/kmsg/inner/kbin.ErrNotEnoughData", laid_pub_mailsack_pub_kmsg_inner_kbin_ErrNotEnoughData)] }
def FnBehindAlterReplicaLogDirsRequestSaid : Prop := fnBehindAlterReplicaLogDirsRequestRow.holds Tryz.pinned (OpenSpec.ofChange fnBehindAlterReplicaLogDirsRequestSpec)

/-- ITS FALSE NEIGHBOUR: 'it returns false'. Refute it at one input. -/
def fnBehindAlterReplicaLogDirsRequestWrong : ChangeSpec := { name := "fnBehindAlterReplicaLogDirsRequest", fn := fun _ => fun
  | [d1, d2, d3] => { results := [.lit (.bool false)], args := [d1, d2, d3] }
  | _ => none }
def FnBehindAlterReplicaLogDirsRequestWrongFalsely : Prop := fnBehindAlterReplicaLogDirsRequestRow.holds Tryz.pinned (OpenSpec.ofChange fnBehindAlterReplicaLogDirsRequestWrong)

/-- 'laws.FnBehindWriteShareGroupStateResponse': WHATEVER THE INPUT: true; the input reads as it did. -/
def fnBehindWriteShareGroupStateResponseSpec : ChangeSpec := { name := "fnBehindWriteShareGroupStateResponse", fn := fun _ => fun
  | [d1, d2, d3] => { results := [.lit (.bool true)], args := [d1, d2, d3] }
  | _ => none }
def fnBehindWriteShareGroupStateResponseRow : OpenClaim := { program := "ytnhgfbgdoelfoaagreatdoor", sum := "64d077e9fdcf8912a5a4964de13eaa76c8b593a11d6c494b90b0c36c7e13af05", func := "pub-mailsack/laws.FnBehindWriteShareGroupStateResponse", spec := "fnBehindWriteShareGroupStateResponse", inPlace := ["internal/reflectlite.ValueOf", "internal/reflectlite.Swapper", "(internal/reflectlite.Value).Len"], unfollowed := true, recurses := true, named := ["encoding/binary.BigEndian", "pub-mailsack/pub/kmsg/inner/kbin.ErrNotEnoughData"], loops := true, apart := false, laid := [("pub-mailsack/pub/kmsg/inner/kbin.ErrNotEnoughData", laid_pub_mailsack_pub_kmsg_inner_kbin_ErrNotEnoughData)] }
def FnBehindWriteShareGroupStateResponseSaid : Prop := fnBehindWriteShareGroupStateResponseRow.holds Tryz.pinned (OpenSpec.ofChange fnBehindWriteShareGroupStateResponseSpec)

/-- ITS FALSE NEIGHBOUR: 'it returns false'. Refute it at one input. -/
def fnBehindWriteShareGroupStateResponseWrong : ChangeSpec := { name := "fnBehindWriteShareGroupStateResponse", fn := fun _ => fun
  | [d1, d2, d3] => { results := [.lit (.bool false)], args := [d1, d2, d3] }
  | _ => none }
def FnBehindWriteShareGroupStateResponseWrongFalsely : Prop := fnBehindWriteShareGroupStateResponseRow.holds Tryz.pinned (OpenSpec.ofChange fnBehindWriteShareGroupStateResponseWrong)

/-- 'laws.FnBehindListOffsetsRequest': WHATEVER THE INPUT: true; the input reads as it did. -/
def fnBehindListOffsetsRequestSpec : ChangeSpec := { name := "fnBehindListOffsetsRequest", fn := fun _ => fun
  | [d1, d2, d3] => { results := [.lit (.bool true)], args := [d1, d2, d3] }
  | _ => none }
def fnBehindListOffsetsRequestRow : OpenClaim := { program := "ytnhgfbgdoelfoaagreatdoor", sum := "64d077e9fdcf8912a5a4964de13eaa76c8b593a11d6c494b90b0c36c7e13af05", func := "pub-mailsack/laws.FnBehindListOffsetsRequest", spec := "fnBehindListOffsetsRequest", inPlace := ["internal/reflectlite.ValueOf", "internal/reflectlite.Swapper", "(internal/reflectlite.Value).Len"], unfollowed := true, recurses := true, named := ["encoding/binary.BigEndian", "pub-mailsack/pub/kmsg/inner/kbin.ErrNotEnoughData"], loops := true, apart := false, laid := [("pub-mailsack/pub/kmsg/inner/kbin.ErrNotEnoughData", laid_pub_mailsack_pub_kmsg_inner_kbin_ErrNotEnoughData)] }
def FnBehindListOffsetsRequestSaid : Prop := fnBehindListOffsetsRequestRow.holds Tryz.pinned (OpenSpec.ofChange fnBehindListOffsetsRequestSpec)

/-- ITS FALSE NEIGHBOUR: 'it returns false'. Refute it at one input. -/
def fnBehindListOffsetsRequestWrong : ChangeSpec := { name := "fnBehindListOffsetsRequest", fn := fun _ => fun
  | [d1, d2, d3] => { results := [.lit (.bool false)], args := [d1, d2, d3] }
  | _ => none }
def FnBehindListOffsetsRequestWrongFalsely : Prop := fnBehindListOffsetsRequestRow.holds Tryz.pinned (OpenSpec.ofChange fnBehindListOffsetsRequestWrong)

/-- 'laws.FnBehindAlterShareGroupOffsetsResponse': WHATEVER THE INPUT: true; the input reads as it did. -/
def fnBehindAlterShareGroupOffsetsResponseSpec : ChangeSpec := { name := "fnBehindAlterShareGroupOffsetsResponse", fn := fun _ => fun
  | [d1, d2, d3] => { results := [.lit (.bool true)], args := [d1, d2, d3] }
  | _ => none }
def fnBehindAlterShareGroupOffsetsResponseRow : OpenClaim := { program := "ytnhgfbgdoelfoaagreatdoor", sum := "64d077e9fdcf8912a5a4964de13eaa76c8b593a11d6c494b90b0c36c7e13af05", func := "pub-mailsack/laws.FnBehindAlterShareGroupOffsetsResponse", spec := "fnBehindAlterShareGroupOffsetsResponse", inPlace := ["internal/reflectlite.ValueOf", "internal/reflectlite.Swapper", "(internal/reflectlite.Value).Len"], unfollowed := true, recurses := true, named := ["encoding/binary.BigEndian", "pub-mailsack/pub/kmsg/inner/kbin.ErrNotEnoughData"], loops := true, apart := false, laid := [("pub-mailsack/pub/kmsg/inner/kbin.ErrNotEnoughData", laid_pub_mailsack_pub_kmsg_inner_kbin_ErrNotEnoughData)] }
def FnBehindAlterShareGroupOffsetsResponseSaid : Prop := fnBehindAlterShareGroupOffsetsResponseRow.holds Tryz.pinned (OpenSpec.ofChange fnBehindAlterShareGroupOffsetsResponseSpec)

/-- ITS FALSE NEIGHBOUR: 'it returns false'. Refute it at one input. -/
def fnBehindAlterShareGroupOffsetsResponseWrong : ChangeSpec := { name := "fnBehindAlterShareGroupOffsetsResponse", fn := fun _ => fun
  | [d1, d2, d3] => { results := [.lit (.bool false)], args := [d1, d2, d3] }
  | _ => none }
def FnBehindAlterShareGroupOffsetsResponseWrongFalsely : Prop := fnBehindAlterShareGroupOffsetsResponseRow.holds Tryz.pinned (OpenSpec.ofChange fnBehindAlterShareGroupOffsetsResponseWrong)

/-- 'laws.FnBehindJoinGroupResponse': WHATEVER THE INPUT: true; the input reads as it did. -/
def fnBehindJoinGroupResponseSpec : ChangeSpec := { name := "fnBehindJoinGroupResponse", fn := fun _ => fun
  | [d1, d2, d3] => { results := [.lit (.bool true)], args := [d1, d2, d3] }
  | _ => none }
def fnBehindJoinGroupResponseRow : OpenClaim := { program := "ytnhgfbgdoelfoaagreatdoor", sum := "64d077e9fdcf8912a5a4964de13eaa76c8b593a11d6c494b90b0c36c7e13af05", func := "pub-mailsack/laws.FnBehindJoinGroupResponse", spec := "fnBehindJoinGroupResponse", inPlace := ["internal/reflectlite.ValueOf", "internal/reflectlite.Swapper", "(internal/reflectlite.Value).Len"], unfollowed := true, recurses := true, named := ["encoding/binary.BigEndian", "pub-mailsack/pub/kmsg/inner/kbin.ErrNotEnoughData"], loops := true, apart := false, laid := [("pub-mailsack/pub/kmsg/inner/kbin.ErrNotEnoughData", laid_pub_mailsack_pub_kmsg_inner_kbin_ErrNotEnoughData)] }
def FnBehindJoinGroupResponseSaid : Prop := fnBehindJoinGroupResponseRow.holds Tryz.pinned (OpenSpec.ofChange fnBehindJoinGroupResponseSpec)

/-- ITS FALSE NEIGHBOUR: 'it returns false'. Refute it at one input. -/
def fnBehindJoinGroupResponseWrong : ChangeSpec := { name := "fnBehindJoinGroupResponse", fn := fun _ => fun
  | [d1, d2, d3] => { results := [.lit (.bool false)], args := [d1, d2, d3] }
  | _ => none }
def FnBehindJoinGroupResponseWrongFalsely : Prop := fnBehindJoinGroupResponseRow.holds Tryz.pinned (OpenSpec.ofChange fnBehindJoinGroupResponseWrong)

/-- 'laws.FnBehindProduceResponse': WHATEVER THE INPUT: true; the input reads as it did. -/
def fnBehindProduceResponseSpec : ChangeSpec := { name := "fnBehindProduceResponse", fn := fun _ => fun
  | [d1, d2, d3] => { results := [.lit (.bool true)], args := [d1, d2, d3] }
  | _ => none }
def fnBehindProduceResponseRow : OpenClaim := { program := "ytnhgfbgdoelfoaagreatdoor", sum := "64d077e9fdcf8912a5a4964de13eaa76c8b593a11d6c494b90b0c36c7e13af05", func := "pub-mailsack/laws.FnBehindProduceResponse", spec := "fnBehindProduceResponse", inPlace := ["internal/reflectlite.ValueOf", "internal/reflectlite.Swapper", "(internal/reflectlite.Value).Len"], unfollowed := true, recurses := true, named := ["encoding/binary.BigEndian", "pub-mailsack/pub/kmsg/inner/kbin.ErrNotEnoughData"], loops := true, apart := false, laid := [("pub-mailsack/pub/kmsg/inner/kbin.ErrNotEnoughData", laid_pub_mailsack_pub_kmsg_inner_kbin_ErrNotEnoughData)] }
def FnBehindProduceResponseSaid : Prop := fnBehindProduceResponseRow.holds Tryz.pinned (OpenSpec.ofChange fnBehindProduceResponseSpec)

/-- ITS FALSE NEIGHBOUR: 'it returns false'. Refute it at one input. -/
def fnBehindProduceResponseWrong : ChangeSpec := { name := "fnBehindProduceResponse", fn := fun _ => fun
  | [d1, d2, d3] => { results := [.lit (.bool false)], args := [d1, d2, d3] }
  | _ => none }
def FnBehindProduceResponseWrongFalsely : Prop := fnBehindProduceResponseRow.holds Tryz.pinned (OpenSpec.ofChange fnBehindProduceResponseWrong)

/-- 'laws.FnTellInitProducerIDRequest': WHATEVER THE INPUT: true; the input reads as it did. -/
def fnTellInitProducerIDRequestSpec : ChangeSpec := { name := "fnTellInitProducerIDRequest", fn := fun _ => fun
  | [d1, d2] => { results := [.lit (.bool true)], args := [d1, d2] }
  | _ => none }
def fnTellInitProducerIDRequestRow : OpenClaim := { program := "ytnhgfbgdoelfoaagreatdoor", sum := "64d077e9fdcf8912a5a4964de13eaa76c8b593a11d6c494b90b0c36c7e13af05", func := "pub-mailsack/laws.FnTellInitProducerIDRequest", spec := "fnTellInitProducerIDRequest", inPlace := ["internal/reflectlite.ValueOf", "internal/reflectlite.Swapper", "(internal/reflectlite.Value).Len"], unfollowed := true, recurses := true, named := ["encoding/binary.BigEndian", "pub-mailsack/pub/kmsg/inner/kbin.ErrNotEnoughData"], loops := true, apart := false, laid := [("pub-mailsack/pub/kmsg/inner/kbin.ErrNotEnoughData", laid_pub_mailsack_pub_kmsg_inner_kbin_ErrNotEnoughData)] }
def FnTellInitProducerIDRequestSaid : Prop := fnTellInitProducerIDRequestRow.holds Tryz.pinned (OpenSpec.ofChange fnTellInitProducerIDRequestSpec)

/-- ITS FALSE NEIGHBOUR: 'it returns false'. Refute it at one input. -/
def fnTellInitProducerIDRequestWrong : ChangeSpec := { name := "fnTellInitProducerIDRequest", fn := fun _ => fun
  | [d1, d2] => { results := [.lit (.bool false)], args := [d1, d2] }
  | _ => none }
def FnTellInitProducerIDRequestWrongFalsely : Prop := fnTellInitProducerIDRequestRow.holds Tryz.pinned (OpenSpec.ofChange fnTellInitProducerIDRequestWrong)

/- THE SECOND FORM. 'bulk': how many values and letters a reading holds, each counted each time it is reached (what is shared counts as often as it is met; a slice's spare places count too). A statement '..UptoSaid' is the law's where the arguments, and the package variables that the reading takes, are together of bulk at most 1048576: NARROWER than '..Said'. Prove '..Said' where nothing that the law and all that it calls make is longer than what came in: it says more and counts as full. Else prove '..UptoSaid'. A law counts once. -/
mutual
def uptoBulk {H : Type} : DataW H → Nat
  | .lit (.string bytes) => bytes.length + 1
  | .lit _ => 1
  | .nil => 1
  | .ptr d => uptoBulk d + 1
  | .slice elems spare => uptoBulkAll elems + uptoBulkAll spare + 1
  | .agg parts => uptoBulkAll parts + 1
  | .iface _ d => uptoBulk d + 1
  | .map entries => uptoBulkEntries entries + 1
  | .held _ => 1
def uptoBulkAll {H : Type} : List (DataW H) → Nat
  | [] => 0
  | d :: r => uptoBulk d + uptoBulkAll r
def uptoBulkEntries {H : Type} : List (Lit × DataW H) → Nat
  | [] => 0
  | x :: r => uptoBulkEntry x + uptoBulkEntries r
def uptoBulkEntry {H : Type} : Lit × DataW H → Nat
  | (.string bytes, d) => bytes.length + uptoBulk d + 1
  | (_, d) => uptoBulk d + 1
 end
def uptoSmall : (H : Type) → List (DataW H) → Bool := fun _ ds => decide (uptoBulkAll ds ≤ 1048576)
def OpenSpec.upto (s : _root_.Go.ChangeSpec) : _root_.Go.OpenSpec := { _root_.Go.OpenSpec.ofChange s with cond := some uptoSmall }

/-- 'laws.FnBehindAlterReplicaLogDirsRequest', WHERE WHAT IT READS IS OF BULK AT MOST 1048576: true; the input reads as it did. -/
def fnBehindAlterReplicaLogDirsRequestUptoRow : OpenClaim := { program := "ytnhgfbgdoelfoaagreatdoor", sum := "64d077e9fdcf8912a5a4964de13eaa76c8b593a11d6c494b90b0c36c7e13af05", func := "pub-mailsack/laws.FnBehindAlterReplicaLogDirsRequest", spec := "fnBehindAlterReplicaLogDirsRequest", inPlace := ["internal/reflectlite.ValueOf", "internal/reflectlite.Swapper", "(internal/reflectlite.Value).Len"], unfollowed := true, recurses := true, named := ["encoding/binary.BigEndian", "pub-mailsack/pub/kmsg/inner/kbin.ErrNotEnoughData"], loops := true, apart := false, laid := [("pub-mailsack/pub/kmsg/inner/kbin.ErrNotEnoughData", laid_pub_mailsack_pub_kmsg_inner_kbin_ErrNotEnoughData)], narrowed := true }
def FnBehindAlterReplicaLogDirsRequestUptoSaid : Prop := fnBehindAlterReplicaLogDirsRequestUptoRow.holds Tryz.pinned (OpenSpec.upto fnBehindAlterReplicaLogDirsRequestSpec)

/-- 'laws.FnBehindWriteShareGroupStateResponse', WHERE WHAT IT READS IS OF BULK AT MOST 1048576: true; the input reads as it did. -/
def fnBehindWriteShareGroupStateResponseUptoRow : OpenClaim := { program := "ytnhgfbgdoelfoaagreatdoor", sum := "64d077e9fdcf8912a5a4964de13eaa76c8b593a11d6c494b90b0c36c7e13af05", func := "pub-mailsack/laws.FnBehindWriteShareGroupStateResponse", spec := "fnBehindWriteShareGroupStateResponse", inPlace := ["internal/reflectlite.ValueOf", "internal/reflectlite.Swapper", "(internal/reflectlite.Value).Len"], unfollowed := true, recurses := true, named := ["encoding/binary.BigEndian", "pub-mailsack/pub/kmsg/inner/kbin.ErrNotEnoughData"], loops := true, apart := false, laid := [("pub-mailsack/pub/kmsg/inner/kbin.ErrNotEnoughData", laid_pub_mailsack_pub_kmsg_inner_kbin_ErrNotEnoughData)], narrowed := true }
def FnBehindWriteShareGroupStateResponseUptoSaid : Prop := fnBehindWriteShareGroupStateResponseUptoRow.holds Tryz.pinned (OpenSpec.upto fnBehindWriteShareGroupStateResponseSpec)

/-- 'laws.FnBehindListOffsetsRequest', WHERE WHAT IT READS IS OF BULK AT MOST 1048576: true; the input reads as it did. -/
def fnBehindListOffsetsRequestUptoRow : OpenClaim := { program := "ytnhgfbgdoelfoaagreatdoor", sum := "64d077e9fdcf8912a5a4964de13eaa76c8b593a11d6c494b90b0c36c7e13af05", func := "pub-mailsack/laws.FnBehindListOffsetsRequest", spec := "fnBehindListOffsetsRequest", inPlace := ["internal/reflectlite.ValueOf", "internal/reflectlite.Swapper", "(internal/reflectlite.Value).Len"], unfollowed := true, recurses := true, named := ["encoding/binary.BigEndian", "pub-mailsack/pub/kmsg/inner/kbin.ErrNotEnoughData"], loops := true, apart := false, laid := [("pub-mailsack/pub/kmsg/inner/kbin.ErrNotEnoughData", laid_pub_mailsack_pub_kmsg_inner_kbin_ErrNotEnoughData)], narrowed := true }
def FnBehindListOffsetsRequestUptoSaid : Prop := fnBehindListOffsetsRequestUptoRow.holds Tryz.pinned (OpenSpec.upto fnBehindListOffsetsRequestSpec)

/-- 'laws.FnBehindAlterShareGroupOffsetsResponse', WHERE WHAT IT READS IS OF BULK AT MOST 1048576: true; the input reads as it did. -/
def fnBehindAlterShareGroupOffsetsResponseUptoRow : OpenClaim := { program := "ytnhgfbgdoelfoaagreatdoor", sum := "64d077e9fdcf8912a5a4964de13eaa76c8b593a11d6c494b90b0c36c7e13af05", func := "pub-mailsack/laws.FnBehindAlterShareGroupOffsetsResponse", spec := "fnBehindAlterShareGroupOffsetsResponse", inPlace := ["internal/reflectlite.ValueOf", "internal/reflectlite.Swapper", "(internal/reflectlite.Value).Len"], unfollowed := true, recurses := true, named := ["encoding/binary.BigEndian", "pub-mailsack/pub/kmsg/inner/kbin.ErrNotEnoughData"], loops := true, apart := false, laid := [("pub-mailsack/pub/kmsg/inner/kbin.ErrNotEnoughData", laid_pub_mailsack_pub_kmsg_inner_kbin_ErrNotEnoughData)], narrowed := true }
def FnBehindAlterShareGroupOffsetsResponseUptoSaid : Prop := fnBehindAlterShareGroupOffsetsResponseUptoRow.holds Tryz.pinned (OpenSpec.upto fnBehindAlterShareGroupOffsetsResponseSpec)

/-- 'laws.FnBehindJoinGroupResponse', WHERE WHAT IT READS IS OF BULK AT MOST 1048576: true; the input reads as it did. -/
def fnBehindJoinGroupResponseUptoRow : OpenClaim := { program := "ytnhgfbgdoelfoaagreatdoor", sum := "64d077e9fdcf8912a5a4964de13eaa76c8b593a11d6c494b90b0c36c7e13af05", func := "pub-mailsack/laws.FnBehindJoinGroupResponse", spec := "fnBehindJoinGroupResponse", inPlace := ["internal/reflectlite.ValueOf", "internal/reflectlite.Swapper", "(internal/reflectlite.Value).Len"], unfollowed := true, recurses := true, named := ["encoding/binary.BigEndian", "pub-mailsack/pub/kmsg/inner/kbin.ErrNotEnoughData"], loops := true, apart := false, laid := [("pub-mailsack/pub/kmsg/inner/kbin.ErrNotEnoughData", laid_pub_mailsack_pub_kmsg_inner_kbin_ErrNotEnoughData)], narrowed := true }
def FnBehindJoinGroupResponseUptoSaid : Prop := fnBehindJoinGroupResponseUptoRow.holds Tryz.pinned (OpenSpec.upto fnBehindJoinGroupResponseSpec)

/-- 'laws.FnBehindProduceResponse', WHERE WHAT IT READS IS OF BULK AT MOST 1048576: true; the input reads as it did. -/
def fnBehindProduceResponseUptoRow : OpenClaim := { program := "ytnhgfbgdoelfoaagreatdoor", sum := "64d077e9fdcf8912a5a4964de13eaa76c8b593a11d6c494b90b0c36c7e13af05", func := "pub-mailsack/laws.FnBehindProduceResponse", spec := "fnBehindProduceResponse", inPlace := ["internal/reflectlite.ValueOf", "internal/reflectlite.Swapper", "(internal/reflectlite.Value).Len"], unfollowed := true, recurses := true, named := ["encoding/binary.BigEndian", "pub-mailsack/pub/kmsg/inner/kbin.ErrNotEnoughData"], loops := true, apart := false, laid := [("pub-mailsack/pub/kmsg/inner/kbin.ErrNotEnoughData", laid_pub_mailsack_pub_kmsg_inner_kbin_ErrNotEnoughData)], narrowed := true }
def FnBehindProduceResponseUptoSaid : Prop := fnBehindProduceResponseUptoRow.holds Tryz.pinned (OpenSpec.upto fnBehindProduceResponseSpec)

/-- 'laws.FnTellInitProducerIDRequest', WHERE WHAT IT READS IS OF BULK AT MOST 1048576: true; the input reads as it did. -/
def fnTellInitProducerIDRequestUptoRow : OpenClaim := { program := "ytnhgfbgdoelfoaagreatdoor", sum := "64d077e9fdcf8912a5a4964de13eaa76c8b593a11d6c494b90b0c36c7e13af05", func := "pub-mailsack/laws.FnTellInitProducerIDRequest", spec := "fnTellInitProducerIDRequest", inPlace := ["internal/reflectlite.ValueOf", "internal/reflectlite.Swapper", "(internal/reflectlite.Value).Len"], unfollowed := true, recurses := true, named := ["encoding/binary.BigEndian", "pub-mailsack/pub/kmsg/inner/kbin.ErrNotEnoughData"], loops := true, apart := false, laid := [("pub-mailsack/pub/kmsg/inner/kbin.ErrNotEnoughData", laid_pub_mailsack_pub_kmsg_inner_kbin_ErrNotEnoughData)], narrowed := true }
def FnTellInitProducerIDRequestUptoSaid : Prop := fnTellInitProducerIDRequestUptoRow.holds Tryz.pinned (OpenSpec.upto fnTellInitProducerIDRequestSpec)

end Rows
end Go.Proofs.YtnhgfbgdoelfoaaGreatDoor
