/-
  NARROWER THAN 'FOR EVERY INPUT', by the rows' own cells (each row's printed sentence says how): FnFrameOffsetCommitRequest: loops, laid · FnFrameTxnOffsetCommitRequest: loops, laid · FnFrameDescribeDelegationTokenRequest: loops, laid · FnFrameUpdateFeaturesRequest: loops, laid · FnFrameReadShareGroupStateRequest: loops, laid · FnFrameOffsetForLeaderEpochRequest: loops, laid · FnFrameInitializeShareGroupStateRequest: loops, laid.
  DERIVED. THE GIVEN ROWS OF THIS SEAT. 7 by the template 'for every input the law returns true; each argument reads behind the call as it read before'; 0 by the template 'total and deterministic' (their statements: YtogokkkdfcgncaaGreatDoorTotals.lean).
  GIVEN WITH THE SEED: the statements are not yours to turn. If you find one false, say at which input.
  Laid BY PROGRAM, IN A SANDBOX (cutbox-rows.mjs): the forced cells as the released guide's own fill.sh prints them over the translation 34579cacc43bfbef… (all of the seat's roots in one cut). By AI agents, Wed Nov 11 2026. No macro, syntax, notation, axiom, sorry.
-/
import Derived.Test.YtogokkkdfcgncaaGreatDoorChecked
import GoSem.Claim
import GoSem.ClaimJoined
import GoSem.ClaimMapViews
import Derived.JoinedTies
import Derived.KernelRfl
namespace Go.Proofs.YtogokkkdfcgncaaGreatDoor
/- THE CELL 'sum', in the pinned program and in every row, IS THE sha256 OF THE DUMP (.gsa) THAT YtogokkkdfcgncaaGreatDoorProg.lean LOADS. Nothing in Lean hashes anything: it is a label: what it is worth is what the hold of that sum in a sandbox is worth. -/
noncomputable def Tryz.pinned : Pinned := { name := "ytogokkkdfcgncaagreatdoor", sum := "34579cacc43bfbef77036905f42cbcac040569e666b301bc81dcaeaf5307c4b4", checked := Tryz.checked }
namespace Rows
def none {H : Type} : Left H := { results := [], args := [] }

/- WHAT THE LISTED PACKAGE-LEVEL VARIABLES READ AS WHEN THE CALL BEGINS. Each datum BY PROGRAM (the guide's laid-datum.mjs) off the statement by which the dump's own 'gosem.cut.vars' lays the variable. In a bare row this is a premise. The card (YtogokkkdfcgncaaGreatDoorCards.lean) ties it to the program's text. -/
def laid_pub_mailsack_pub_kmsg_inner_kbin_ErrNotEnoughData {H : Type} : DataW H := .iface "*errors.errorString" (.ptr (.agg [.lit (.string [114, 101, 115, 112, 111, 110, 115, 101, 32, 100, 105, 100, 32, 110, 111, 116, 32, 99, 111, 110, 116, 97, 105, 110, 32, 101, 110, 111, 117, 103, 104, 32, 100, 97, 116, 97, 32, 116, 111, 32, 98, 101, 32, 118, 97, 108, 105, 100])]))

/-- 'laws.FnFrameOffsetCommitRequest': WHATEVER THE INPUT: true; the input reads as it did. -/
def fnFrameOffsetCommitRequestSpec : ChangeSpec := { name := "fnFrameOffsetCommitRequest", fn := fun _ => fun
  | [d1, d2, d3, d4] => { results := [.lit (.bool true)], args := [d1, d2, d3, d4] }
  | _ => none }
def fnFrameOffsetCommitRequestRow : OpenClaim := { program := "ytogokkkdfcgncaagreatdoor", sum := "34579cacc43bfbef77036905f42cbcac040569e666b301bc81dcaeaf5307c4b4", func := "pub-mailsack/laws.FnFrameOffsetCommitRequest", spec := "fnFrameOffsetCommitRequest", unfollowed := true, recurses := true, named := ["encoding/binary.BigEndian", "pub-mailsack/pub/kmsg/inner/kbin.ErrNotEnoughData"], loops := true, apart := false, laid := [("pub-mailsack/pub/kmsg/inner/kbin.ErrNotEnoughData", laid_pub_mailsack_pub_kmsg_inner_kbin_ErrNotEnoughData)] }
def FnFrameOffsetCommitRequestSaid : Prop := fnFrameOffsetCommitRequestRow.holds Tryz.pinned (OpenSpec.ofChange fnFrameOffsetCommitRequestSpec)

/-- ITS FALSE NEIGHBOUR: 'it returns false'. Refute it at one input. -/
def fnFrameOffsetCommitRequestWrong : ChangeSpec := { name := "fnFrameOffsetCommitRequest", fn := fun _ => fun
  | [d1, d2, d3, d4] => { results := [.lit (.bool false)], args := [d1, d2, d3, d4] }
  | _ => none }
def FnFrameOffsetCommitRequestWrongFalsely : Prop := fnFrameOffsetCommitRequestRow.holds Tryz.pinned (OpenSpec.ofChange fnFrameOffsetCommitRequestWrong)

/-- 'laws.FnFrameTxnOffsetCommitRequest': WHATEVER THE INPUT: true; the input reads as it did. -/
def fnFrameTxnOffsetCommitRequestSpec : ChangeSpec := { name := "fnFrameTxnOffsetCommitRequest", fn := fun _ => fun
  | [d1, d2, d3, d4] => { results := [.lit (.bool true)], args := [d1, d2, d3, d4] }
  | _ => none }
def fnFrameTxnOffsetCommitRequestRow : OpenClaim := { program := "ytogokkkdfcgncaagreatdoor", sum := "34579cacc43bfbef77036905f42cbcac040569e666b301bc81dcaeaf5307c4b4", func := "pub-mailsack/laws.FnFrameTxnOffsetCommitRequest", spec := "fnFrameTxnOffsetCommitRequest", unfollowed := true, recurses := true, named := ["encoding/binary.BigEndian", "pub-mailsack/pub/kmsg/inner/kbin.ErrNotEnoughData"], loops := true, apart := false, laid := [("pub-mailsack/pub/kmsg/inner/kbin.ErrNotEnoughData", laid_pub_mailsack_pub_kmsg_inner_kbin_ErrNotEnoughData)] }
def FnFrameTxnOffsetCommitRequestSaid : Prop := fnFrameTxnOffsetCommitRequestRow.holds Tryz.pinned (OpenSpec.ofChange fnFrameTxnOffsetCommitRequestSpec)

/-- ITS FALSE NEIGHBOUR: 'it returns false'. Refute it at one input. -/
def fnFrameTxnOffsetCommitRequestWrong : ChangeSpec := { name := "fnFrameTxnOffsetCommitRequest", fn := fun _ => fun
  | [d1, d2, d3, d4] => { results := [.lit (.bool false)], args := [d1, d2, d3, d4] }
  | _ => none }
def FnFrameTxnOffsetCommitRequestWrongFalsely : Prop := fnFrameTxnOffsetCommitRequestRow.holds Tryz.pinned (OpenSpec.ofChange fnFrameTxnOffsetCommitRequestWrong)

/-- 'laws.FnFrameDescribeDelegationTokenRequest': WHATEVER THE INPUT: true; the input reads as it did. -/
def fnFrameDescribeDelegationTokenRequestSpec : ChangeSpec := { name := "fnFrameDescribeDelegationTokenRequest", fn := fun _ => fun
  | [d1, d2, d3, d4] => { results := [.lit (.bool true)], args := [d1, d2, d3, d4] }
  | _ => none }
def fnFrameDescribeDelegationTokenRequestRow : OpenClaim := { program := "ytogokkkdfcgncaagreatdoor", sum := "34579cacc43bfbef77036905f42cbcac040569e666b301bc81dcaeaf5307c4b4", func := "pub-mailsack/laws.FnFrameDescribeDelegationTokenRequest", spec := "fnFrameDescribeDelegationTokenRequest", unfollowed := true, recurses := true, named := ["encoding/binary.BigEndian", "pub-mailsack/pub/kmsg/inner/kbin.ErrNotEnoughData"], loops := true, apart := false, laid := [("pub-mailsack/pub/kmsg/inner/kbin.ErrNotEnoughData", laid_pub_mailsack_pub_kmsg_inner_kbin_ErrNotEnoughData)] }
def FnFrameDescribeDelegationTokenRequestSaid : Prop := fnFrameDescribeDelegationTokenRequestRow.holds Tryz.pinned (OpenSpec.ofChange fnFrameDescribeDelegationTokenRequestSpec)

/-- ITS FALSE NEIGHBOUR: 'it returns false'. Refute it at one input. -/
def fnFrameDescribeDelegationTokenRequestWrong : ChangeSpec := { name := "fnFrameDescribeDelegationTokenRequest", fn := fun _ => fun
  | [d1, d2, d3, d4] => { results := [.lit (.bool false)], args := [d1, d2, d3, d4] }
  | _ => none }
def FnFrameDescribeDelegationTokenRequestWrongFalsely : Prop := fnFrameDescribeDelegationTokenRequestRow.holds Tryz.pinned (OpenSpec.ofChange fnFrameDescribeDelegationTokenRequestWrong)

/-- 'laws.FnFrameUpdateFeaturesRequest': WHATEVER THE INPUT: true; the input reads as it did. -/
def fnFrameUpdateFeaturesRequestSpec : ChangeSpec := { name := "fnFrameUpdateFeaturesRequest", fn := fun _ => fun
  | [d1, d2, d3, d4] => { results := [.lit (.bool true)], args := [d1, d2, d3, d4] }
  | _ => none }
def fnFrameUpdateFeaturesRequestRow : OpenClaim := { program := "ytogokkkdfcgncaagreatdoor", sum := "34579cacc43bfbef77036905f42cbcac040569e666b301bc81dcaeaf5307c4b4", func := "pub-mailsack/laws.FnFrameUpdateFeaturesRequest", spec := "fnFrameUpdateFeaturesRequest", unfollowed := true, recurses := true, named := ["encoding/binary.BigEndian", "pub-mailsack/pub/kmsg/inner/kbin.ErrNotEnoughData"], loops := true, apart := false, laid := [("pub-mailsack/pub/kmsg/inner/kbin.ErrNotEnoughData", laid_pub_mailsack_pub_kmsg_inner_kbin_ErrNotEnoughData)] }
def FnFrameUpdateFeaturesRequestSaid : Prop := fnFrameUpdateFeaturesRequestRow.holds Tryz.pinned (OpenSpec.ofChange fnFrameUpdateFeaturesRequestSpec)

/-- ITS FALSE NEIGHBOUR: 'it returns false'. Refute it at one input. -/
def fnFrameUpdateFeaturesRequestWrong : ChangeSpec := { name := "fnFrameUpdateFeaturesRequest", fn := fun _ => fun
  | [d1, d2, d3, d4] => { results := [.lit (.bool false)], args := [d1, d2, d3, d4] }
  | _ => none }
def FnFrameUpdateFeaturesRequestWrongFalsely : Prop := fnFrameUpdateFeaturesRequestRow.holds Tryz.pinned (OpenSpec.ofChange fnFrameUpdateFeaturesRequestWrong)

/-- 'laws.FnFrameReadShareGroupStateRequest': WHATEVER THE INPUT: true; the input reads as it did. -/
def fnFrameReadShareGroupStateRequestSpec : ChangeSpec := { name := "fnFrameReadShareGroupStateRequest", fn := fun _ => fun
  | [d1, d2, d3, d4] => { results := [.lit (.bool true)], args := [d1, d2, d3, d4] }
  | _ => none }
def fnFrameReadShareGroupStateRequestRow : OpenClaim := { program := "ytogokkkdfcgncaagreatdoor", sum := "34579cacc43bfbef77036905f42cbcac040569e666b301bc81dcaeaf5307c4b4", func := "pub-mailsack/laws.FnFrameReadShareGroupStateRequest", spec := "fnFrameReadShareGroupStateRequest", unfollowed := true, recurses := true, named := ["encoding/binary.BigEndian", "pub-mailsack/pub/kmsg/inner/kbin.ErrNotEnoughData"], loops := true, apart := false, laid := [("pub-mailsack/pub/kmsg/inner/kbin.ErrNotEnoughData", laid_pub_mailsack_pub_kmsg_inner_kbin_ErrNotEnoughData)] }
def FnFrameReadShareGroupStateRequestSaid : Prop := fnFrameReadShareGroupStateRequestRow.holds Tryz.pinned (OpenSpec.ofChange fnFrameReadShareGroupStateRequestSpec)

/-- ITS FALSE NEIGHBOUR: 'it returns false'. Refute it at one input. -/
def fnFrameReadShareGroupStateRequestWrong : ChangeSpec := { name := "fnFrameReadShareGroupStateRequest", fn := fun _ => fun
  | [d1, d2, d3, d4] => { results := [.lit (.bool false)], args := [d1, d2, d3, d4] }
  | _ => none }
def FnFrameReadShareGroupStateRequestWrongFalsely : Prop := fnFrameReadShareGroupStateRequestRow.holds Tryz.pinned (OpenSpec.ofChange fnFrameReadShareGroupStateRequestWrong)

/-- 'laws.FnFrameOffsetForLeaderEpochRequest': WHATEVER THE INPUT: true; the input reads as it did. -/
def fnFrameOffsetForLeaderEpochRequestSpec : ChangeSpec := { name := "fnFrameOffsetForLeaderEpochRequest", fn := fun _ => fun
  | [d1, d2, d3, d4] => { results := [.lit (.bool true)], args := [d1, d2, d3, d4] }
  | _ => none }
def fnFrameOffsetForLeaderEpochRequestRow : OpenClaim := { program := "ytogokkkdfcgncaagreatdoor", sum := "34579cacc43bfbef77036905f42cbcac040569e666b301bc81dcaeaf5307c4b4", func := "pub-mailsack/laws.FnFrameOffsetForLeaderEpochRequest", spec := "fnFrameOffsetForLeaderEpochRequest", unfollowed := true, recurses := true, named := ["encoding/binary.BigEndian", "pub-mailsack/pub/kmsg/inner/kbin.ErrNotEnoughData"], loops := true, apart := false, laid := [("pub-mailsack/pub/kmsg/inner/kbin.ErrNotEnoughData", laid_pub_mailsack_pub_kmsg_inner_kbin_ErrNotEnoughData)] }
def FnFrameOffsetForLeaderEpochRequestSaid : Prop := fnFrameOffsetForLeaderEpochRequestRow.holds Tryz.pinned (OpenSpec.ofChange fnFrameOffsetForLeaderEpochRequestSpec)

/-- ITS FALSE NEIGHBOUR: 'it returns false'. Refute it at one input. -/
def fnFrameOffsetForLeaderEpochRequestWrong : ChangeSpec := { name := "fnFrameOffsetForLeaderEpochRequest", fn := fun _ => fun
  | [d1, d2, d3, d4] => { results := [.lit (.bool false)], args := [d1, d2, d3, d4] }
  | _ => none }
def FnFrameOffsetForLeaderEpochRequestWrongFalsely : Prop := fnFrameOffsetForLeaderEpochRequestRow.holds Tryz.pinned (OpenSpec.ofChange fnFrameOffsetForLeaderEpochRequestWrong)

/-- 'laws.FnFrameInitializeShareGroupStateRequest': WHATEVER THE INPUT: true; the input reads as it did. -/
def fnFrameInitializeShareGroupStateRequestSpec : ChangeSpec := { name := "fnFrameInitializeShareGroupStateRequest", fn := fun _ => fun
  | [d1, d2, d3, d4] => { results := [.lit (.bool true)], args := [d1, d2, d3, d4] }
  | _ => none }
def fnFrameInitializeShareGroupStateRequestRow : OpenClaim := { program := "ytogokkkdfcgncaagreatdoor", sum := "34579cacc43bfbef77036905f42cbcac040569e666b301bc81dcaeaf5307c4b4", func := "pub-mailsack/laws.FnFrameInitializeShareGroupStateRequest", spec := "fnFrameInitializeShareGroupStateRequest", unfollowed := true, recurses := true, named := ["encoding/binary.BigEndian", "pub-mailsack/pub/kmsg/inner/kbin.ErrNotEnoughData"], loops := true, apart := false, laid := [("pub-mailsack/pub/kmsg/inner/kbin.ErrNotEnoughData", laid_pub_mailsack_pub_kmsg_inner_kbin_ErrNotEnoughData)] }
def FnFrameInitializeShareGroupStateRequestSaid : Prop := fnFrameInitializeShareGroupStateRequestRow.holds Tryz.pinned (OpenSpec.ofChange fnFrameInitializeShareGroupStateRequestSpec)

/-- ITS FALSE NEIGHBOUR: 'it returns false'. Refute it at one input. -/
def fnFrameInitializeShareGroupStateRequestWrong : ChangeSpec := { name := "fnFrameInitializeShareGroupStateRequest", fn := fun _ => fun
  | [d1, d2, d3, d4] => { results := [.lit (.bool false)], args := [d1, d2, d3, d4] }
  | _ => none }
def FnFrameInitializeShareGroupStateRequestWrongFalsely : Prop := fnFrameInitializeShareGroupStateRequestRow.holds Tryz.pinned (OpenSpec.ofChange fnFrameInitializeShareGroupStateRequestWrong)

/- THE SECOND FORM. 'bulk': how many values and letters a reading holds, each counted each time it is reached (what is shared counts as often as it is met; a slice's spare places count too). A statement '..UptoSaid' is the law's where the arguments, and the package variables that the reading takes, are together of bulk at most 1048576: NARROWER than '..Said'. Prove '..Said' where nothing that the law and all that it calls make is longer than what came in: it says more and counts as full. Else prove '..UptoSaid'. A law counts once. -/
mutual
def uptoBulk {H : Type} : DataW H → Nat
  | .lit (.string bytes) => bytes.length + 1
  | .lit _ => 1
  | .nil => 1
  | .ptr d => uptoBulk d + 1
  | .slice elems spare => uptoBulkAll elems + uptoBulkAll spare + 1
  | .agg parts => uptoBulkAll parts + 1
  | .iface _ d => uptoBulk d + 1
  | .map entries => uptoBulkEntries entries + 1
  | .held _ => 1
def uptoBulkAll {H : Type} : List (DataW H) → Nat
  | [] => 0
  | d :: r => uptoBulk d + uptoBulkAll r
def uptoBulkEntries {H : Type} : List (Lit × DataW H) → Nat
  | [] => 0
  | x :: r => uptoBulkEntry x + uptoBulkEntries r
def uptoBulkEntry {H : Type} : Lit × DataW H → Nat
  | (.string bytes, d) => bytes.length + uptoBulk d + 1
  | (_, d) => uptoBulk d + 1
 end
def uptoSmall : (H : Type) → List (DataW H) → Bool := fun _ ds => decide (uptoBulkAll ds ≤ 1048576)
def OpenSpec.upto (s : _root_.Go.ChangeSpec) : _root_.Go.OpenSpec := { _root_.Go.OpenSpec.ofChange s with cond := some uptoSmall }

/-- 'laws.FnFrameOffsetCommitRequest', WHERE WHAT IT READS IS OF BULK AT MOST 1048576: true; the input reads as it did. -/
def fnFrameOffsetCommitRequestUptoRow : OpenClaim := { program := "ytogokkkdfcgncaagreatdoor", sum := "34579cacc43bfbef77036905f42cbcac040569e666b301bc81dcaeaf5307c4b4", func := "pub-mailsack/laws.FnFrameOffsetCommitRequest", spec := "fnFrameOffsetCommitRequest", unfollowed := true, recurses := true, named := ["encoding/binary.BigEndian", "pub-mailsack/pub/kmsg/inner/kbin.ErrNotEnoughData"], loops := true, apart := false, laid := [("pub-mailsack/pub/kmsg/inner/kbin.ErrNotEnoughData", laid_pub_mailsack_pub_kmsg_inner_kbin_ErrNotEnoughData)], narrowed := true }
def FnFrameOffsetCommitRequestUptoSaid : Prop := fnFrameOffsetCommitRequestUptoRow.holds Tryz.pinned (OpenSpec.upto fnFrameOffsetCommitRequestSpec)

/-- 'laws.FnFrameTxnOffsetCommitRequest', WHERE WHAT IT READS IS OF BULK AT MOST 1048576: true; the input reads as it did. -/
def fnFrameTxnOffsetCommitRequestUptoRow : OpenClaim := { program := "ytogokkkdfcgncaagreatdoor", sum := "34579cacc43bfbef77036905f42cbcac040569e666b301bc81dcaeaf5307c4b4", func := "pub-mailsack/laws.FnFrameTxnOffsetCommitRequest", spec := "fnFrameTxnOffsetCommitRequest", unfollowed := true, recurses := true, named := ["encoding/binary.BigEndian", "pub-mailsack/pub/kmsg/inner/kbin.ErrNotEnoughData"], loops := true, apart := false, laid := [("pub-mailsack/pub/kmsg/inner/kbin.ErrNotEnoughData", laid_pub_mailsack_pub_kmsg_inner_kbin_ErrNotEnoughData)], narrowed := true }
def FnFrameTxnOffsetCommitRequestUptoSaid : Prop := fnFrameTxnOffsetCommitRequestUptoRow.holds Tryz.pinned (OpenSpec.upto fnFrameTxnOffsetCommitRequestSpec)

/-- 'laws.FnFrameDescribeDelegationTokenRequest', WHERE WHAT IT READS IS OF BULK AT MOST 1048576: true; the input reads as it did. -/
def fnFrameDescribeDelegationTokenRequestUptoRow : OpenClaim := { program := "ytogokkkdfcgncaagreatdoor", sum := "34579cacc43bfbef77036905f42cbcac040569e666b301bc81dcaeaf5307c4b4", func := "pub-mailsack/laws.FnFrameDescribeDelegationTokenRequest", spec := "fnFrameDescribeDelegationTokenRequest", unfollowed := true, recurses := true, named := ["encoding/binary.BigEndian", "pub-mailsack/pub/kmsg/inner/kbin.ErrNotEnoughData"], loops := true, apart := false, laid := [("pub-mailsack/pub/kmsg/inner/kbin.ErrNotEnoughData", laid_pub_mailsack_pub_kmsg_inner_kbin_ErrNotEnoughData)], narrowed := true }
def FnFrameDescribeDelegationTokenRequestUptoSaid : Prop := fnFrameDescribeDelegationTokenRequestUptoRow.holds Tryz.pinned (OpenSpec.upto fnFrameDescribeDelegationTokenRequestSpec)

/-- 'laws.FnFrameUpdateFeaturesRequest', WHERE WHAT IT READS IS OF BULK AT MOST 1048576: true; the input reads as it did. -/
def fnFrameUpdateFeaturesRequestUptoRow : OpenClaim := { program := "ytogokkkdfcgncaagreatdoor", sum := "34579cacc43bfbef77036905f42cbcac040569e666b301bc81dcaeaf5307c4b4", func := "pub-mailsack/laws.FnFrameUpdateFeaturesRequest", spec := "fnFrameUpdateFeaturesRequest", unfollowed := true, recurses := true, named := ["encoding/binary.BigEndian", "pub-mailsack/pub/kmsg/inner/kbin.ErrNotEnoughData"], loops := true, apart := false, laid := [("pub-mailsack/pub/kmsg/inner/kbin.ErrNotEnoughData", laid_pub_mailsack_pub_kmsg_inner_kbin_ErrNotEnoughData)], narrowed := true }
def FnFrameUpdateFeaturesRequestUptoSaid : Prop := fnFrameUpdateFeaturesRequestUptoRow.holds Tryz.pinned (OpenSpec.upto fnFrameUpdateFeaturesRequestSpec)

/-- 'laws.FnFrameReadShareGroupStateRequest', WHERE WHAT IT READS IS OF BULK AT MOST 1048576: true; the input reads as it did. -/
def fnFrameReadShareGroupStateRequestUptoRow : OpenClaim := { program := "ytogokkkdfcgncaagreatdoor", sum := "34579cacc43bfbef77036905f42cbcac040569e666b301bc81dcaeaf5307c4b4", func := "pub-mailsack/laws.FnFrameReadShareGroupStateRequest", spec := "fnFrameReadShareGroupStateRequest", unfollowed := true, recurses := true, named := ["encoding/binary.BigEndian", "pub-mailsack/pub/kmsg/inner/kbin.ErrNotEnoughData"], loops := true, apart := false, laid := [("pub-mailsack/pub/kmsg/inner/kbin.ErrNotEnoughData", laid_pub_mailsack_pub_kmsg_inner_kbin_ErrNotEnoughData)], narrowed := true }
def FnFrameReadShareGroupStateRequestUptoSaid : Prop := fnFrameReadShareGroupStateRequestUptoRow.holds Tryz.pinned (OpenSpec.upto fnFrameReadShareGroupStateRequestSpec)

/-- 'laws.FnFrameOffsetForLeaderEpochRequest', WHERE WHAT IT READS IS OF BULK AT MOST 1048576: true; the input reads as it did. -/
def fnFrameOffsetForLeaderEpochRequestUptoRow : OpenClaim := { program := "ytogokkkdfcgncaagreatdoor", sum := "34579cacc43bfbef77036905f42cbcac040569e666b301bc81dcaeaf5307c4b4", func := "pub-mailsack/laws.FnFrameOffsetForLeaderEpochRequest", spec := "fnFrameOffsetForLeaderEpochRequest", unfollowed := true, recurses := true, named := ["encoding/binary.BigEndian", "pub-mailsack/pub/kmsg/inner/kbin.ErrNotEnoughData"], loops := true, apart := false, laid := [("pub-mailsack/pub/kmsg/inner/kbin.ErrNotEnoughData", laid_pub_mailsack_pub_kmsg_inner_kbin_ErrNotEnoughData)], narrowed := true }
def FnFrameOffsetForLeaderEpochRequestUptoSaid : Prop := fnFrameOffsetForLeaderEpochRequestUptoRow.holds Tryz.pinned (OpenSpec.upto fnFrameOffsetForLeaderEpochRequestSpec)

/-- 'laws.FnFrameInitializeShareGroupStateRequest', WHERE WHAT IT READS IS OF BULK AT MOST 1048576: true; the input reads as it did. -/
def fnFrameInitializeShareGroupStateRequestUptoRow : OpenClaim := { program := "ytogokkkdfcgncaagreatdoor", sum := "34579cacc43bfbef77036905f42cbcac040569e666b301bc81dcaeaf5307c4b4", func := "pub-mailsack/laws.FnFrameInitializeShareGroupStateRequest", spec := "fnFrameInitializeShareGroupStateRequest", unfollowed := true, recurses := true, named := ["encoding/binary.BigEndian", "pub-mailsack/pub/kmsg/inner/kbin.ErrNotEnoughData"], loops := true, apart := false, laid := [("pub-mailsack/pub/kmsg/inner/kbin.ErrNotEnoughData", laid_pub_mailsack_pub_kmsg_inner_kbin_ErrNotEnoughData)], narrowed := true }
def FnFrameInitializeShareGroupStateRequestUptoSaid : Prop := fnFrameInitializeShareGroupStateRequestUptoRow.holds Tryz.pinned (OpenSpec.upto fnFrameInitializeShareGroupStateRequestSpec)

end Rows
end Go.Proofs.YtogokkkdfcgncaaGreatDoor
