/-
  NARROWER THAN 'FOR EVERY INPUT', by the rows' own cells (each row's printed sentence says how): FnBehindUpdateMetadataResponse: loops, laid · FnTellSASLHandshakeRequest: loops, laid · FnTellConnectMemberMetadata: loops, laid · FnTellControllerRegistrationResponse: loops, laid · FnTellEndTxnRequest: loops, laid.
  DERIVED. THE GIVEN ROWS OF THIS SEAT. 5 by the template 'for every input the law returns true; each argument reads behind the call as it read before'; 0 by the template 'total and deterministic' (their statements: YtnhgfbgdoelfoaaDoorTotals.lean).
  GIVEN WITH THE SEED: the statements are not yours to turn. If you find one false, say at which input.
  Laid BY PROGRAM, IN A SANDBOX (cutbox-rows.mjs): the forced cells as the released guide's own fill.sh prints them over the translation 59c52eb70f419e55… (all of the seat's roots in one cut). By AI agents, Wed Nov 11 2026. No macro, syntax, notation, axiom, sorry.
-/
import Derived.Test.YtnhgfbgdoelfoaaDoorChecked
import GoSem.Claim
import GoSem.ClaimJoined
import GoSem.ClaimMapViews
import Derived.JoinedTies
import Derived.KernelRfl
namespace Go.Proofs.YtnhgfbgdoelfoaaDoor
/- THE CELL 'sum', in the pinned program and in every row, IS THE sha256 OF THE DUMP (.gsa) THAT YtnhgfbgdoelfoaaDoorProg.lean LOADS. Nothing in Lean hashes anything: it is a label: what it is worth is what the hold of that sum in a sandbox is worth. -/
noncomputable def Tryd.pinned : Pinned := { name := "ytnhgfbgdoelfoaadoor", sum := "59c52eb70f419e55eb5579c4d9eaf28cfabde548e023cd0fd59e7e3f9a6ef4b0", checked := Tryd.checked }
namespace Rows
def none {H : Type} : Left H := { results := [], args := [] }

/- WHAT THE LISTED PACKAGE-LEVEL VARIABLES READ AS WHEN THE CALL BEGINS. Each datum BY PROGRAM (the guide's laid-datum.mjs) off the statement by which the dump's own 'gosem.cut.vars' lays the variable. In a bare row this is a premise. The card (YtnhgfbgdoelfoaaDoorCards.lean) ties it to the program's text. -/
def laid_pub_mailsack_pub_kmsg_inner_kbin_ErrNotEnoughData {H : Type} : DataW H := .iface "*errors.errorString" (.ptr (.agg [.lit (.string [114, 101, 115, 112, 111, 110, 115, 101, 32, 100, 105, 100, 32, 110, 111, 116, 32, 99, 111, 110, 116, 97, 105, 110, 32, 101, 110, 111, 117, 103, 104, 32, 100, 97, 116, 97, 32, 116, 111, 32, 98, 101, 32, 118, 97, 108, 105, 100])]))

/-- 'laws.FnBehindUpdateMetadataResponse': WHATEVER THE INPUT: true; the input reads as it did. -/
def fnBehindUpdateMetadataResponseSpec : ChangeSpec := { name := "fnBehindUpdateMetadataResponse", fn := fun _ => fun
  | [d1, d2, d3] => { results := [.lit (.bool true)], args := [d1, d2, d3] }
  | _ => none }
def fnBehindUpdateMetadataResponseRow : OpenClaim := { program := "ytnhgfbgdoelfoaadoor", sum := "59c52eb70f419e55eb5579c4d9eaf28cfabde548e023cd0fd59e7e3f9a6ef4b0", func := "pub-mailsack/laws.FnBehindUpdateMetadataResponse", spec := "fnBehindUpdateMetadataResponse", inPlace := ["internal/reflectlite.ValueOf", "internal/reflectlite.Swapper", "(internal/reflectlite.Value).Len"], unfollowed := true, recurses := true, named := ["encoding/binary.BigEndian", "pub-mailsack/pub/kmsg/inner/kbin.ErrNotEnoughData"], loops := true, apart := false, laid := [("pub-mailsack/pub/kmsg/inner/kbin.ErrNotEnoughData", laid_pub_mailsack_pub_kmsg_inner_kbin_ErrNotEnoughData)] }
def FnBehindUpdateMetadataResponseSaid : Prop := fnBehindUpdateMetadataResponseRow.holds Tryd.pinned (OpenSpec.ofChange fnBehindUpdateMetadataResponseSpec)

/-- ITS FALSE NEIGHBOUR: 'it returns false'. Refute it at one input. -/
def fnBehindUpdateMetadataResponseWrong : ChangeSpec := { name := "fnBehindUpdateMetadataResponse", fn := fun _ => fun
  | [d1, d2, d3] => { results := [.lit (.bool false)], args := [d1, d2, d3] }
  | _ => none }
def FnBehindUpdateMetadataResponseWrongFalsely : Prop := fnBehindUpdateMetadataResponseRow.holds Tryd.pinned (OpenSpec.ofChange fnBehindUpdateMetadataResponseWrong)

/-- 'laws.FnTellSASLHandshakeRequest': WHATEVER THE INPUT: true; the input reads as it did. -/
def fnTellSASLHandshakeRequestSpec : ChangeSpec := { name := "fnTellSASLHandshakeRequest", fn := fun _ => fun
  | [d1, d2] => { results := [.lit (.bool true)], args := [d1, d2] }
  | _ => none }
def fnTellSASLHandshakeRequestRow : OpenClaim := { program := "ytnhgfbgdoelfoaadoor", sum := "59c52eb70f419e55eb5579c4d9eaf28cfabde548e023cd0fd59e7e3f9a6ef4b0", func := "pub-mailsack/laws.FnTellSASLHandshakeRequest", spec := "fnTellSASLHandshakeRequest", recurses := true, named := ["encoding/binary.BigEndian", "pub-mailsack/pub/kmsg/inner/kbin.ErrNotEnoughData"], loops := true, apart := false, laid := [("pub-mailsack/pub/kmsg/inner/kbin.ErrNotEnoughData", laid_pub_mailsack_pub_kmsg_inner_kbin_ErrNotEnoughData)] }
def FnTellSASLHandshakeRequestSaid : Prop := fnTellSASLHandshakeRequestRow.holds Tryd.pinned (OpenSpec.ofChange fnTellSASLHandshakeRequestSpec)

/-- ITS FALSE NEIGHBOUR: 'it returns false'. Refute it at one input. -/
def fnTellSASLHandshakeRequestWrong : ChangeSpec := { name := "fnTellSASLHandshakeRequest", fn := fun _ => fun
  | [d1, d2] => { results := [.lit (.bool false)], args := [d1, d2] }
  | _ => none }
def FnTellSASLHandshakeRequestWrongFalsely : Prop := fnTellSASLHandshakeRequestRow.holds Tryd.pinned (OpenSpec.ofChange fnTellSASLHandshakeRequestWrong)

/-- 'laws.FnTellConnectMemberMetadata': WHATEVER THE INPUT: true; the input reads as it did. -/
def fnTellConnectMemberMetadataSpec : ChangeSpec := { name := "fnTellConnectMemberMetadata", fn := fun _ => fun
  | [d1, d2] => { results := [.lit (.bool true)], args := [d1, d2] }
  | _ => none }
def fnTellConnectMemberMetadataRow : OpenClaim := { program := "ytnhgfbgdoelfoaadoor", sum := "59c52eb70f419e55eb5579c4d9eaf28cfabde548e023cd0fd59e7e3f9a6ef4b0", func := "pub-mailsack/laws.FnTellConnectMemberMetadata", spec := "fnTellConnectMemberMetadata", recurses := true, named := ["encoding/binary.BigEndian", "pub-mailsack/pub/kmsg/inner/kbin.ErrNotEnoughData"], loops := true, apart := false, laid := [("pub-mailsack/pub/kmsg/inner/kbin.ErrNotEnoughData", laid_pub_mailsack_pub_kmsg_inner_kbin_ErrNotEnoughData)] }
def FnTellConnectMemberMetadataSaid : Prop := fnTellConnectMemberMetadataRow.holds Tryd.pinned (OpenSpec.ofChange fnTellConnectMemberMetadataSpec)

/-- ITS FALSE NEIGHBOUR: 'it returns false'. Refute it at one input. -/
def fnTellConnectMemberMetadataWrong : ChangeSpec := { name := "fnTellConnectMemberMetadata", fn := fun _ => fun
  | [d1, d2] => { results := [.lit (.bool false)], args := [d1, d2] }
  | _ => none }
def FnTellConnectMemberMetadataWrongFalsely : Prop := fnTellConnectMemberMetadataRow.holds Tryd.pinned (OpenSpec.ofChange fnTellConnectMemberMetadataWrong)

/-- 'laws.FnTellControllerRegistrationResponse': WHATEVER THE INPUT: true; the input reads as it did. -/
def fnTellControllerRegistrationResponseSpec : ChangeSpec := { name := "fnTellControllerRegistrationResponse", fn := fun _ => fun
  | [d1, d2] => { results := [.lit (.bool true)], args := [d1, d2] }
  | _ => none }
def fnTellControllerRegistrationResponseRow : OpenClaim := { program := "ytnhgfbgdoelfoaadoor", sum := "59c52eb70f419e55eb5579c4d9eaf28cfabde548e023cd0fd59e7e3f9a6ef4b0", func := "pub-mailsack/laws.FnTellControllerRegistrationResponse", spec := "fnTellControllerRegistrationResponse", inPlace := ["internal/reflectlite.ValueOf", "internal/reflectlite.Swapper", "(internal/reflectlite.Value).Len"], unfollowed := true, recurses := true, named := ["encoding/binary.BigEndian", "pub-mailsack/pub/kmsg/inner/kbin.ErrNotEnoughData"], loops := true, apart := false, laid := [("pub-mailsack/pub/kmsg/inner/kbin.ErrNotEnoughData", laid_pub_mailsack_pub_kmsg_inner_kbin_ErrNotEnoughData)] }
def FnTellControllerRegistrationResponseSaid : Prop := fnTellControllerRegistrationResponseRow.holds Tryd.pinned (OpenSpec.ofChange fnTellControllerRegistrationResponseSpec)

/-- ITS FALSE NEIGHBOUR: 'it returns false'. Refute it at one input. -/
def fnTellControllerRegistrationResponseWrong : ChangeSpec := { name := "fnTellControllerRegistrationResponse", fn := fun _ => fun
  | [d1, d2] => { results := [.lit (.bool false)], args := [d1, d2] }
  | _ => none }
def FnTellControllerRegistrationResponseWrongFalsely : Prop := fnTellControllerRegistrationResponseRow.holds Tryd.pinned (OpenSpec.ofChange fnTellControllerRegistrationResponseWrong)

/-- 'laws.FnTellEndTxnRequest': WHATEVER THE INPUT: true; the input reads as it did. -/
def fnTellEndTxnRequestSpec : ChangeSpec := { name := "fnTellEndTxnRequest", fn := fun _ => fun
  | [d1, d2] => { results := [.lit (.bool true)], args := [d1, d2] }
  | _ => none }
def fnTellEndTxnRequestRow : OpenClaim := { program := "ytnhgfbgdoelfoaadoor", sum := "59c52eb70f419e55eb5579c4d9eaf28cfabde548e023cd0fd59e7e3f9a6ef4b0", func := "pub-mailsack/laws.FnTellEndTxnRequest", spec := "fnTellEndTxnRequest", inPlace := ["internal/reflectlite.ValueOf", "internal/reflectlite.Swapper", "(internal/reflectlite.Value).Len"], unfollowed := true, recurses := true, named := ["encoding/binary.BigEndian", "pub-mailsack/pub/kmsg/inner/kbin.ErrNotEnoughData"], loops := true, apart := false, laid := [("pub-mailsack/pub/kmsg/inner/kbin.ErrNotEnoughData", laid_pub_mailsack_pub_kmsg_inner_kbin_ErrNotEnoughData)] }
def FnTellEndTxnRequestSaid : Prop := fnTellEndTxnRequestRow.holds Tryd.pinned (OpenSpec.ofChange fnTellEndTxnRequestSpec)

/-- ITS FALSE NEIGHBOUR: 'it returns false'. Refute it at one input. -/
def fnTellEndTxnRequestWrong : ChangeSpec := { name := "fnTellEndTxnRequest", fn := fun _ => fun
  | [d1, d2] => { results := [.lit (.bool false)], args := [d1, d2] }
  | _ => none }
def FnTellEndTxnRequestWrongFalsely : Prop := fnTellEndTxnRequestRow.holds Tryd.pinned (OpenSpec.ofChange fnTellEndTxnRequestWrong)

/- THE SECOND FORM. 'bulk': how many values and letters a reading holds, each counted each time it is reached (what is shared counts as often as it is met; a slice's spare places count too). A statement '..UptoSaid' is the law's where the arguments, and the package variables that the reading takes, are together of bulk at most 1048576: NARROWER than '..Said'. Prove '..Said' where nothing that the law and all that it calls make is longer than what came in: it says more and counts as full. Else prove '..UptoSaid'. A law counts once. -/
mutual
def uptoBulk {H : Type} : DataW H → Nat
  | .lit (.string bytes) => bytes.length + 1
  | .lit _ => 1
  | .nil => 1
  | .ptr d => uptoBulk d + 1
  | .slice elems spare => uptoBulkAll elems + uptoBulkAll spare + 1
  | .agg parts => uptoBulkAll parts + 1
  | .iface _ d => uptoBulk d + 1
  | .map entries => uptoBulkEntries entries + 1
  | .held _ => 1
def uptoBulkAll {H : Type} : List (DataW H) → Nat
  | [] => 0
  | d :: r => uptoBulk d + uptoBulkAll r
def uptoBulkEntries {H : Type} : List (Lit × DataW H) → Nat
  | [] => 0
  | x :: r => uptoBulkEntry x + uptoBulkEntries r
def uptoBulkEntry {H : Type} : Lit × DataW H → Nat
  | (.string bytes, d) => bytes.length + uptoBulk d + 1
  | (_, d) => uptoBulk d + 1
 end
def uptoSmall : (H : Type) → List (DataW H) → Bool := fun _ ds => decide (uptoBulkAll ds ≤ 1048576)
def OpenSpec.upto (s : _root_.Go.ChangeSpec) : _root_.Go.OpenSpec := { _root_.Go.OpenSpec.ofChange s with cond := some uptoSmall }

/-- 'laws.FnBehindUpdateMetadataResponse', WHERE WHAT IT READS IS OF BULK AT MOST 1048576: true; the input reads as it did. -/
def fnBehindUpdateMetadataResponseUptoRow : OpenClaim := { program := "ytnhgfbgdoelfoaadoor", sum := "59c52eb70f419e55eb5579c4d9eaf28cfabde548e023cd0fd59e7e3f9a6ef4b0", func := "pub-mailsack/laws.FnBehindUpdateMetadataResponse", spec := "fnBehindUpdateMetadataResponse", inPlace := ["internal/reflectlite.ValueOf", "internal/reflectlite.Swapper", "(internal/reflectlite.Value).Len"], unfollowed := true, recurses := true, named := ["encoding/binary.BigEndian", "pub-mailsack/pub/kmsg/inner/kbin.ErrNotEnoughData"], loops := true, apart := false, laid := [("pub-mailsack/pub/kmsg/inner/kbin.ErrNotEnoughData", laid_pub_mailsack_pub_kmsg_inner_kbin_ErrNotEnoughData)], narrowed := true }
def FnBehindUpdateMetadataResponseUptoSaid : Prop := fnBehindUpdateMetadataResponseUptoRow.holds Tryd.pinned (OpenSpec.upto fnBehindUpdateMetadataResponseSpec)

/-- 'laws.FnTellSASLHandshakeRequest', WHERE WHAT IT READS IS OF BULK AT MOST 1048576: true; the input reads as it did. -/
def fnTellSASLHandshakeRequestUptoRow : OpenClaim := { program := "ytnhgfbgdoelfoaadoor", sum := "59c52eb70f419e55eb5579c4d9eaf28cfabde548e023cd0fd59e7e3f9a6ef4b0", func := "pub-mailsack/laws.FnTellSASLHandshakeRequest", spec := "fnTellSASLHandshakeRequest", recurses := true, named := ["encoding/binary.BigEndian", "pub-mailsack/pub/kmsg/inner/kbin.ErrNotEnoughData"], loops := true, apart := false, laid := [("pub-mailsack/pub/kmsg/inner/kbin.ErrNotEnoughData", laid_pub_mailsack_pub_kmsg_inner_kbin_ErrNotEnoughData)], narrowed := true }
def FnTellSASLHandshakeRequestUptoSaid : Prop := fnTellSASLHandshakeRequestUptoRow.holds Tryd.pinned (OpenSpec.upto fnTellSASLHandshakeRequestSpec)

/-- 'laws.FnTellConnectMemberMetadata', WHERE WHAT IT READS IS OF BULK AT MOST 1048576: true; the input reads as it did. -/
def fnTellConnectMemberMetadataUptoRow : OpenClaim := { program := "ytnhgfbgdoelfoaadoor", sum := "59c52eb70f419e55eb5579c4d9eaf28cfabde548e023cd0fd59e7e3f9a6ef4b0", func := "pub-mailsack/laws.FnTellConnectMemberMetadata", spec := "fnTellConnectMemberMetadata", recurses := true, named := ["encoding/binary.BigEndian", "pub-mailsack/pub/kmsg/inner/kbin.ErrNotEnoughData"], loops := true, apart := false, laid := [("pub-mailsack/pub/kmsg/inner/kbin.ErrNotEnoughData", laid_pub_mailsack_pub_kmsg_inner_kbin_ErrNotEnoughData)], narrowed := true }
def FnTellConnectMemberMetadataUptoSaid : Prop := fnTellConnectMemberMetadataUptoRow.holds Tryd.pinned (OpenSpec.upto fnTellConnectMemberMetadataSpec)

/-- 'laws.FnTellControllerRegistrationResponse', WHERE WHAT IT READS IS OF BULK AT MOST 1048576: true; the input reads as it did. -/
def fnTellControllerRegistrationResponseUptoRow : OpenClaim := { program := "ytnhgfbgdoelfoaadoor", sum := "59c52eb70f419e55eb5579c4d9eaf28cfabde548e023cd0fd59e7e3f9a6ef4b0", func := "pub-mailsack/laws.FnTellControllerRegistrationResponse", spec := "fnTellControllerRegistrationResponse", inPlace := ["internal/reflectlite.ValueOf", "internal/reflectlite.Swapper", "(internal/reflectlite.Value).Len"], unfollowed := true, recurses := true, named := ["encoding/binary.BigEndian", "pub-mailsack/pub/kmsg/inner/kbin.ErrNotEnoughData"], loops := true, apart := false, laid := [("pub-mailsack/pub/kmsg/inner/kbin.ErrNotEnoughData", laid_pub_mailsack_pub_kmsg_inner_kbin_ErrNotEnoughData)], narrowed := true }
def FnTellControllerRegistrationResponseUptoSaid : Prop := fnTellControllerRegistrationResponseUptoRow.holds Tryd.pinned (OpenSpec.upto fnTellControllerRegistrationResponseSpec)

/-- 'laws.FnTellEndTxnRequest', WHERE WHAT IT READS IS OF BULK AT MOST 1048576: true; the input reads as it did. -/
def fnTellEndTxnRequestUptoRow : OpenClaim := { program := "ytnhgfbgdoelfoaadoor", sum := "59c52eb70f419e55eb5579c4d9eaf28cfabde548e023cd0fd59e7e3f9a6ef4b0", func := "pub-mailsack/laws.FnTellEndTxnRequest", spec := "fnTellEndTxnRequest", inPlace := ["internal/reflectlite.ValueOf", "internal/reflectlite.Swapper", "(internal/reflectlite.Value).Len"], unfollowed := true, recurses := true, named := ["encoding/binary.BigEndian", "pub-mailsack/pub/kmsg/inner/kbin.ErrNotEnoughData"], loops := true, apart := false, laid := [("pub-mailsack/pub/kmsg/inner/kbin.ErrNotEnoughData", laid_pub_mailsack_pub_kmsg_inner_kbin_ErrNotEnoughData)], narrowed := true }
def FnTellEndTxnRequestUptoSaid : Prop := fnTellEndTxnRequestUptoRow.holds Tryd.pinned (OpenSpec.upto fnTellEndTxnRequestSpec)

end Rows
end Go.Proofs.YtnhgfbgdoelfoaaDoor
