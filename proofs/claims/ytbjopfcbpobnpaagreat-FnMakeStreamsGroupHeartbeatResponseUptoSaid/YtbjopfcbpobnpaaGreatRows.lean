/-
  NARROWER THAN 'FOR EVERY INPUT', by the rows' own cells (each row's printed sentence says how): FnMakeAlterClientQuotasRequest: loops · FnMakeDescribeClientQuotasResponse: loops · FnMakeOffsetFetchRequest: loops · FnMakeDescribeTopicPartitionsResponse: loops · FnMakeStreamsGroupHeartbeatResponse: loops.
  DERIVED. THE GIVEN ROWS OF THIS SEAT. 5 by the template 'for every input the law returns true; each argument reads behind the call as it read before'; 0 by the template 'total and deterministic' (their statements: YtbjopfcbpobnpaaGreatTotals.lean).
  GIVEN WITH THE SEED: the statements are not yours to turn. If you find one false, say at which input.
  Laid BY PROGRAM, IN A SANDBOX (cutbox-rows.mjs): the forced cells as the released guide's own fill.sh prints them over the translation e5e03feadf938fca… (all of the seat's roots in one cut). By AI agents, Wed Nov 11 2026. No macro, syntax, notation, axiom, sorry.
-/
import Derived.Test.YtbjopfcbpobnpaaGreatChecked
import GoSem.Claim
import GoSem.ClaimJoined
import GoSem.ClaimMapViews
import Derived.JoinedTies
import Derived.KernelRfl
namespace Go.Proofs.YtbjopfcbpobnpaaGreat
/- THE CELL 'sum', in the pinned program and in every row, IS THE sha256 OF THE DUMP (.gsa) THAT YtbjopfcbpobnpaaGreatProg.lean LOADS. Nothing in Lean hashes anything: it is a label: what it is worth is what the hold of that sum in a sandbox is worth. -/
noncomputable def Tryz.pinned : Pinned := { name := "ytbjopfcbpobnpaagreat", sum := "e5e03feadf938fcad553a0d4b28304a17f5f66b0bddcf8103cb79c46220cef81", checked := Tryz.checked }
namespace Rows
def none {H : Type} : Left H := { results := [], args := [] }

/-- 'laws.FnMakeAlterClientQuotasRequest': WHATEVER THE INPUT: true; the input reads as it did. -/
def fnMakeAlterClientQuotasRequestSpec : ChangeSpec := { name := "fnMakeAlterClientQuotasRequest", fn := fun _ => fun
  | [d1, d2] => { results := [.lit (.bool true)], args := [d1, d2] }
  | _ => none }
def fnMakeAlterClientQuotasRequestRow : OpenClaim := { program := "ytbjopfcbpobnpaagreat", sum := "e5e03feadf938fcad553a0d4b28304a17f5f66b0bddcf8103cb79c46220cef81", func := "pub-mailsack/laws.FnMakeAlterClientQuotasRequest", spec := "fnMakeAlterClientQuotasRequest", inPlace := ["math.Float64frombits", "internal/reflectlite.ValueOf", "internal/reflectlite.Swapper", "(internal/reflectlite.Value).Len", "math.Float64bits"], unfollowed := true, recurses := true, loops := true, apart := false }
def FnMakeAlterClientQuotasRequestSaid : Prop := fnMakeAlterClientQuotasRequestRow.holds Tryz.pinned (OpenSpec.ofChange fnMakeAlterClientQuotasRequestSpec)

/-- ITS FALSE NEIGHBOUR: 'it returns false'. Refute it at one input. -/
def fnMakeAlterClientQuotasRequestWrong : ChangeSpec := { name := "fnMakeAlterClientQuotasRequest", fn := fun _ => fun
  | [d1, d2] => { results := [.lit (.bool false)], args := [d1, d2] }
  | _ => none }
def FnMakeAlterClientQuotasRequestWrongFalsely : Prop := fnMakeAlterClientQuotasRequestRow.holds Tryz.pinned (OpenSpec.ofChange fnMakeAlterClientQuotasRequestWrong)

/-- 'laws.FnMakeDescribeClientQuotasResponse': WHATEVER THE INPUT: true; the input reads as it did. -/
def fnMakeDescribeClientQuotasResponseSpec : ChangeSpec := { name := "fnMakeDescribeClientQuotasResponse", fn := fun _ => fun
  | [d1, d2] => { results := [.lit (.bool true)], args := [d1, d2] }
  | _ => none }
def fnMakeDescribeClientQuotasResponseRow : OpenClaim := { program := "ytbjopfcbpobnpaagreat", sum := "e5e03feadf938fcad553a0d4b28304a17f5f66b0bddcf8103cb79c46220cef81", func := "pub-mailsack/laws.FnMakeDescribeClientQuotasResponse", spec := "fnMakeDescribeClientQuotasResponse", inPlace := ["math.Float64frombits", "internal/reflectlite.ValueOf", "internal/reflectlite.Swapper", "(internal/reflectlite.Value).Len", "math.Float64bits"], unfollowed := true, recurses := true, loops := true, apart := false }
def FnMakeDescribeClientQuotasResponseSaid : Prop := fnMakeDescribeClientQuotasResponseRow.holds Tryz.pinned (OpenSpec.ofChange fnMakeDescribeClientQuotasResponseSpec)

/-- ITS FALSE NEIGHBOUR: 'it returns false'. Refute it at one input. -/
def fnMakeDescribeClientQuotasResponseWrong : ChangeSpec := { name := "fnMakeDescribeClientQuotasResponse", fn := fun _ => fun
  | [d1, d2] => { results := [.lit (.bool false)], args := [d1, d2] }
  | _ => none }
def FnMakeDescribeClientQuotasResponseWrongFalsely : Prop := fnMakeDescribeClientQuotasResponseRow.holds Tryz.pinned (OpenSpec.ofChange fnMakeDescribeClientQuotasResponseWrong)

/-- 'laws.FnMakeOffsetFetchRequest': WHATEVER THE INPUT: true; the input reads as it did. -/
def fnMakeOffsetFetchRequestSpec : ChangeSpec := { name := "fnMakeOffsetFetchRequest", fn := fun _ => fun
  | [d1, d2] => { results := [.lit (.bool true)], args := [d1, d2] }
  | _ => none }
def fnMakeOffsetFetchRequestRow : OpenClaim := { program := "ytbjopfcbpobnpaagreat", sum := "e5e03feadf938fcad553a0d4b28304a17f5f66b0bddcf8103cb79c46220cef81", func := "pub-mailsack/laws.FnMakeOffsetFetchRequest", spec := "fnMakeOffsetFetchRequest", inPlace := ["internal/reflectlite.ValueOf", "internal/reflectlite.Swapper", "(internal/reflectlite.Value).Len"], unfollowed := true, recurses := true, loops := true, apart := false }
def FnMakeOffsetFetchRequestSaid : Prop := fnMakeOffsetFetchRequestRow.holds Tryz.pinned (OpenSpec.ofChange fnMakeOffsetFetchRequestSpec)

/-- ITS FALSE NEIGHBOUR: 'it returns false'. Refute it at one input. -/
def fnMakeOffsetFetchRequestWrong : ChangeSpec := { name := "fnMakeOffsetFetchRequest", fn := fun _ => fun
  | [d1, d2] => { results := [.lit (.bool false)], args := [d1, d2] }
  | _ => none }
def FnMakeOffsetFetchRequestWrongFalsely : Prop := fnMakeOffsetFetchRequestRow.holds Tryz.pinned (OpenSpec.ofChange fnMakeOffsetFetchRequestWrong)

/-- 'laws.FnMakeDescribeTopicPartitionsResponse': WHATEVER THE INPUT: true; the input reads as it did. -/
def fnMakeDescribeTopicPartitionsResponseSpec : ChangeSpec := { name := "fnMakeDescribeTopicPartitionsResponse", fn := fun _ => fun
  | [d1, d2] => { results := [.lit (.bool true)], args := [d1, d2] }
  | _ => none }
def fnMakeDescribeTopicPartitionsResponseRow : OpenClaim := { program := "ytbjopfcbpobnpaagreat", sum := "e5e03feadf938fcad553a0d4b28304a17f5f66b0bddcf8103cb79c46220cef81", func := "pub-mailsack/laws.FnMakeDescribeTopicPartitionsResponse", spec := "fnMakeDescribeTopicPartitionsResponse", inPlace := ["internal/reflectlite.ValueOf", "internal/reflectlite.Swapper", "(internal/reflectlite.Value).Len"], unfollowed := true, recurses := true, loops := true, apart := false }
def FnMakeDescribeTopicPartitionsResponseSaid : Prop := fnMakeDescribeTopicPartitionsResponseRow.holds Tryz.pinned (OpenSpec.ofChange fnMakeDescribeTopicPartitionsResponseSpec)

/-- ITS FALSE NEIGHBOUR: 'it returns false'. Refute it at one input. -/
def fnMakeDescribeTopicPartitionsResponseWrong : ChangeSpec := { name := "fnMakeDescribeTopicPartitionsResponse", fn := fun _ => fun
  | [d1, d2] => { results := [.lit (.bool false)], args := [d1, d2] }
  | _ => none }
def FnMakeDescribeTopicPartitionsResponseWrongFalsely : Prop := fnMakeDescribeTopicPartitionsResponseRow.holds Tryz.pinned (OpenSpec.ofChange fnMakeDescribeTopicPartitionsResponseWrong)

/-- 'laws.FnMakeStreamsGroupHeartbeatResponse': WHATEVER THE INPUT: true; the input reads as it did. -/
def fnMakeStreamsGroupHeartbeatResponseSpec : ChangeSpec := { name := "fnMakeStreamsGroupHeartbeatResponse", fn := fun _ => fun
  | [d1, d2] => { results := [.lit (.bool true)], args := [d1, d2] }
  | _ => none }
def fnMakeStreamsGroupHeartbeatResponseRow : OpenClaim := { program := "ytbjopfcbpobnpaagreat", sum := "e5e03feadf938fcad553a0d4b28304a17f5f66b0bddcf8103cb79c46220cef81", func := "pub-mailsack/laws.FnMakeStreamsGroupHeartbeatResponse", spec := "fnMakeStreamsGroupHeartbeatResponse", inPlace := ["internal/reflectlite.ValueOf", "internal/reflectlite.Swapper", "(internal/reflectlite.Value).Len"], unfollowed := true, recurses := true, loops := true, apart := false }
def FnMakeStreamsGroupHeartbeatResponseSaid : Prop := fnMakeStreamsGroupHeartbeatResponseRow.holds Tryz.pinned (OpenSpec.ofChange fnMakeStreamsGroupHeartbeatResponseSpec)

/-- ITS FALSE NEIGHBOUR: 'it returns false'. Refute it at one input. -/
def fnMakeStreamsGroupHeartbeatResponseWrong : ChangeSpec := { name := "fnMakeStreamsGroupHeartbeatResponse", fn := fun _ => fun
  | [d1, d2] => { results := [.lit (.bool false)], args := [d1, d2] }
  | _ => none }
def FnMakeStreamsGroupHeartbeatResponseWrongFalsely : Prop := fnMakeStreamsGroupHeartbeatResponseRow.holds Tryz.pinned (OpenSpec.ofChange fnMakeStreamsGroupHeartbeatResponseWrong)

/- THE SECOND FORM. 'bulk': how many values and letters a reading holds, each counted each time it is reached (what is shared counts as often as it is met; a slice's spare places count too). A statement '..UptoSaid' is the law's where the arguments, and the package variables that the reading takes, are together of bulk at most 1048576: NARROWER than '..Said'. Prove '..Said' where nothing that the law and all that it calls make is longer than what came in: it says more and counts as full. Else prove '..UptoSaid'. A law counts once. -/
mutual
def uptoBulk {H : Type} : DataW H → Nat
  | .lit (.string bytes) => bytes.length + 1
  | .lit _ => 1
  | .nil => 1
  | .ptr d => uptoBulk d + 1
  | .slice elems spare => uptoBulkAll elems + uptoBulkAll spare + 1
  | .agg parts => uptoBulkAll parts + 1
  | .iface _ d => uptoBulk d + 1
  | .map entries => uptoBulkEntries entries + 1
  | .held _ => 1
def uptoBulkAll {H : Type} : List (DataW H) → Nat
  | [] => 0
  | d :: r => uptoBulk d + uptoBulkAll r
def uptoBulkEntries {H : Type} : List (Lit × DataW H) → Nat
  | [] => 0
  | x :: r => uptoBulkEntry x + uptoBulkEntries r
def uptoBulkEntry {H : Type} : Lit × DataW H → Nat
  | (.string bytes, d) => bytes.length + uptoBulk d + 1
  | (_, d) => uptoBulk d + 1
 end
def uptoSmall : (H : Type) → List (DataW H) → Bool := fun _ ds => decide (uptoBulkAll ds ≤ 1048576)
def OpenSpec.upto (s : _root_.Go.ChangeSpec) : _root_.Go.OpenSpec := { _root_.Go.OpenSpec.ofChange s with cond := some uptoSmall }

/-- 'laws.FnMakeAlterClientQuotasRequest', WHERE WHAT IT READS IS OF BULK AT MOST 1048576: true; the input reads as it did. -/
def fnMakeAlterClientQuotasRequestUptoRow : OpenClaim := { program := "ytbjopfcbpobnpaagreat", sum := "e5e03feadf938fcad553a0d4b28304a17f5f66b0bddcf8103cb79c46220cef81", func := "pub-mailsack/laws.FnMakeAlterClientQuotasRequest", spec := "fnMakeAlterClientQuotasRequest", inPlace := ["math.Float64frombits", "internal/reflectlite.ValueOf", "internal/reflectlite.Swapper", "(internal/reflectlite.Value).Len", "math.Float64bits"], unfollowed := true, recurses := true, loops := true, apart := false, narrowed := true }
def FnMakeAlterClientQuotasRequestUptoSaid : Prop := fnMakeAlterClientQuotasRequestUptoRow.holds Tryz.pinned (OpenSpec.upto fnMakeAlterClientQuotasRequestSpec)

/-- 'laws.FnMakeDescribeClientQuotasResponse', WHERE WHAT IT READS IS OF BULK AT MOST 1048576: true; the input reads as it did. -/
def fnMakeDescribeClientQuotasResponseUptoRow : OpenClaim := { program := "ytbjopfcbpobnpaagreat", sum := "e5e03feadf938fcad553a0d4b28304a17f5f66b0bddcf8103cb79c46220cef81", func := "pub-mailsack/laws.FnMakeDescribeClientQuotasResponse", spec := "fnMakeDescribeClientQuotasResponse", inPlace := ["math.Float64frombits", "internal/reflectlite.ValueOf", "internal/reflectlite.Swapper", "(internal/reflectlite.Value).Len", "math.Float64bits"], unfollowed := true, recurses := true, loops := true, apart := false, narrowed := true }
def FnMakeDescribeClientQuotasResponseUptoSaid : Prop := fnMakeDescribeClientQuotasResponseUptoRow.holds Tryz.pinned (OpenSpec.upto fnMakeDescribeClientQuotasResponseSpec)

/-- 'laws.FnMakeOffsetFetchRequest', WHERE WHAT IT READS IS OF BULK AT MOST 1048576: true; the input reads as it did. -/
def fnMakeOffsetFetchRequestUptoRow : OpenClaim := { program := "ytbjopfcbpobnpaagreat", sum := "e5e03feadf938fcad553a0d4b28304a17f5f66b0bddcf8103cb79c46220cef81", func := "pub-mailsack/laws.FnMakeOffsetFetchRequest", spec := "fnMakeOffsetFetchRequest", inPlace := ["internal/reflectlite.ValueOf", "internal/reflectlite.Swapper", "(internal/reflectlite.Value).Len"], unfollowed := true, recurses := true, loops := true, apart := false, narrowed := true }
def FnMakeOffsetFetchRequestUptoSaid : Prop := fnMakeOffsetFetchRequestUptoRow.holds Tryz.pinned (OpenSpec.upto fnMakeOffsetFetchRequestSpec)

/-- 'laws.FnMakeDescribeTopicPartitionsResponse', WHERE WHAT IT READS IS OF BULK AT MOST 1048576: true; the input reads as it did. -/
def fnMakeDescribeTopicPartitionsResponseUptoRow : OpenClaim := { program := "ytbjopfcbpobnpaagreat", sum := "e5e03feadf938fcad553a0d4b28304a17f5f66b0bddcf8103cb79c46220cef81", func := "pub-mailsack/laws.FnMakeDescribeTopicPartitionsResponse", spec := "fnMakeDescribeTopicPartitionsResponse", inPlace := ["internal/reflectlite.ValueOf", "internal/reflectlite.Swapper", "(internal/reflectlite.Value).Len"], unfollowed := true, recurses := true, loops := true, apart := false, narrowed := true }
def FnMakeDescribeTopicPartitionsResponseUptoSaid : Prop := fnMakeDescribeTopicPartitionsResponseUptoRow.holds Tryz.pinned (OpenSpec.upto fnMakeDescribeTopicPartitionsResponseSpec)

/-- 'laws.FnMakeStreamsGroupHeartbeatResponse', WHERE WHAT IT READS IS OF BULK AT MOST 1048576: true; the input reads as it did. -/
def fnMakeStreamsGroupHeartbeatResponseUptoRow : OpenClaim := { program := "ytbjopfcbpobnpaagreat", sum := "e5e03feadf938fcad553a0d4b28304a17f5f66b0bddcf8103cb79c46220cef81", func := "pub-mailsack/laws.FnMakeStreamsGroupHeartbeatResponse", spec := "fnMakeStreamsGroupHeartbeatResponse", inPlace := ["internal/reflectlite.ValueOf", "internal/reflectlite.Swapper", "(internal/reflectlite.Value).Len"], unfollowed := true, recurses := true, loops := true, apart := false, narrowed := true }
def FnMakeStreamsGroupHeartbeatResponseUptoSaid : Prop := fnMakeStreamsGroupHeartbeatResponseUptoRow.holds Tryz.pinned (OpenSpec.upto fnMakeStreamsGroupHeartbeatResponseSpec)

end Rows
end Go.Proofs.YtbjopfcbpobnpaaGreat
