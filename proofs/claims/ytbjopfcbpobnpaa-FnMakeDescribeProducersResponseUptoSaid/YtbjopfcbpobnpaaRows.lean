/-
  NARROWER THAN 'FOR EVERY INPUT', by the rows' own cells (each row's printed sentence says how): FnMakeEnvelopeResponse: loops · FnMakeAddRaftVoterResponse: loops · FnMakeRemoveRaftVoterRequest: loops · FnMakeDescribeLogDirsRequest: loops · FnMakeAlterConfigsResponse: loops · FnMakeElectLeadersResponse: loops · FnMakeSyncGroupRequest: loops · FnMakeDescribeProducersResponse: loops.
  DERIVED. THE GIVEN ROWS OF THIS SEAT. 8 by the template 'for every input the law returns true; each argument reads behind the call as it read before'; 0 by the template 'total and deterministic' (their statements: YtbjopfcbpobnpaaTotals.lean).
  GIVEN WITH THE SEED: the statements are not yours to turn. If you find one false, say at which input.
  Laid BY PROGRAM, IN A SANDBOX (cutbox-rows.mjs): the forced cells as the released guide's own fill.sh prints them over the translation 2ba73b7b5e0d9b5c… (all of the seat's roots in one cut). By AI agents, Wed Nov 11 2026. No macro, syntax, notation, axiom, sorry.
-/
import Derived.Test.YtbjopfcbpobnpaaChecked
import GoSem.Claim
import GoSem.ClaimJoined
import GoSem.ClaimMapViews
import Derived.JoinedTies
import Derived.KernelRfl
namespace Go.Proofs.Ytbjopfcbpobnpaa
/- THE CELL 'sum', in the pinned program and in every row, IS THE sha256 OF THE DUMP (.gsa) THAT YtbjopfcbpobnpaaProg.lean LOADS. Nothing in Lean hashes anything: it is a label: what it is worth is what the hold of that sum in a sandbox is worth. -/
noncomputable def Try.pinned : Pinned := { name := "ytbjopfcbpobnpaa", sum := "2ba73b7b5e0d9b5cea1cbd7443a08c64de0cc3d2bdc8bb6c179fb3a8ec644122", checked := Try.checked }
namespace Rows
def none {H : Type} : Left H := { results := [], args := [] }

/-- 'laws.FnMakeEnvelopeResponse': WHATEVER THE INPUT: true; the input reads as it did. -/
def fnMakeEnvelopeResponseSpec : ChangeSpec := { name := "fnMakeEnvelopeResponse", fn := fun _ => fun
  | [d1, d2] => { results := [.lit (.bool true)], args := [d1, d2] }
  | _ => none }
def fnMakeEnvelopeResponseRow : OpenClaim := { program := "ytbjopfcbpobnpaa", sum := "2ba73b7b5e0d9b5cea1cbd7443a08c64de0cc3d2bdc8bb6c179fb3a8ec644122", func := "pub-mailsack/laws.FnMakeEnvelopeResponse", spec := "fnMakeEnvelopeResponse", inPlace := ["internal/reflectlite.ValueOf", "internal/reflectlite.Swapper", "(internal/reflectlite.Value).Len"], unfollowed := true, recurses := true, loops := true, apart := false }
def FnMakeEnvelopeResponseSaid : Prop := fnMakeEnvelopeResponseRow.holds Try.pinned (OpenSpec.ofChange fnMakeEnvelopeResponseSpec)

/-- ITS FALSE NEIGHBOUR: 'it returns false'. Refute it at one input. -/
def fnMakeEnvelopeResponseWrong : ChangeSpec := { name := "fnMakeEnvelopeResponse", fn := fun _ => fun
  | [d1, d2] => { results := [.lit (.bool false)], args := [d1, d2] }
  | _ => none }
def FnMakeEnvelopeResponseWrongFalsely : Prop := fnMakeEnvelopeResponseRow.holds Try.pinned (OpenSpec.ofChange fnMakeEnvelopeResponseWrong)

/-- 'laws.FnMakeAddRaftVoterResponse': WHATEVER THE INPUT: true; the input reads as it did. -/
def fnMakeAddRaftVoterResponseSpec : ChangeSpec := { name := "fnMakeAddRaftVoterResponse", fn := fun _ => fun
  | [d1, d2] => { results := [.lit (.bool true)], args := [d1, d2] }
  | _ => none }
def fnMakeAddRaftVoterResponseRow : OpenClaim := { program := "ytbjopfcbpobnpaa", sum := "2ba73b7b5e0d9b5cea1cbd7443a08c64de0cc3d2bdc8bb6c179fb3a8ec644122", func := "pub-mailsack/laws.FnMakeAddRaftVoterResponse", spec := "fnMakeAddRaftVoterResponse", inPlace := ["internal/reflectlite.ValueOf", "internal/reflectlite.Swapper", "(internal/reflectlite.Value).Len"], unfollowed := true, recurses := true, loops := true, apart := false }
def FnMakeAddRaftVoterResponseSaid : Prop := fnMakeAddRaftVoterResponseRow.holds Try.pinned (OpenSpec.ofChange fnMakeAddRaftVoterResponseSpec)

/-- ITS FALSE NEIGHBOUR: 'it returns false'. Refute it at one input. -/
def fnMakeAddRaftVoterResponseWrong : ChangeSpec := { name := "fnMakeAddRaftVoterResponse", fn := fun _ => fun
  | [d1, d2] => { results := [.lit (.bool false)], args := [d1, d2] }
  | _ => none }
def FnMakeAddRaftVoterResponseWrongFalsely : Prop := fnMakeAddRaftVoterResponseRow.holds Try.pinned (OpenSpec.ofChange fnMakeAddRaftVoterResponseWrong)

/-- 'laws.FnMakeRemoveRaftVoterRequest': WHATEVER THE INPUT: true; the input reads as it did. -/
def fnMakeRemoveRaftVoterRequestSpec : ChangeSpec := { name := "fnMakeRemoveRaftVoterRequest", fn := fun _ => fun
  | [d1, d2] => { results := [.lit (.bool true)], args := [d1, d2] }
  | _ => none }
def fnMakeRemoveRaftVoterRequestRow : OpenClaim := { program := "ytbjopfcbpobnpaa", sum := "2ba73b7b5e0d9b5cea1cbd7443a08c64de0cc3d2bdc8bb6c179fb3a8ec644122", func := "pub-mailsack/laws.FnMakeRemoveRaftVoterRequest", spec := "fnMakeRemoveRaftVoterRequest", inPlace := ["internal/reflectlite.ValueOf", "internal/reflectlite.Swapper", "(internal/reflectlite.Value).Len"], unfollowed := true, recurses := true, loops := true, apart := false }
def FnMakeRemoveRaftVoterRequestSaid : Prop := fnMakeRemoveRaftVoterRequestRow.holds Try.pinned (OpenSpec.ofChange fnMakeRemoveRaftVoterRequestSpec)

/-- ITS FALSE NEIGHBOUR: 'it returns false'. Refute it at one input. -/
def fnMakeRemoveRaftVoterRequestWrong : ChangeSpec := { name := "fnMakeRemoveRaftVoterRequest", fn := fun _ => fun
  | [d1, d2] => { results := [.lit (.bool false)], args := [d1, d2] }
  | _ => none }
def FnMakeRemoveRaftVoterRequestWrongFalsely : Prop := fnMakeRemoveRaftVoterRequestRow.holds Try.pinned (OpenSpec.ofChange fnMakeRemoveRaftVoterRequestWrong)

/-- 'laws.FnMakeDescribeLogDirsRequest': WHATEVER THE INPUT: true; the input reads as it did. -/
def fnMakeDescribeLogDirsRequestSpec : ChangeSpec := { name := "fnMakeDescribeLogDirsRequest", fn := fun _ => fun
  | [d1, d2] => { results := [.lit (.bool true)], args := [d1, d2] }
  | _ => none }
def fnMakeDescribeLogDirsRequestRow : OpenClaim := { program := "ytbjopfcbpobnpaa", sum := "2ba73b7b5e0d9b5cea1cbd7443a08c64de0cc3d2bdc8bb6c179fb3a8ec644122", func := "pub-mailsack/laws.FnMakeDescribeLogDirsRequest", spec := "fnMakeDescribeLogDirsRequest", inPlace := ["internal/reflectlite.ValueOf", "internal/reflectlite.Swapper", "(internal/reflectlite.Value).Len"], unfollowed := true, recurses := true, loops := true, apart := false }
def FnMakeDescribeLogDirsRequestSaid : Prop := fnMakeDescribeLogDirsRequestRow.holds Try.pinned (OpenSpec.ofChange fnMakeDescribeLogDirsRequestSpec)

/-- ITS FALSE NEIGHBOUR: 'it returns false'. Refute it at one input. -/
def fnMakeDescribeLogDirsRequestWrong : ChangeSpec := { name := "fnMakeDescribeLogDirsRequest", fn := fun _ => fun
  | [d1, d2] => { results := [.lit (.bool false)], args := [d1, d2] }
  | _ => none }
def FnMakeDescribeLogDirsRequestWrongFalsely : Prop := fnMakeDescribeLogDirsRequestRow.holds Try.pinned (OpenSpec.ofChange fnMakeDescribeLogDirsRequestWrong)

/-- 'laws.FnMakeAlterConfigsResponse': WHATEVER THE INPUT: true; the input reads as it did. -/
def fnMakeAlterConfigsResponseSpec : ChangeSpec := { name := "fnMakeAlterConfigsResponse", fn := fun _ => fun
  | [d1, d2] => { results := [.lit (.bool true)], args := [d1, d2] }
  | _ => none }
def fnMakeAlterConfigsResponseRow : OpenClaim := { program := "ytbjopfcbpobnpaa", sum := "2ba73b7b5e0d9b5cea1cbd7443a08c64de0cc3d2bdc8bb6c179fb3a8ec644122", func := "pub-mailsack/laws.FnMakeAlterConfigsResponse", spec := "fnMakeAlterConfigsResponse", inPlace := ["internal/reflectlite.ValueOf", "internal/reflectlite.Swapper", "(internal/reflectlite.Value).Len"], unfollowed := true, recurses := true, loops := true, apart := false }
def FnMakeAlterConfigsResponseSaid : Prop := fnMakeAlterConfigsResponseRow.holds Try.pinned (OpenSpec.ofChange fnMakeAlterConfigsResponseSpec)

/-- ITS FALSE NEIGHBOUR: 'it returns false'. Refute it at one input. -/
def fnMakeAlterConfigsResponseWrong : ChangeSpec := { name := "fnMakeAlterConfigsResponse", fn := fun _ => fun
  | [d1, d2] => { results := [.lit (.bool false)], args := [d1, d2] }
  | _ => none }
def FnMakeAlterConfigsResponseWrongFalsely : Prop := fnMakeAlterConfigsResponseRow.holds Try.pinned (OpenSpec.ofChange fnMakeAlterConfigsResponseWrong)

/-- 'laws.FnMakeElectLeadersResponse': WHATEVER THE INPUT: true; the input reads as it did. -/
def fnMakeElectLeadersResponseSpec : ChangeSpec := { name := "fnMakeElectLeadersResponse", fn := fun _ => fun
  | [d1, d2] => { results := [.lit (.bool true)], args := [d1, d2] }
  | _ => none }
def fnMakeElectLeadersResponseRow : OpenClaim := { program := "ytbjopfcbpobnpaa", sum := "2ba73b7b5e0d9b5cea1cbd7443a08c64de0cc3d2bdc8bb6c179fb3a8ec644122", func := "pub-mailsack/laws.FnMakeElectLeadersResponse", spec := "fnMakeElectLeadersResponse", inPlace := ["internal/reflectlite.ValueOf", "internal/reflectlite.Swapper", "(internal/reflectlite.Value).Len"], unfollowed := true, recurses := true, loops := true, apart := false }
def FnMakeElectLeadersResponseSaid : Prop := fnMakeElectLeadersResponseRow.holds Try.pinned (OpenSpec.ofChange fnMakeElectLeadersResponseSpec)

/-- ITS FALSE NEIGHBOUR: 'it returns false'. Refute it at one input. -/
def fnMakeElectLeadersResponseWrong : ChangeSpec := { name := "fnMakeElectLeadersResponse", fn := fun _ => fun
  | [d1, d2] => { results := [.lit (.bool false)], args := [d1, d2] }
  | _ => none }
def FnMakeElectLeadersResponseWrongFalsely : Prop := fnMakeElectLeadersResponseRow.holds Try.pinned (OpenSpec.ofChange fnMakeElectLeadersResponseWrong)

/-- 'laws.FnMakeSyncGroupRequest': WHATEVER THE INPUT: true; the input reads as it did. -/
def fnMakeSyncGroupRequestSpec : ChangeSpec := { name := "fnMakeSyncGroupRequest", fn := fun _ => fun
  | [d1, d2] => { results := [.lit (.bool true)], args := [d1, d2] }
  | _ => none }
def fnMakeSyncGroupRequestRow : OpenClaim := { program := "ytbjopfcbpobnpaa", sum := "2ba73b7b5e0d9b5cea1cbd7443a08c64de0cc3d2bdc8bb6c179fb3a8ec644122", func := "pub-mailsack/laws.FnMakeSyncGroupRequest", spec := "fnMakeSyncGroupRequest", inPlace := ["internal/reflectlite.ValueOf", "internal/reflectlite.Swapper", "(internal/reflectlite.Value).Len"], unfollowed := true, recurses := true, loops := true, apart := false }
def FnMakeSyncGroupRequestSaid : Prop := fnMakeSyncGroupRequestRow.holds Try.pinned (OpenSpec.ofChange fnMakeSyncGroupRequestSpec)

/-- ITS FALSE NEIGHBOUR: 'it returns false'. Refute it at one input. -/
def fnMakeSyncGroupRequestWrong : ChangeSpec := { name := "fnMakeSyncGroupRequest", fn := fun _ => fun
  | [d1, d2] => { results := [.lit (.bool false)], args := [d1, d2] }
  | _ => none }
def FnMakeSyncGroupRequestWrongFalsely : Prop := fnMakeSyncGroupRequestRow.holds Try.pinned (OpenSpec.ofChange fnMakeSyncGroupRequestWrong)

/-- 'laws.FnMakeDescribeProducersResponse': WHATEVER THE INPUT: true; the input reads as it did. -/
def fnMakeDescribeProducersResponseSpec : ChangeSpec := { name := "fnMakeDescribeProducersResponse", fn := fun _ => fun
  | [d1, d2] => { results := [.lit (.bool true)], args := [d1, d2] }
  | _ => none }
def fnMakeDescribeProducersResponseRow : OpenClaim := { program := "ytbjopfcbpobnpaa", sum := "2ba73b7b5e0d9b5cea1cbd7443a08c64de0cc3d2bdc8bb6c179fb3a8ec644122", func := "pub-mailsack/laws.FnMakeDescribeProducersResponse", spec := "fnMakeDescribeProducersResponse", inPlace := ["internal/reflectlite.ValueOf", "internal/reflectlite.Swapper", "(internal/reflectlite.Value).Len"], unfollowed := true, recurses := true, loops := true, apart := false }
def FnMakeDescribeProducersResponseSaid : Prop := fnMakeDescribeProducersResponseRow.holds Try.pinned (OpenSpec.ofChange fnMakeDescribeProducersResponseSpec)

/-- ITS FALSE NEIGHBOUR: 'it returns false'. Refute it at one input. -/
def fnMakeDescribeProducersResponseWrong : ChangeSpec := { name := "fnMakeDescribeProducersResponse", fn := fun _ => fun
  | [d1, d2] => { results := [.lit (.bool false)], args := [d1, d2] }
  | _ => none }
def FnMakeDescribeProducersResponseWrongFalsely : Prop := fnMakeDescribeProducersResponseRow.holds Try.pinned (OpenSpec.ofChange fnMakeDescribeProducersResponseWrong)

/- THE SECOND FORM. 'bulk': how many values and letters a reading holds, each counted each time it is reached (what is shared counts as often as it is met; a slice's spare places count too). A statement '..UptoSaid' is the law's where the arguments, and the package variables that the reading takes, are together of bulk at most 1048576: NARROWER than '..Said'. Prove '..Said' where nothing that the law and all that it calls make is longer than what came in: it says more and counts as full. Else prove '..UptoSaid'. A law counts once. -/
mutual
def uptoBulk {H : Type} : DataW H → Nat
  | .lit (.string bytes) => bytes.length + 1
  | .lit _ => 1
  | .nil => 1
  | .ptr d => uptoBulk d + 1
  | .slice elems spare => uptoBulkAll elems + uptoBulkAll spare + 1
  | .agg parts => uptoBulkAll parts + 1
  | .iface _ d => uptoBulk d + 1
  | .map entries => uptoBulkEntries entries + 1
  | .held _ => 1
def uptoBulkAll {H : Type} : List (DataW H) → Nat
  | [] => 0
  | d :: r => uptoBulk d + uptoBulkAll r
def uptoBulkEntries {H : Type} : List (Lit × DataW H) → Nat
  | [] => 0
  | x :: r => uptoBulkEntry x + uptoBulkEntries r
def uptoBulkEntry {H : Type} : Lit × DataW H → Nat
  | (.string bytes, d) => bytes.length + uptoBulk d + 1
  | (_, d) => uptoBulk d + 1
 end
def uptoSmall : (H : Type) → List (DataW H) → Bool := fun _ ds => decide (uptoBulkAll ds ≤ 1048576)
def OpenSpec.upto (s : _root_.Go.ChangeSpec) : _root_.Go.OpenSpec := { _root_.Go.OpenSpec.ofChange s with cond := some uptoSmall }

/-- 'laws.FnMakeEnvelopeResponse', WHERE WHAT IT READS IS OF BULK AT MOST 1048576: true; the input reads as it did. -/
def fnMakeEnvelopeResponseUptoRow : OpenClaim := { program := "ytbjopfcbpobnpaa", sum := "2ba73b7b5e0d9b5cea1cbd7443a08c64de0cc3d2bdc8bb6c179fb3a8ec644122", func := "pub-mailsack/laws.FnMakeEnvelopeResponse", spec := "fnMakeEnvelopeResponse", inPlace := ["internal/reflectlite.ValueOf", "internal/reflectlite.Swapper", "(internal/reflectlite.Value).Len"], unfollowed := true, recurses := true, loops := true, apart := false, narrowed := true }
def FnMakeEnvelopeResponseUptoSaid : Prop := fnMakeEnvelopeResponseUptoRow.holds Try.pinned (OpenSpec.upto fnMakeEnvelopeResponseSpec)

/-- 'laws.FnMakeAddRaftVoterResponse', WHERE WHAT IT READS IS OF BULK AT MOST 1048576: true; the input reads as it did. -/
def fnMakeAddRaftVoterResponseUptoRow : OpenClaim := { program := "ytbjopfcbpobnpaa", sum := "2ba73b7b5e0d9b5cea1cbd7443a08c64de0cc3d2bdc8bb6c179fb3a8ec644122", func := "pub-mailsack/laws.FnMakeAddRaftVoterResponse", spec := "fnMakeAddRaftVoterResponse", inPlace := ["internal/reflectlite.ValueOf", "internal/reflectlite.Swapper", "(internal/reflectlite.Value).Len"], unfollowed := true, recurses := true, loops := true, apart := false, narrowed := true }
def FnMakeAddRaftVoterResponseUptoSaid : Prop := fnMakeAddRaftVoterResponseUptoRow.holds Try.pinned (OpenSpec.upto fnMakeAddRaftVoterResponseSpec)

/-- 'laws.FnMakeRemoveRaftVoterRequest', WHERE WHAT IT READS IS OF BULK AT MOST 1048576: true; the input reads as it did. -/
def fnMakeRemoveRaftVoterRequestUptoRow : OpenClaim := { program := "ytbjopfcbpobnpaa", sum := "2ba73b7b5e0d9b5cea1cbd7443a08c64de0cc3d2bdc8bb6c179fb3a8ec644122", func := "pub-mailsack/laws.FnMakeRemoveRaftVoterRequest", spec := "fnMakeRemoveRaftVoterRequest", inPlace := ["internal/reflectlite.ValueOf", "internal/reflectlite.Swapper", "(internal/reflectlite.Value).Len"], unfollowed := true, recurses := true, loops := true, apart := false, narrowed := true }
def FnMakeRemoveRaftVoterRequestUptoSaid : Prop := fnMakeRemoveRaftVoterRequestUptoRow.holds Try.pinned (OpenSpec.upto fnMakeRemoveRaftVoterRequestSpec)

/-- 'laws.FnMakeDescribeLogDirsRequest', WHERE WHAT IT READS IS OF BULK AT MOST 1048576: true; the input reads as it did. -/
def fnMakeDescribeLogDirsRequestUptoRow : OpenClaim := { program := "ytbjopfcbpobnpaa", sum := "2ba73b7b5e0d9b5cea1cbd7443a08c64de0cc3d2bdc8bb6c179fb3a8ec644122", func := "pub-mailsack/laws.FnMakeDescribeLogDirsRequest", spec := "fnMakeDescribeLogDirsRequest", inPlace := ["internal/reflectlite.ValueOf", "internal/reflectlite.Swapper", "(internal/reflectlite.Value).Len"], unfollowed := true, recurses := true, loops := true, apart := false, narrowed := true }
def FnMakeDescribeLogDirsRequestUptoSaid : Prop := fnMakeDescribeLogDirsRequestUptoRow.holds Try.pinned (OpenSpec.upto fnMakeDescribeLogDirsRequestSpec)

/-- 'laws.FnMakeAlterConfigsResponse', WHERE WHAT IT READS IS OF BULK AT MOST 1048576: true; the input reads as it did. -/
def fnMakeAlterConfigsResponseUptoRow : OpenClaim := { program := "ytbjopfcbpobnpaa", sum := "2ba73b7b5e0d9b5cea1cbd7443a08c64de0cc3d2bdc8bb6c179fb3a8ec644122", func := "pub-mailsack/laws.FnMakeAlterConfigsResponse", spec := "fnMakeAlterConfigsResponse", inPlace := ["internal/reflectlite.ValueOf", "internal/reflectlite.Swapper", "(internal/reflectlite.Value).Len"], unfollowed := true, recurses := true, loops := true, apart := false, narrowed := true }
def FnMakeAlterConfigsResponseUptoSaid : Prop := fnMakeAlterConfigsResponseUptoRow.holds Try.pinned (OpenSpec.upto fnMakeAlterConfigsResponseSpec)

/-- 'laws.FnMakeElectLeadersResponse', WHERE WHAT IT READS IS OF BULK AT MOST 1048576: true; the input reads as it did. -/
def fnMakeElectLeadersResponseUptoRow : OpenClaim := { program := "ytbjopfcbpobnpaa", sum := "2ba73b7b5e0d9b5cea1cbd7443a08c64de0cc3d2bdc8bb6c179fb3a8ec644122", func := "pub-mailsack/laws.FnMakeElectLeadersResponse", spec := "fnMakeElectLeadersResponse", inPlace := ["internal/reflectlite.ValueOf", "internal/reflectlite.Swapper", "(internal/reflectlite.Value).Len"], unfollowed := true, recurses := true, loops := true, apart := false, narrowed := true }
def FnMakeElectLeadersResponseUptoSaid : Prop := fnMakeElectLeadersResponseUptoRow.holds Try.pinned (OpenSpec.upto fnMakeElectLeadersResponseSpec)

/-- 'laws.FnMakeSyncGroupRequest', WHERE WHAT IT READS IS OF BULK AT MOST 1048576: true; the input reads as it did. -/
def fnMakeSyncGroupRequestUptoRow : OpenClaim := { program := "ytbjopfcbpobnpaa", sum := "2ba73b7b5e0d9b5cea1cbd7443a08c64de0cc3d2bdc8bb6c179fb3a8ec644122", func := "pub-mailsack/laws.FnMakeSyncGroupRequest", spec := "fnMakeSyncGroupRequest", inPlace := ["internal/reflectlite.ValueOf", "internal/reflectlite.Swapper", "(internal/reflectlite.Value).Len"], unfollowed := true, recurses := true, loops := true, apart := false, narrowed := true }
def FnMakeSyncGroupRequestUptoSaid : Prop := fnMakeSyncGroupRequestUptoRow.holds Try.pinned (OpenSpec.upto fnMakeSyncGroupRequestSpec)

/-- 'laws.FnMakeDescribeProducersResponse', WHERE WHAT IT READS IS OF BULK AT MOST 1048576: true; the input reads as it did. -/
def fnMakeDescribeProducersResponseUptoRow : OpenClaim := { program := "ytbjopfcbpobnpaa", sum := "2ba73b7b5e0d9b5cea1cbd7443a08c64de0cc3d2bdc8bb6c179fb3a8ec644122", func := "pub-mailsack/laws.FnMakeDescribeProducersResponse", spec := "fnMakeDescribeProducersResponse", inPlace := ["internal/reflectlite.ValueOf", "internal/reflectlite.Swapper", "(internal/reflectlite.Value).Len"], unfollowed := true, recurses := true, loops := true, apart := false, narrowed := true }
def FnMakeDescribeProducersResponseUptoSaid : Prop := fnMakeDescribeProducersResponseUptoRow.holds Try.pinned (OpenSpec.upto fnMakeDescribeProducersResponseSpec)

end Rows
end Go.Proofs.Ytbjopfcbpobnpaa
