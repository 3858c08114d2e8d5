/-
  NARROWER THAN 'FOR EVERY INPUT', by the rows' own cells (each row's printed sentence says how): FnMakeEndTxnMarker: loops · FnMakeUnregisterControllerRequest: loops · FnMakeGetTelemetrySubscriptionsRequest: loops · FnMakeHeartbeatResponse: loops · FnMakeRenewDelegationTokenResponse: loops.
  DERIVED. THE GIVEN ROWS OF THIS SEAT. 5 by the template 'for every input the law returns true; each argument reads behind the call as it read before'; 0 by the template 'total and deterministic' (their statements: YtlkiilgbpliakaaTotals.lean).
  GIVEN WITH THE SEED: the statements are not yours to turn. If you find one false, say at which input.
  Laid BY PROGRAM, IN A SANDBOX (cutbox-rows.mjs): the forced cells as the released guide's own fill.sh prints them over the translation 5a145cf14488de56… (all of the seat's roots in one cut). By AI agents, Wed Nov 11 2026. No macro, syntax, notation, axiom, sorry.
-/
import Derived.Test.YtlkiilgbpliakaaChecked
import GoSem.Claim
import GoSem.ClaimJoined
import GoSem.ClaimMapViews
import Derived.JoinedTies
import Derived.KernelRfl
namespace Go.Proofs.Ytlkiilgbpliakaa
/- THE CELL 'sum', in the pinned program and in every row, IS THE sha256 OF THE DUMP (.gsa) THAT YtlkiilgbpliakaaProg.lean LOADS. Nothing in Lean hashes anything: it is a label: what it is worth is what the hold of that sum in a sandbox is worth. -/
noncomputable def Try.pinned : Pinned := { name := "ytlkiilgbpliakaa", sum := "5a145cf14488de56e1f648cf7685914e3970ed152045ae4559ce630fab12c6d9", checked := Try.checked }
namespace Rows
def none {H : Type} : Left H := { results := [], args := [] }

/-- 'laws.FnMakeEndTxnMarker': WHATEVER THE INPUT: true; the input reads as it did. -/
def fnMakeEndTxnMarkerSpec : ChangeSpec := { name := "fnMakeEndTxnMarker", fn := fun _ => fun
  | [d1, d2] => { results := [.lit (.bool true)], args := [d1, d2] }
  | _ => none }
def fnMakeEndTxnMarkerRow : OpenClaim := { program := "ytlkiilgbpliakaa", sum := "5a145cf14488de56e1f648cf7685914e3970ed152045ae4559ce630fab12c6d9", func := "pub-mailsack/laws.FnMakeEndTxnMarker", spec := "fnMakeEndTxnMarker", recurses := true, loops := true, apart := false }
def FnMakeEndTxnMarkerSaid : Prop := fnMakeEndTxnMarkerRow.holds Try.pinned (OpenSpec.ofChange fnMakeEndTxnMarkerSpec)

/-- ITS FALSE NEIGHBOUR: 'it returns false'. Refute it at one input. -/
def fnMakeEndTxnMarkerWrong : ChangeSpec := { name := "fnMakeEndTxnMarker", fn := fun _ => fun
  | [d1, d2] => { results := [.lit (.bool false)], args := [d1, d2] }
  | _ => none }
def FnMakeEndTxnMarkerWrongFalsely : Prop := fnMakeEndTxnMarkerRow.holds Try.pinned (OpenSpec.ofChange fnMakeEndTxnMarkerWrong)

/-- 'laws.FnMakeUnregisterControllerRequest': WHATEVER THE INPUT: true; the input reads as it did. -/
def fnMakeUnregisterControllerRequestSpec : ChangeSpec := { name := "fnMakeUnregisterControllerRequest", fn := fun _ => fun
  | [d1, d2] => { results := [.lit (.bool true)], args := [d1, d2] }
  | _ => none }
def fnMakeUnregisterControllerRequestRow : OpenClaim := { program := "ytlkiilgbpliakaa", sum := "5a145cf14488de56e1f648cf7685914e3970ed152045ae4559ce630fab12c6d9", func := "pub-mailsack/laws.FnMakeUnregisterControllerRequest", spec := "fnMakeUnregisterControllerRequest", inPlace := ["internal/reflectlite.ValueOf", "internal/reflectlite.Swapper", "(internal/reflectlite.Value).Len"], unfollowed := true, recurses := true, loops := true, apart := false }
def FnMakeUnregisterControllerRequestSaid : Prop := fnMakeUnregisterControllerRequestRow.holds Try.pinned (OpenSpec.ofChange fnMakeUnregisterControllerRequestSpec)

/-- ITS FALSE NEIGHBOUR: 'it returns false'. Refute it at one input. -/
def fnMakeUnregisterControllerRequestWrong : ChangeSpec := { name := "fnMakeUnregisterControllerRequest", fn := fun _ => fun
  | [d1, d2] => { results := [.lit (.bool false)], args := [d1, d2] }
  | _ => none }
def FnMakeUnregisterControllerRequestWrongFalsely : Prop := fnMakeUnregisterControllerRequestRow.holds Try.pinned (OpenSpec.ofChange fnMakeUnregisterControllerRequestWrong)

/-- 'laws.FnMakeGetTelemetrySubscriptionsRequest': WHATEVER THE INPUT: true; the input reads as it did. -/
def fnMakeGetTelemetrySubscriptionsRequestSpec : ChangeSpec := { name := "fnMakeGetTelemetrySubscriptionsRequest", fn := fun _ => fun
  | [d1, d2] => { results := [.lit (.bool true)], args := [d1, d2] }
  | _ => none }
def fnMakeGetTelemetrySubscriptionsRequestRow : OpenClaim := { program := "ytlkiilgbpliakaa", sum := "5a145cf14488de56e1f648cf7685914e3970ed152045ae4559ce630fab12c6d9", func := "pub-mailsack/laws.FnMakeGetTelemetrySubscriptionsRequest", spec := "fnMakeGetTelemetrySubscriptionsRequest", inPlace := ["internal/reflectlite.ValueOf", "internal/reflectlite.Swapper", "(internal/reflectlite.Value).Len"], unfollowed := true, recurses := true, loops := true, apart := false }
def FnMakeGetTelemetrySubscriptionsRequestSaid : Prop := fnMakeGetTelemetrySubscriptionsRequestRow.holds Try.pinned (OpenSpec.ofChange fnMakeGetTelemetrySubscriptionsRequestSpec)

/-- ITS FALSE NEIGHBOUR: 'it returns false'. Refute it at one input. -/
def fnMakeGetTelemetrySubscriptionsRequestWrong : ChangeSpec := { name := "fnMakeGetTelemetrySubscriptionsRequest", fn := fun _ => fun
  | [d1, d2] => { results := [.lit (.bool false)], args := [d1, d2] }
  | _ => none }
def FnMakeGetTelemetrySubscriptionsRequestWrongFalsely : Prop := fnMakeGetTelemetrySubscriptionsRequestRow.holds Try.pinned (OpenSpec.ofChange fnMakeGetTelemetrySubscriptionsRequestWrong)

/-- 'laws.FnMakeHeartbeatResponse': WHATEVER THE INPUT: true; the input reads as it did. -/
def fnMakeHeartbeatResponseSpec : ChangeSpec := { name := "fnMakeHeartbeatResponse", fn := fun _ => fun
  | [d1, d2] => { results := [.lit (.bool true)], args := [d1, d2] }
  | _ => none }
def fnMakeHeartbeatResponseRow : OpenClaim := { program := "ytlkiilgbpliakaa", sum := "5a145cf14488de56e1f648cf7685914e3970ed152045ae4559ce630fab12c6d9", func := "pub-mailsack/laws.FnMakeHeartbeatResponse", spec := "fnMakeHeartbeatResponse", inPlace := ["internal/reflectlite.ValueOf", "internal/reflectlite.Swapper", "(internal/reflectlite.Value).Len"], unfollowed := true, recurses := true, loops := true, apart := false }
def FnMakeHeartbeatResponseSaid : Prop := fnMakeHeartbeatResponseRow.holds Try.pinned (OpenSpec.ofChange fnMakeHeartbeatResponseSpec)

/-- ITS FALSE NEIGHBOUR: 'it returns false'. Refute it at one input. -/
def fnMakeHeartbeatResponseWrong : ChangeSpec := { name := "fnMakeHeartbeatResponse", fn := fun _ => fun
  | [d1, d2] => { results := [.lit (.bool false)], args := [d1, d2] }
  | _ => none }
def FnMakeHeartbeatResponseWrongFalsely : Prop := fnMakeHeartbeatResponseRow.holds Try.pinned (OpenSpec.ofChange fnMakeHeartbeatResponseWrong)

/-- 'laws.FnMakeRenewDelegationTokenResponse': WHATEVER THE INPUT: true; the input reads as it did. -/
def fnMakeRenewDelegationTokenResponseSpec : ChangeSpec := { name := "fnMakeRenewDelegationTokenResponse", fn := fun _ => fun
  | [d1, d2] => { results := [.lit (.bool true)], args := [d1, d2] }
  | _ => none }
def fnMakeRenewDelegationTokenResponseRow : OpenClaim := { program := "ytlkiilgbpliakaa", sum := "5a145cf14488de56e1f648cf7685914e3970ed152045ae4559ce630fab12c6d9", func := "pub-mailsack/laws.FnMakeRenewDelegationTokenResponse", spec := "fnMakeRenewDelegationTokenResponse", inPlace := ["internal/reflectlite.ValueOf", "internal/reflectlite.Swapper", "(internal/reflectlite.Value).Len"], unfollowed := true, recurses := true, loops := true, apart := false }
def FnMakeRenewDelegationTokenResponseSaid : Prop := fnMakeRenewDelegationTokenResponseRow.holds Try.pinned (OpenSpec.ofChange fnMakeRenewDelegationTokenResponseSpec)

/-- ITS FALSE NEIGHBOUR: 'it returns false'. Refute it at one input. -/
def fnMakeRenewDelegationTokenResponseWrong : ChangeSpec := { name := "fnMakeRenewDelegationTokenResponse", fn := fun _ => fun
  | [d1, d2] => { results := [.lit (.bool false)], args := [d1, d2] }
  | _ => none }
def FnMakeRenewDelegationTokenResponseWrongFalsely : Prop := fnMakeRenewDelegationTokenResponseRow.holds Try.pinned (OpenSpec.ofChange fnMakeRenewDelegationTokenResponseWrong)

/- THE SECOND FORM. 'bulk': how many values and letters a reading holds, each counted each time it is reached (what is shared counts as often as it is met; a slice's spare places count too). A statement '..UptoSaid' is the law's where the arguments, and the package variables that the reading takes, are together of bulk at most 1048576: NARROWER than '..Said'. Prove '..Said' where nothing that the law and all that it calls make is longer than what came in: it says more and counts as full. Else prove '..UptoSaid'. A law counts once. -/
mutual
def uptoBulk {H : Type} : DataW H → Nat
  | .lit (.string bytes) => bytes.length + 1
  | .lit _ => 1
  | .nil => 1
  | .ptr d => uptoBulk d + 1
  | .slice elems spare => uptoBulkAll elems + uptoBulkAll spare + 1
  | .agg parts => uptoBulkAll parts + 1
  | .iface _ d => uptoBulk d + 1
  | .map entries => uptoBulkEntries entries + 1
  | .held _ => 1
def uptoBulkAll {H : Type} : List (DataW H) → Nat
  | [] => 0
  | d :: r => uptoBulk d + uptoBulkAll r
def uptoBulkEntries {H : Type} : List (Lit × DataW H) → Nat
  | [] => 0
  | x :: r => uptoBulkEntry x + uptoBulkEntries r
def uptoBulkEntry {H : Type} : Lit × DataW H → Nat
  | (.string bytes, d) => bytes.length + uptoBulk d + 1
  | (_, d) => uptoBulk d + 1
 end
def uptoSmall : (H : Type) → List (DataW H) → Bool := fun _ ds => decide (uptoBulkAll ds ≤ 1048576)
def OpenSpec.upto (s : _root_.Go.ChangeSpec) : _root_.Go.OpenSpec := { _root_.Go.OpenSpec.ofChange s with cond := some uptoSmall }

/-- 'laws.FnMakeEndTxnMarker', WHERE WHAT IT READS IS OF BULK AT MOST 1048576: true; the input reads as it did. -/
def fnMakeEndTxnMarkerUptoRow : OpenClaim := { program := "ytlkiilgbpliakaa", sum := "5a145cf14488de56e1f648cf7685914e3970ed152045ae4559ce630fab12c6d9", func := "pub-mailsack/laws.FnMakeEndTxnMarker", spec := "fnMakeEndTxnMarker", recurses := true, loops := true, apart := false, narrowed := true }
def FnMakeEndTxnMarkerUptoSaid : Prop := fnMakeEndTxnMarkerUptoRow.holds Try.pinned (OpenSpec.upto fnMakeEndTxnMarkerSpec)

/-- 'laws.FnMakeUnregisterControllerRequest', WHERE WHAT IT READS IS OF BULK AT MOST 1048576: true; the input reads as it did. -/
def fnMakeUnregisterControllerRequestUptoRow : OpenClaim := { program := "ytlkiilgbpliakaa", sum := "5a145cf14488de56e1f648cf7685914e3970ed152045ae4559ce630fab12c6d9", func := "pub-mailsack/laws.FnMakeUnregisterControllerRequest", spec := "fnMakeUnregisterControllerRequest", inPlace := ["internal/reflectlite.ValueOf", "internal/reflectlite.Swapper", "(internal/reflectlite.Value).Len"], unfollowed := true, recurses := true, loops := true, apart := false, narrowed := true }
def FnMakeUnregisterControllerRequestUptoSaid : Prop := fnMakeUnregisterControllerRequestUptoRow.holds Try.pinned (OpenSpec.upto fnMakeUnregisterControllerRequestSpec)

/-- 'laws.FnMakeGetTelemetrySubscriptionsRequest', WHERE WHAT IT READS IS OF BULK AT MOST 1048576: true; the input reads as it did. -/
def fnMakeGetTelemetrySubscriptionsRequestUptoRow : OpenClaim := { program := "ytlkiilgbpliakaa", sum := "5a145cf14488de56e1f648cf7685914e3970ed152045ae4559ce630fab12c6d9", func := "pub-mailsack/laws.FnMakeGetTelemetrySubscriptionsRequest", spec := "fnMakeGetTelemetrySubscriptionsRequest", inPlace := ["internal/reflectlite.ValueOf", "internal/reflectlite.Swapper", "(internal/reflectlite.Value).Len"], unfollowed := true, recurses := true, loops := true, apart := false, narrowed := true }
def FnMakeGetTelemetrySubscriptionsRequestUptoSaid : Prop := fnMakeGetTelemetrySubscriptionsRequestUptoRow.holds Try.pinned (OpenSpec.upto fnMakeGetTelemetrySubscriptionsRequestSpec)

/-- 'laws.FnMakeHeartbeatResponse', WHERE WHAT IT READS IS OF BULK AT MOST 1048576: true; the input reads as it did. -/
def fnMakeHeartbeatResponseUptoRow : OpenClaim := { program := "ytlkiilgbpliakaa", sum := "5a145cf14488de56e1f648cf7685914e3970ed152045ae4559ce630fab12c6d9", func := "pub-mailsack/laws.FnMakeHeartbeatResponse", spec := "fnMakeHeartbeatResponse", inPlace := ["internal/reflectlite.ValueOf", "internal/reflectlite.Swapper", "(internal/reflectlite.Value).Len"], unfollowed := true, recurses := true, loops := true, apart := false, narrowed := true }
def FnMakeHeartbeatResponseUptoSaid : Prop := fnMakeHeartbeatResponseUptoRow.holds Try.pinned (OpenSpec.upto fnMakeHeartbeatResponseSpec)

/-- 'laws.FnMakeRenewDelegationTokenResponse', WHERE WHAT IT READS IS OF BULK AT MOST 1048576: true; the input reads as it did. -/
def fnMakeRenewDelegationTokenResponseUptoRow : OpenClaim := { program := "ytlkiilgbpliakaa", sum := "5a145cf14488de56e1f648cf7685914e3970ed152045ae4559ce630fab12c6d9", func := "pub-mailsack/laws.FnMakeRenewDelegationTokenResponse", spec := "fnMakeRenewDelegationTokenResponse", inPlace := ["internal/reflectlite.ValueOf", "internal/reflectlite.Swapper", "(internal/reflectlite.Value).Len"], unfollowed := true, recurses := true, loops := true, apart := false, narrowed := true }
def FnMakeRenewDelegationTokenResponseUptoSaid : Prop := fnMakeRenewDelegationTokenResponseUptoRow.holds Try.pinned (OpenSpec.upto fnMakeRenewDelegationTokenResponseSpec)

end Rows
end Go.Proofs.Ytlkiilgbpliakaa
