/- FnTellBrokerHeartbeatRequest: the statement: of every version and every tree of the bulk that the statement speaks of the law returns true, and leaves its arguments as they are; and the card. Own work. -/
import Derived.Test.YtdlaobdadlmcdabDoorWt0P7
import Derived.Test.YtdlaobdadlmcdabDoorTie
import Derived.Test.YtdlaobdadlmcdabDoorCards
import Derived.LaidMore
import Derived.SevenTiedAt
namespace Go.Proofs.YtdlaobdadlmcdabDoor.ME
open Go
open Go.ChangeShapes Go.WideShapes Go.ChangeAt Go.RowKit
set_option linter.unusedVariables false
set_option linter.unusedSimpArgs false
theorem j0_:(Rows.fnTellBrokerHeartbeatRequestUptoRow.inPlace == (Tryd.pinned.checked.prog).inPlace 3) = true:=by kernel_rfl
theorem j1_:(Rows.fnTellBrokerHeartbeatRequestUptoRow.unfollowed == (Tryd.pinned.checked.prog).unfollowed 3) = true:=by kernel_rfl
theorem j2_:(Rows.fnTellBrokerHeartbeatRequestUptoRow.recurses == (Tryd.pinned.checked.prog).recurses 3) = true:=by kernel_rfl
theorem j3_:(Rows.fnTellBrokerHeartbeatRequestUptoRow.named == (Tryd.pinned.checked.prog).varsNamed 3) = true:=by kernel_rfl
theorem j4_:laidOutB (Tryd.pinned.checked.prog) = true:=by kernel_rfl
theorem j5_:mapsRowed (Tryd.pinned.checked.prog) = true:=by kernel_rfl
theorem j6_:(Rows.fnTellBrokerHeartbeatRequestUptoRow.plainKeys == (Tryd.pinned.checked.prog).plainKeys) = true:=by kernel_rfl
theorem j7_:(Tryd.pinned.checked.prog).stopsHeard = true:=by kernel_rfl
theorem j8_:(Rows.fnTellBrokerHeartbeatRequestUptoRow.lifted == (Tryd.pinned.checked.prog).liftsFinal) = true:=by kernel_rfl
theorem qkK:joinedFacts (Tryd.pinned.checked.prog) 3 Tryd.f3 (Rows.OpenSpec.upto Rows.fnTellBrokerHeartbeatRequestSpec).bare Rows.fnTellBrokerHeartbeatRequestUptoRow = true:=by
 unfold joinedFacts
 rw [j0_,j1_,j2_,j3_,j4_,j5_,j6_,j7_,j8_]
 kernel_rfl
theorem qlB:Tryd.f3.isInstance (Tryd.pinned.checked.prog) Rows.fnTellBrokerHeartbeatRequestUptoRow.origin Rows.fnTellBrokerHeartbeatRequestUptoRow.targs:=of_decide_eq_true kz
theorem qjQ:Tryd.f3.isWrapper (Tryd.pinned.checked.prog) Rows.fnTellBrokerHeartbeatRequestUptoRow.wrapper Rows.fnTellBrokerHeartbeatRequestUptoRow.mainSum:=by unfold Func.isWrapper; first | (rw [if_pos (by decide +kernel)]; kernel_rfl) | (rw [if_neg (by decide +kernel)]; exact ⟨rfl,rfl⟩)
theorem holds_:Rows.FnTellBrokerHeartbeatRequestUptoSaid :=
 OpenClaim.holds_of_cond 3 Tryd.f3 rfl rfl rfl rfl rfl rfl rfl ⟨rfl,rfl,rfl,rfl,rfl⟩ rfl rfl rfl rfl rfl kz Tryd.func3 qkK qlB qjQ
  (fun os started H enc _ F=>qkJ os started H enc F)
theorem cw_:Rows.fnTellBrokerHeartbeatRequestUptoRow.wfByText (Rows.OpenSpec.upto Rows.fnTellBrokerHeartbeatRequestSpec) = true:=by kernel_rfl
theorem cm_ : (Tryd.pinned.checked.prog).mainIs = some (true, "b47e84f7a552649082140c90b62b363c097eaaeed12eb7cb4486e4fa8263535a".toList) := by kernel_rfl
theorem cn_ : (Tryd.pinned.checked.prog).funcNamed "pub-mailsack/laws.FnTellBrokerHeartbeatRequest" = some 3 := by kernel_rfl
theorem cl_:false = (Tryd.pinned.checked.prog).looks []:=by kernel_rfl
theorem ca_:([5,26].all fun u=>!(Tryd.pinned.checked.prog).wantsStandIn u) = true:=by kernel_rfl
theorem cg_:false = Rows.fnTellBrokerHeartbeatRequestUptoRow.goesBy (Tryd.pinned.checked.prog):=by kernel_rfl
end Go.Proofs.YtdlaobdadlmcdabDoor.ME
namespace Go.Proofs.YtdlaobdadlmcdabDoor
open Go
theorem fnTellBrokerHeartbeatRequest_holds:Rows.FnTellBrokerHeartbeatRequestUptoCardSaid :=
 Claim7.holds_tied_plain_at .later [] [.sentinel] true (true, "b47e84f7a552649082140c90b62b363c097eaaeed12eb7cb4486e4fa8263535a") false ME.holds_ (fun _ h => by cases h) ME.cw_ (fun _ h => by cases h) fnTellBrokerHeartbeatRequestUpto_row_tie rfl ⟨rfl, rfl⟩ ME.cm_ rfl
  (fun f fn hf hfn=>by
   obtain rfl:f = 3:=Option.some.inj (ME.cn_.symm.trans hf) |>.symm
   obtain rfl:fn = Tryd.f3:=(Option.some.inj (Tryd.func3.symm.trans hfn)).symm
   exact ⟨ME.cl_,fun j t ht=>by
    rw [Tryd.params3] at ht
    have hm:t ∈ [5,26]:=by simpa using Array.mem_of_getElem? ht
    exact (show (Tryd.pinned.checked.prog).wantsStandIn t = false by simpa using List.all_eq_true.1 ME.ca_ t hm)⟩)
  ME.cg_
end Go.Proofs.YtdlaobdadlmcdabDoor