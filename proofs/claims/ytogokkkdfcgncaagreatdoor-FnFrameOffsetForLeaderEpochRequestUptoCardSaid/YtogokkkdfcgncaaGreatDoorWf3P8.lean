/- FnFrameOffsetForLeaderEpochRequest: the statement: of every version and every tree of the bulk that the statement speaks of the law returns true, and leaves its arguments as they are; and the card. Own work. -/
import Derived.Test.YtogokkkdfcgncaaGreatDoorWf3P7
import Derived.Test.YtogokkkdfcgncaaGreatDoorTie
import Derived.Test.YtogokkkdfcgncaaGreatDoorCards
import Derived.LaidMore
import Derived.SevenTiedAt
import Derived.Carry
namespace Go.Proofs.YtogokkkdfcgncaaGreatDoor.ME
open Go
open Go.ChangeShapes Go.WideShapes Go.ChangeAt Go.RowKit
set_option linter.unusedVariables false
set_option linter.unusedSimpArgs false
theorem j0_:(Rows.fnFrameOffsetForLeaderEpochRequestUptoRow.inPlace == (Tryz.pinned.checked.prog).inPlace 8) = true:=by kernel_rfl
theorem j1_:(Rows.fnFrameOffsetForLeaderEpochRequestUptoRow.unfollowed == (Tryz.pinned.checked.prog).unfollowed 8) = true:=by kernel_rfl
theorem j2_:(Rows.fnFrameOffsetForLeaderEpochRequestUptoRow.recurses == (Tryz.pinned.checked.prog).recurses 8) = true:=by kernel_rfl
theorem j3_:(Rows.fnFrameOffsetForLeaderEpochRequestUptoRow.named == (Tryz.pinned.checked.prog).varsNamed 8) = true:=by kernel_rfl
theorem j4_:laidOutB (Tryz.pinned.checked.prog) = true:=by kernel_rfl
theorem j5_:mapsRowed (Tryz.pinned.checked.prog) = true:=by kernel_rfl
theorem j6_:(Rows.fnFrameOffsetForLeaderEpochRequestUptoRow.plainKeys == (Tryz.pinned.checked.prog).plainKeys) = true:=by kernel_rfl
theorem j7_:(Tryz.pinned.checked.prog).stopsHeard = true:=by kernel_rfl
theorem j8_:(Rows.fnFrameOffsetForLeaderEpochRequestUptoRow.lifted == (Tryz.pinned.checked.prog).liftsFinal) = true:=by kernel_rfl
theorem qli:joinedFacts (Tryz.pinned.checked.prog) 8 Tryz.f8 (Rows.OpenSpec.upto Rows.fnFrameOffsetForLeaderEpochRequestSpec).bare Rows.fnFrameOffsetForLeaderEpochRequestUptoRow = true:=by
 unfold joinedFacts
 rw [j0_,j1_,j2_,j3_,j4_,j5_,j6_,j7_,j8_]
 kernel_rfl
theorem ql0:Tryz.f8.isInstance (Tryz.pinned.checked.prog) Rows.fnFrameOffsetForLeaderEpochRequestUptoRow.origin Rows.fnFrameOffsetForLeaderEpochRequestUptoRow.targs:=of_decide_eq_true kz
theorem qkn:Tryz.f8.isWrapper (Tryz.pinned.checked.prog) Rows.fnFrameOffsetForLeaderEpochRequestUptoRow.wrapper Rows.fnFrameOffsetForLeaderEpochRequestUptoRow.mainSum:=by unfold Func.isWrapper; first | (rw [if_pos (by decide +kernel)]; kernel_rfl) | (rw [if_neg (by decide +kernel)]; exact ⟨rfl,rfl⟩)
theorem holds_:Rows.FnFrameOffsetForLeaderEpochRequestUptoSaid :=
 OpenClaim.holds_of_cond 8 Tryz.f8 rfl rfl rfl rfl rfl rfl rfl ⟨rfl,rfl,rfl,rfl,rfl⟩ rfl rfl rfl rfl rfl kz Tryz.func8 qli ql0 qkn
  (fun os started H enc _ F=>qlh os started H enc F)
theorem cw_:Rows.fnFrameOffsetForLeaderEpochRequestUptoRow.wfByText (Rows.OpenSpec.upto Rows.fnFrameOffsetForLeaderEpochRequestSpec) = true:=by kernel_rfl
theorem cm_ : (Tryz.pinned.checked.prog).mainIs = some (true, "4665a474083eee65519b98164d97f605d3d93e4f6e3bc25d67bfab7532d006c2".toList) := by kernel_rfl
theorem cn_ : (Tryz.pinned.checked.prog).funcNamed "pub-mailsack/laws.FnFrameOffsetForLeaderEpochRequest" = some 8 := by kernel_rfl
theorem cl_:false = (Tryz.pinned.checked.prog).looks []:=by kernel_rfl
theorem ca_:([5,23,21,28].all fun u=>!(Tryz.pinned.checked.prog).wantsStandIn u) = true:=by kernel_rfl
theorem cg_:false = Rows.fnFrameOffsetForLeaderEpochRequestUptoRow.goesBy (Tryz.pinned.checked.prog):=by kernel_rfl
end Go.Proofs.YtogokkkdfcgncaaGreatDoor.ME
namespace Go.Proofs.YtogokkkdfcgncaaGreatDoor
open Go
theorem fnFrameOffsetForLeaderEpochRequest_holds:Rows.FnFrameOffsetForLeaderEpochRequestUptoCardSaid :=
 Claim7.holds_tied_plain_at .later [] [.sentinel] true (true, "4665a474083eee65519b98164d97f605d3d93e4f6e3bc25d67bfab7532d006c2") false ME.holds_ (fun _ h => by cases h) ME.cw_ (fun _ h => by cases h) fnFrameOffsetForLeaderEpochRequestUpto_row_tie rfl ⟨rfl, rfl⟩ ME.cm_ rfl
  (fun f fn hf hfn=>by
   obtain rfl:f = 8:=Option.some.inj (ME.cn_.symm.trans hf) |>.symm
   obtain rfl:fn = Tryz.f8:=(Option.some.inj (Tryz.func8.symm.trans hfn)).symm
   exact ⟨ME.cl_,fun j t ht=>by
    rw [Tryz.params8] at ht
    have hm:t ∈ [5,23,21,28]:=by simpa using Array.mem_of_getElem? ht
    exact (show (Tryz.pinned.checked.prog).wantsStandIn t = false by simpa using List.all_eq_true.1 ME.ca_ t hm)⟩)
  ME.cg_
end Go.Proofs.YtogokkkdfcgncaaGreatDoor