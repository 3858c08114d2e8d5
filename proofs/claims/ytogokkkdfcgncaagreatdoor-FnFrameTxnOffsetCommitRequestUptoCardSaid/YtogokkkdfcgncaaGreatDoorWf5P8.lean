/- FnFrameTxnOffsetCommitRequest: the statement: of every version and every tree of the bulk that the statement speaks of the law returns true, and leaves its arguments as they are; and the card. Own work. -/
import Derived.Test.YtogokkkdfcgncaaGreatDoorWf5P7
import Derived.Test.YtogokkkdfcgncaaGreatDoorTie
import Derived.Test.YtogokkkdfcgncaaGreatDoorCards
import Derived.LaidMore
import Derived.SevenTiedAt
import Derived.Carry
namespace Go.Proofs.YtogokkkdfcgncaaGreatDoor.ME
open Go
open Go.ChangeShapes Go.WideShapes Go.ChangeAt Go.RowKit
set_option linter.unusedVariables false
set_option linter.unusedSimpArgs false
theorem j0_:(Rows.fnFrameTxnOffsetCommitRequestUptoRow.inPlace == (Tryz.pinned.checked.prog).inPlace 4) = true:=by kernel_rfl
theorem j1_:(Rows.fnFrameTxnOffsetCommitRequestUptoRow.unfollowed == (Tryz.pinned.checked.prog).unfollowed 4) = true:=by kernel_rfl
theorem j2_:(Rows.fnFrameTxnOffsetCommitRequestUptoRow.recurses == (Tryz.pinned.checked.prog).recurses 4) = true:=by kernel_rfl
theorem j3_:(Rows.fnFrameTxnOffsetCommitRequestUptoRow.named == (Tryz.pinned.checked.prog).varsNamed 4) = true:=by kernel_rfl
theorem j4_:laidOutB (Tryz.pinned.checked.prog) = true:=by kernel_rfl
theorem j5_:mapsRowed (Tryz.pinned.checked.prog) = true:=by kernel_rfl
theorem j6_:(Rows.fnFrameTxnOffsetCommitRequestUptoRow.plainKeys == (Tryz.pinned.checked.prog).plainKeys) = true:=by kernel_rfl
theorem j7_:(Tryz.pinned.checked.prog).stopsHeard = true:=by kernel_rfl
theorem j8_:(Rows.fnFrameTxnOffsetCommitRequestUptoRow.lifted == (Tryz.pinned.checked.prog).liftsFinal) = true:=by kernel_rfl
theorem qlX:joinedFacts (Tryz.pinned.checked.prog) 4 Tryz.f4 (Rows.OpenSpec.upto Rows.fnFrameTxnOffsetCommitRequestSpec).bare Rows.fnFrameTxnOffsetCommitRequestUptoRow = true:=by
 unfold joinedFacts
 rw [j0_,j1_,j2_,j3_,j4_,j5_,j6_,j7_,j8_]
 kernel_rfl
theorem qmM:Tryz.f4.isInstance (Tryz.pinned.checked.prog) Rows.fnFrameTxnOffsetCommitRequestUptoRow.origin Rows.fnFrameTxnOffsetCommitRequestUptoRow.targs:=of_decide_eq_true kz
theorem qk0:Tryz.f4.isWrapper (Tryz.pinned.checked.prog) Rows.fnFrameTxnOffsetCommitRequestUptoRow.wrapper Rows.fnFrameTxnOffsetCommitRequestUptoRow.mainSum:=by unfold Func.isWrapper; first | (rw [if_pos (by decide +kernel)]; kernel_rfl) | (rw [if_neg (by decide +kernel)]; exact ⟨rfl,rfl⟩)
theorem holds_:Rows.FnFrameTxnOffsetCommitRequestUptoSaid :=
 OpenClaim.holds_of_cond 4 Tryz.f4 rfl rfl rfl rfl rfl rfl rfl ⟨rfl,rfl,rfl,rfl,rfl⟩ rfl rfl rfl rfl rfl kz Tryz.func4 qlX qmM qk0
  (fun os started H enc _ F=>qlW os started H enc F)
theorem cw_:Rows.fnFrameTxnOffsetCommitRequestUptoRow.wfByText (Rows.OpenSpec.upto Rows.fnFrameTxnOffsetCommitRequestSpec) = true:=by kernel_rfl
theorem cm_ : (Tryz.pinned.checked.prog).mainIs = some (true, "4665a474083eee65519b98164d97f605d3d93e4f6e3bc25d67bfab7532d006c2".toList) := by kernel_rfl
theorem cn_ : (Tryz.pinned.checked.prog).funcNamed "pub-mailsack/laws.FnFrameTxnOffsetCommitRequest" = some 4 := by kernel_rfl
theorem cl_:false = (Tryz.pinned.checked.prog).looks []:=by kernel_rfl
theorem ca_:([5,23,21,28].all fun u=>!(Tryz.pinned.checked.prog).wantsStandIn u) = true:=by kernel_rfl
theorem cg_:false = Rows.fnFrameTxnOffsetCommitRequestUptoRow.goesBy (Tryz.pinned.checked.prog):=by kernel_rfl
end Go.Proofs.YtogokkkdfcgncaaGreatDoor.ME
namespace Go.Proofs.YtogokkkdfcgncaaGreatDoor
open Go
theorem fnFrameTxnOffsetCommitRequest_holds:Rows.FnFrameTxnOffsetCommitRequestUptoCardSaid :=
 Claim7.holds_tied_plain_at .later [] [.sentinel] true (true, "4665a474083eee65519b98164d97f605d3d93e4f6e3bc25d67bfab7532d006c2") false ME.holds_ (fun _ h => by cases h) ME.cw_ (fun _ h => by cases h) fnFrameTxnOffsetCommitRequestUpto_row_tie rfl ⟨rfl, rfl⟩ ME.cm_ rfl
  (fun f fn hf hfn=>by
   obtain rfl:f = 4:=Option.some.inj (ME.cn_.symm.trans hf) |>.symm
   obtain rfl:fn = Tryz.f4:=(Option.some.inj (Tryz.func4.symm.trans hfn)).symm
   exact ⟨ME.cl_,fun j t ht=>by
    rw [Tryz.params4] at ht
    have hm:t ∈ [5,23,21,28]:=by simpa using Array.mem_of_getElem? ht
    exact (show (Tryz.pinned.checked.prog).wantsStandIn t = false by simpa using List.all_eq_true.1 ME.ca_ t hm)⟩)
  ME.cg_
end Go.Proofs.YtogokkkdfcgncaaGreatDoor