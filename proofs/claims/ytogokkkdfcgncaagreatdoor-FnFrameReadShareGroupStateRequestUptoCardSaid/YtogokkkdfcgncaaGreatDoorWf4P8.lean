/- FnFrameReadShareGroupStateRequest: the statement: of every version and every tree of the bulk that the statement speaks of the law returns true, and leaves its arguments as they are; and the card. Own work. -/
import Derived.Test.YtogokkkdfcgncaaGreatDoorWf4P7
import Derived.Test.YtogokkkdfcgncaaGreatDoorTie
import Derived.Test.YtogokkkdfcgncaaGreatDoorCards
import Derived.LaidMore
import Derived.SevenTiedAt
import Derived.Carry
namespace Go.Proofs.YtogokkkdfcgncaaGreatDoor.ME
open Go
open Go.ChangeShapes Go.WideShapes Go.ChangeAt Go.RowKit
set_option linter.unusedVariables false
set_option linter.unusedSimpArgs false
theorem j0_:(Rows.fnFrameReadShareGroupStateRequestUptoRow.inPlace == (Tryz.pinned.checked.prog).inPlace 7) = true:=by kernel_rfl
theorem j1_:(Rows.fnFrameReadShareGroupStateRequestUptoRow.unfollowed == (Tryz.pinned.checked.prog).unfollowed 7) = true:=by kernel_rfl
theorem j2_:(Rows.fnFrameReadShareGroupStateRequestUptoRow.recurses == (Tryz.pinned.checked.prog).recurses 7) = true:=by kernel_rfl
theorem j3_:(Rows.fnFrameReadShareGroupStateRequestUptoRow.named == (Tryz.pinned.checked.prog).varsNamed 7) = true:=by kernel_rfl
theorem j4_:laidOutB (Tryz.pinned.checked.prog) = true:=by kernel_rfl
theorem j5_:mapsRowed (Tryz.pinned.checked.prog) = true:=by kernel_rfl
theorem j6_:(Rows.fnFrameReadShareGroupStateRequestUptoRow.plainKeys == (Tryz.pinned.checked.prog).plainKeys) = true:=by kernel_rfl
theorem j7_:(Tryz.pinned.checked.prog).stopsHeard = true:=by kernel_rfl
theorem j8_:(Rows.fnFrameReadShareGroupStateRequestUptoRow.lifted == (Tryz.pinned.checked.prog).liftsFinal) = true:=by kernel_rfl
theorem qlm:joinedFacts (Tryz.pinned.checked.prog) 7 Tryz.f7 (Rows.OpenSpec.upto Rows.fnFrameReadShareGroupStateRequestSpec).bare Rows.fnFrameReadShareGroupStateRequestUptoRow = true:=by
 unfold joinedFacts
 rw [j0_,j1_,j2_,j3_,j4_,j5_,j6_,j7_,j8_]
 kernel_rfl
theorem qmd:Tryz.f7.isInstance (Tryz.pinned.checked.prog) Rows.fnFrameReadShareGroupStateRequestUptoRow.origin Rows.fnFrameReadShareGroupStateRequestUptoRow.targs:=of_decide_eq_true kz
theorem qkt:Tryz.f7.isWrapper (Tryz.pinned.checked.prog) Rows.fnFrameReadShareGroupStateRequestUptoRow.wrapper Rows.fnFrameReadShareGroupStateRequestUptoRow.mainSum:=by unfold Func.isWrapper; first | (rw [if_pos (by decide +kernel)]; kernel_rfl) | (rw [if_neg (by decide +kernel)]; exact ⟨rfl,rfl⟩)
theorem holds_:Rows.FnFrameReadShareGroupStateRequestUptoSaid :=
 OpenClaim.holds_of_cond 7 Tryz.f7 rfl rfl rfl rfl rfl rfl rfl ⟨rfl,rfl,rfl,rfl,rfl⟩ rfl rfl rfl rfl rfl kz Tryz.func7 qlm qmd qkt
  (fun os started H enc _ F=>qll os started H enc F)
theorem cw_:Rows.fnFrameReadShareGroupStateRequestUptoRow.wfByText (Rows.OpenSpec.upto Rows.fnFrameReadShareGroupStateRequestSpec) = true:=by kernel_rfl
theorem cm_ : (Tryz.pinned.checked.prog).mainIs = some (true, "4665a474083eee65519b98164d97f605d3d93e4f6e3bc25d67bfab7532d006c2".toList) := by kernel_rfl
theorem cn_ : (Tryz.pinned.checked.prog).funcNamed "pub-mailsack/laws.FnFrameReadShareGroupStateRequest" = some 7 := by kernel_rfl
theorem cl_:false = (Tryz.pinned.checked.prog).looks []:=by kernel_rfl
theorem ca_:([5,23,21,28].all fun u=>!(Tryz.pinned.checked.prog).wantsStandIn u) = true:=by kernel_rfl
theorem cg_:false = Rows.fnFrameReadShareGroupStateRequestUptoRow.goesBy (Tryz.pinned.checked.prog):=by kernel_rfl
end Go.Proofs.YtogokkkdfcgncaaGreatDoor.ME
namespace Go.Proofs.YtogokkkdfcgncaaGreatDoor
open Go
theorem fnFrameReadShareGroupStateRequest_holds:Rows.FnFrameReadShareGroupStateRequestUptoCardSaid :=
 Claim7.holds_tied_plain_at .later [] [.sentinel] true (true, "4665a474083eee65519b98164d97f605d3d93e4f6e3bc25d67bfab7532d006c2") false ME.holds_ (fun _ h => by cases h) ME.cw_ (fun _ h => by cases h) fnFrameReadShareGroupStateRequestUpto_row_tie rfl ⟨rfl, rfl⟩ ME.cm_ rfl
  (fun f fn hf hfn=>by
   obtain rfl:f = 7:=Option.some.inj (ME.cn_.symm.trans hf) |>.symm
   obtain rfl:fn = Tryz.f7:=(Option.some.inj (Tryz.func7.symm.trans hfn)).symm
   exact ⟨ME.cl_,fun j t ht=>by
    rw [Tryz.params7] at ht
    have hm:t ∈ [5,23,21,28]:=by simpa using Array.mem_of_getElem? ht
    exact (show (Tryz.pinned.checked.prog).wantsStandIn t = false by simpa using List.all_eq_true.1 ME.ca_ t hm)⟩)
  ME.cg_
end Go.Proofs.YtogokkkdfcgncaaGreatDoor