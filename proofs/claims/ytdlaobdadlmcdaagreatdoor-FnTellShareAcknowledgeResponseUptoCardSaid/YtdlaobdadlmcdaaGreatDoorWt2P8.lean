/- FnTellShareAcknowledgeResponse: the statement: of every version and every tree of the bulk that the statement speaks of the law returns true, and leaves its arguments as they are; and the card. Own work. -/
import Derived.Test.YtdlaobdadlmcdaaGreatDoorWt2P7
import Derived.Test.YtdlaobdadlmcdaaGreatDoorTie
import Derived.Test.YtdlaobdadlmcdaaGreatDoorCards
import Derived.LaidMore
import Derived.SevenTiedAt
namespace Go.Proofs.YtdlaobdadlmcdaaGreatDoor.ME
open Go
open Go.ChangeShapes Go.WideShapes Go.ChangeAt Go.RowKit
set_option linter.unusedVariables false
set_option linter.unusedSimpArgs false
theorem j0_:(Rows.fnTellShareAcknowledgeResponseUptoRow.inPlace == (Tryz.pinned.checked.prog).inPlace 4) = true:=by kernel_rfl
theorem j1_:(Rows.fnTellShareAcknowledgeResponseUptoRow.unfollowed == (Tryz.pinned.checked.prog).unfollowed 4) = true:=by kernel_rfl
theorem j2_:(Rows.fnTellShareAcknowledgeResponseUptoRow.recurses == (Tryz.pinned.checked.prog).recurses 4) = true:=by kernel_rfl
theorem j3_:(Rows.fnTellShareAcknowledgeResponseUptoRow.named == (Tryz.pinned.checked.prog).varsNamed 4) = true:=by kernel_rfl
theorem j4_:laidOutB (Tryz.pinned.checked.prog) = true:=by kernel_rfl
theorem j5_:mapsRowed (Tryz.pinned.checked.prog) = true:=by kernel_rfl
theorem j6_:(Rows.fnTellShareAcknowledgeResponseUptoRow.plainKeys == (Tryz.pinned.checked.prog).plainKeys) = true:=by kernel_rfl
theorem j7_:(Tryz.pinned.checked.prog).stopsHeard = true:=by kernel_rfl
theorem j8_:(Rows.fnTellShareAcknowledgeResponseUptoRow.lifted == (Tryz.pinned.checked.prog).liftsFinal) = true:=by kernel_rfl
theorem qlP:joinedFacts (Tryz.pinned.checked.prog) 4 Tryz.f4 (Rows.OpenSpec.upto Rows.fnTellShareAcknowledgeResponseSpec).bare Rows.fnTellShareAcknowledgeResponseUptoRow = true:=by
 unfold joinedFacts
 rw [j0_,j1_,j2_,j3_,j4_,j5_,j6_,j7_,j8_]
 kernel_rfl
theorem qmx:Tryz.f4.isInstance (Tryz.pinned.checked.prog) Rows.fnTellShareAcknowledgeResponseUptoRow.origin Rows.fnTellShareAcknowledgeResponseUptoRow.targs:=of_decide_eq_true kz
theorem qkT:Tryz.f4.isWrapper (Tryz.pinned.checked.prog) Rows.fnTellShareAcknowledgeResponseUptoRow.wrapper Rows.fnTellShareAcknowledgeResponseUptoRow.mainSum:=by unfold Func.isWrapper; first | (rw [if_pos (by decide +kernel)]; kernel_rfl) | (rw [if_neg (by decide +kernel)]; exact ⟨rfl,rfl⟩)
theorem holds_:Rows.FnTellShareAcknowledgeResponseUptoSaid :=
 OpenClaim.holds_of_cond 4 Tryz.f4 rfl rfl rfl rfl rfl rfl rfl ⟨rfl,rfl,rfl,rfl,rfl⟩ rfl rfl rfl rfl rfl kz Tryz.func4 qlP qmx qkT
  (fun os started H enc _ F=>qlO os started H enc F)
theorem cw_:Rows.fnTellShareAcknowledgeResponseUptoRow.wfByText (Rows.OpenSpec.upto Rows.fnTellShareAcknowledgeResponseSpec) = true:=by kernel_rfl
theorem cm_ : (Tryz.pinned.checked.prog).mainIs = some (true, "4ef9e737393375219c5ab43b967091ac8c52bb71e6332716e2204727fec52905".toList) := by kernel_rfl
theorem cn_ : (Tryz.pinned.checked.prog).funcNamed "pub-mailsack/laws.FnTellShareAcknowledgeResponse" = some 4 := by kernel_rfl
theorem cl_:false = (Tryz.pinned.checked.prog).looks []:=by kernel_rfl
theorem ca_:([5,26].all fun u=>!(Tryz.pinned.checked.prog).wantsStandIn u) = true:=by kernel_rfl
theorem cg_:false = Rows.fnTellShareAcknowledgeResponseUptoRow.goesBy (Tryz.pinned.checked.prog):=by kernel_rfl
end Go.Proofs.YtdlaobdadlmcdaaGreatDoor.ME
namespace Go.Proofs.YtdlaobdadlmcdaaGreatDoor
open Go
theorem fnTellShareAcknowledgeResponse_holds:Rows.FnTellShareAcknowledgeResponseUptoCardSaid :=
 Claim7.holds_tied_plain_at .later [] [.sentinel] true (true, "4ef9e737393375219c5ab43b967091ac8c52bb71e6332716e2204727fec52905") false ME.holds_ (fun _ h => by cases h) ME.cw_ (fun _ h => by cases h) fnTellShareAcknowledgeResponseUpto_row_tie rfl ⟨rfl, rfl⟩ ME.cm_ rfl
  (fun f fn hf hfn=>by
   obtain rfl:f = 4:=Option.some.inj (ME.cn_.symm.trans hf) |>.symm
   obtain rfl:fn = Tryz.f4:=(Option.some.inj (Tryz.func4.symm.trans hfn)).symm
   exact ⟨ME.cl_,fun j t ht=>by
    rw [Tryz.params4] at ht
    have hm:t ∈ [5,26]:=by simpa using Array.mem_of_getElem? ht
    exact (show (Tryz.pinned.checked.prog).wantsStandIn t = false by simpa using List.all_eq_true.1 ME.ca_ t hm)⟩)
  ME.cg_
end Go.Proofs.YtdlaobdadlmcdaaGreatDoor