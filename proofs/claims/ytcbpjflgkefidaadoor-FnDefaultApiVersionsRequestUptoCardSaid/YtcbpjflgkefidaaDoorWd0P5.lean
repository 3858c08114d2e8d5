/- FnDefaultApiVersionsRequest: the statement: of every version and every tree of the bulk that the statement speaks of the law returns true, and leaves its arguments as they are; and the card. Own work. -/
import Derived.Test.YtcbpjflgkefidaaDoorWd0P4
import Derived.Test.YtcbpjflgkefidaaDoorTie
import Derived.Test.YtcbpjflgkefidaaDoorCards
import Derived.LaidMore
import Derived.SevenTiedAt
namespace Go.Proofs.YtcbpjflgkefidaaDoor.ME
open Go
open Go.ChangeShapes Go.WideShapes Go.ChangeAt Go.RowKit
set_option linter.unusedVariables false
set_option linter.unusedSimpArgs false
theorem j0_:(Rows.fnDefaultApiVersionsRequestUptoRow.inPlace == (Tryd.pinned.checked.prog).inPlace 3) = true:=by kernel_rfl
theorem j1_:(Rows.fnDefaultApiVersionsRequestUptoRow.unfollowed == (Tryd.pinned.checked.prog).unfollowed 3) = true:=by kernel_rfl
theorem j2_:(Rows.fnDefaultApiVersionsRequestUptoRow.recurses == (Tryd.pinned.checked.prog).recurses 3) = true:=by kernel_rfl
theorem j3_:(Rows.fnDefaultApiVersionsRequestUptoRow.named == (Tryd.pinned.checked.prog).varsNamed 3) = true:=by kernel_rfl
theorem j4_:laidOutB (Tryd.pinned.checked.prog) = true:=by kernel_rfl
theorem j5_:mapsRowed (Tryd.pinned.checked.prog) = true:=by kernel_rfl
theorem j6_:(Rows.fnDefaultApiVersionsRequestUptoRow.plainKeys == (Tryd.pinned.checked.prog).plainKeys) = true:=by kernel_rfl
theorem j7_:(Tryd.pinned.checked.prog).stopsHeard = true:=by kernel_rfl
theorem j8_:(Rows.fnDefaultApiVersionsRequestUptoRow.lifted == (Tryd.pinned.checked.prog).liftsFinal) = true:=by kernel_rfl
theorem qjf:joinedFacts (Tryd.pinned.checked.prog) 3 Tryd.f3 (Rows.OpenSpec.upto Rows.fnDefaultApiVersionsRequestSpec).bare Rows.fnDefaultApiVersionsRequestUptoRow = true:=by
 unfold joinedFacts
 rw [j0_,j1_,j2_,j3_,j4_,j5_,j6_,j7_,j8_]
 kernel_rfl
theorem qj4:Tryd.f3.isInstance (Tryd.pinned.checked.prog) Rows.fnDefaultApiVersionsRequestUptoRow.origin Rows.fnDefaultApiVersionsRequestUptoRow.targs:=of_decide_eq_true kz
theorem qiu:Tryd.f3.isWrapper (Tryd.pinned.checked.prog) Rows.fnDefaultApiVersionsRequestUptoRow.wrapper Rows.fnDefaultApiVersionsRequestUptoRow.mainSum:=by unfold Func.isWrapper; first | (rw [if_pos (by decide +kernel)]; kernel_rfl) | (rw [if_neg (by decide +kernel)]; exact ⟨rfl,rfl⟩)
theorem holds_:Rows.FnDefaultApiVersionsRequestUptoSaid :=
 OpenClaim.holds_of_cond 3 Tryd.f3 rfl rfl rfl rfl rfl rfl rfl ⟨rfl,rfl,rfl,rfl,rfl⟩ rfl rfl rfl rfl rfl kz Tryd.func3 qjf qj4 qiu
  (fun os started H enc _ F=>qje os started H enc F)
theorem cw_:Rows.fnDefaultApiVersionsRequestUptoRow.wfByText (Rows.OpenSpec.upto Rows.fnDefaultApiVersionsRequestSpec) = true:=by kernel_rfl
theorem cm_ : (Tryd.pinned.checked.prog).mainIs = some (true, "cc240b9059b10685ae95aac9a004ebe708f06dd26fdc9f298f12fbf81c922adc".toList) := by kernel_rfl
theorem cn_ : (Tryd.pinned.checked.prog).funcNamed "pub-mailsack/laws.FnDefaultApiVersionsRequest" = some 3 := by kernel_rfl
theorem cl_:false = (Tryd.pinned.checked.prog).looks []:=by kernel_rfl
theorem ca_:([5,26].all fun u=>!(Tryd.pinned.checked.prog).wantsStandIn u) = true:=by kernel_rfl
theorem cg_:false = Rows.fnDefaultApiVersionsRequestUptoRow.goesBy (Tryd.pinned.checked.prog):=by kernel_rfl
end Go.Proofs.YtcbpjflgkefidaaDoor.ME
namespace Go.Proofs.YtcbpjflgkefidaaDoor
open Go
theorem fnDefaultApiVersionsRequest_holds:Rows.FnDefaultApiVersionsRequestUptoCardSaid :=
 Claim7.holds_tied_plain_at .later [] [.sentinel] true (true, "cc240b9059b10685ae95aac9a004ebe708f06dd26fdc9f298f12fbf81c922adc") false ME.holds_ (fun _ h => by cases h) ME.cw_ (fun _ h => by cases h) fnDefaultApiVersionsRequestUpto_row_tie rfl ⟨rfl, rfl⟩ ME.cm_ rfl
  (fun f fn hf hfn=>by
   obtain rfl:f = 3:=Option.some.inj (ME.cn_.symm.trans hf) |>.symm
   obtain rfl:fn = Tryd.f3:=(Option.some.inj (Tryd.func3.symm.trans hfn)).symm
   exact ⟨ME.cl_,fun j t ht=>by
    rw [Tryd.params3] at ht
    have hm:t ∈ [5,26]:=by simpa using Array.mem_of_getElem? ht
    exact (show (Tryd.pinned.checked.prog).wantsStandIn t = false by simpa using List.all_eq_true.1 ME.ca_ t hm)⟩)
  ME.cg_
end Go.Proofs.YtcbpjflgkefidaaDoor