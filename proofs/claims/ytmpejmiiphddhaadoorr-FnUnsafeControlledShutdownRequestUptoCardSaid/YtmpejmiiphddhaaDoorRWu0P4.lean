/- FnUnsafeControlledShutdownRequest: the statement: of every version and every slice of octets of the bulk that the statement speaks of the law returns true, and leaves its arguments as they are; and the card. Own work. -/
import Derived.Test.YtmpejmiiphddhaaDoorRWu0P3
import Derived.Test.YtmpejmiiphddhaaDoorRTie
import Derived.Test.YtmpejmiiphddhaaDoorRCards
import Derived.LaidMore
import Derived.SevenTiedAt
namespace Go.Proofs.YtmpejmiiphddhaaDoorR.ME
open Go
open Go.ChangeShapes Go.WideShapes Go.ChangeAt Go.RowKit
set_option linter.unusedVariables false
set_option linter.unusedSimpArgs false
theorem j0_:(Rows.fnUnsafeControlledShutdownRequestUptoRow.inPlace == (Tryd.pinned.checked.prog).inPlace 4) = true:=by kernel_rfl
theorem j1_:(Rows.fnUnsafeControlledShutdownRequestUptoRow.unfollowed == (Tryd.pinned.checked.prog).unfollowed 4) = true:=by kernel_rfl
theorem j2_:(Rows.fnUnsafeControlledShutdownRequestUptoRow.recurses == (Tryd.pinned.checked.prog).recurses 4) = true:=by kernel_rfl
theorem j3_:(Rows.fnUnsafeControlledShutdownRequestUptoRow.named == (Tryd.pinned.checked.prog).varsNamed 4) = true:=by kernel_rfl
theorem j4_:laidOutB (Tryd.pinned.checked.prog) = true:=by kernel_rfl
theorem j5_:mapsRowed (Tryd.pinned.checked.prog) = true:=by kernel_rfl
theorem j6_:(Rows.fnUnsafeControlledShutdownRequestUptoRow.plainKeys == (Tryd.pinned.checked.prog).plainKeys) = true:=by kernel_rfl
theorem j7_:(Tryd.pinned.checked.prog).stopsHeard = true:=by kernel_rfl
theorem j8_:(Rows.fnUnsafeControlledShutdownRequestUptoRow.lifted == (Tryd.pinned.checked.prog).liftsFinal) = true:=by kernel_rfl
theorem qfx:joinedFacts (Tryd.pinned.checked.prog) 4 Tryd.f4 (Rows.OpenSpec.upto Rows.fnUnsafeControlledShutdownRequestSpec).bare Rows.fnUnsafeControlledShutdownRequestUptoRow = true:=by
 unfold joinedFacts
 rw [j0_,j1_,j2_,j3_,j4_,j5_,j6_,j7_,j8_]
 kernel_rfl
theorem qf0:Tryd.f4.isInstance (Tryd.pinned.checked.prog) Rows.fnUnsafeControlledShutdownRequestUptoRow.origin Rows.fnUnsafeControlledShutdownRequestUptoRow.targs:=of_decide_eq_true kz
theorem qe4:Tryd.f4.isWrapper (Tryd.pinned.checked.prog) Rows.fnUnsafeControlledShutdownRequestUptoRow.wrapper Rows.fnUnsafeControlledShutdownRequestUptoRow.mainSum:=by unfold Func.isWrapper; first | (rw [if_pos (by decide +kernel)]; kernel_rfl) | (rw [if_neg (by decide +kernel)]; exact ⟨rfl,rfl⟩)
theorem holds_:Rows.FnUnsafeControlledShutdownRequestUptoSaid :=
 OpenClaim.holds_of_cond 4 Tryd.f4 rfl rfl rfl rfl rfl rfl rfl ⟨rfl,rfl,rfl,rfl,rfl⟩ rfl rfl rfl rfl rfl kz Tryd.func4 qfx qf0 qe4
  (fun os started H enc _ F=>qfw os started H enc F)
theorem cw_:Rows.fnUnsafeControlledShutdownRequestUptoRow.wfByText (Rows.OpenSpec.upto Rows.fnUnsafeControlledShutdownRequestSpec) = true:=by kernel_rfl
theorem cm_ : (Tryd.pinned.checked.prog).mainIs = some (true, "b96bce18bd979627c5c5b6c498e0feee20aff44f7db5fe66ce6184182b79b08b".toList) := by kernel_rfl
theorem cn_ : (Tryd.pinned.checked.prog).funcNamed "pub-mailsack/laws.FnUnsafeControlledShutdownRequest" = some 4 := by kernel_rfl
theorem cl_:false = (Tryd.pinned.checked.prog).looks []:=by kernel_rfl
theorem ca_:([5,22].all fun u=>!(Tryd.pinned.checked.prog).wantsStandIn u) = true:=by kernel_rfl
theorem cg_:false = Rows.fnUnsafeControlledShutdownRequestUptoRow.goesBy (Tryd.pinned.checked.prog):=by kernel_rfl
end Go.Proofs.YtmpejmiiphddhaaDoorR.ME
namespace Go.Proofs.YtmpejmiiphddhaaDoorR
open Go
theorem fnUnsafeControlledShutdownRequest_holds:Rows.FnUnsafeControlledShutdownRequestUptoCardSaid :=
 Claim7.holds_tied_plain_at .later [] [.sentinel] true (true, "b96bce18bd979627c5c5b6c498e0feee20aff44f7db5fe66ce6184182b79b08b") false ME.holds_ (fun _ h => by cases h) ME.cw_ (fun _ h => by cases h) fnUnsafeControlledShutdownRequestUpto_row_tie rfl ⟨rfl, rfl⟩ ME.cm_ rfl
  (fun f fn hf hfn=>by
   obtain rfl:f = 4:=Option.some.inj (ME.cn_.symm.trans hf) |>.symm
   obtain rfl:fn = Tryd.f4:=(Option.some.inj (Tryd.func4.symm.trans hfn)).symm
   exact ⟨ME.cl_,fun j t ht=>by
    rw [Tryd.params4] at ht
    have hm:t ∈ [5,22]:=by simpa using Array.mem_of_getElem? ht
    exact (show (Tryd.pinned.checked.prog).wantsStandIn t = false by simpa using List.all_eq_true.1 ME.ca_ t hm)⟩)
  ME.cg_
end Go.Proofs.YtmpejmiiphddhaaDoorR