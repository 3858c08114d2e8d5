/- FnUnsafeCreateDelegationTokenRequest: the statement: of every version and every slice of octets of the bulk that the statement speaks of the law returns true, and leaves its arguments as they are; and the card. Own work. -/
import Derived.Test.YtmpejmiiphddhaaDoorRWu1P5
import Derived.Test.YtmpejmiiphddhaaDoorRTie
import Derived.Test.YtmpejmiiphddhaaDoorRCards
import Derived.LaidMore
import Derived.SevenTiedAt
namespace Go.Proofs.YtmpejmiiphddhaaDoorR.ME
open Go
open Go.ChangeShapes Go.WideShapes Go.ChangeAt Go.RowKit
set_option linter.unusedVariables false
set_option linter.unusedSimpArgs false
theorem j0_:(Rows.fnUnsafeCreateDelegationTokenRequestUptoRow.inPlace == (Tryd.pinned.checked.prog).inPlace 3) = true:=by kernel_rfl
theorem j1_:(Rows.fnUnsafeCreateDelegationTokenRequestUptoRow.unfollowed == (Tryd.pinned.checked.prog).unfollowed 3) = true:=by kernel_rfl
theorem j2_:(Rows.fnUnsafeCreateDelegationTokenRequestUptoRow.recurses == (Tryd.pinned.checked.prog).recurses 3) = true:=by kernel_rfl
theorem j3_:(Rows.fnUnsafeCreateDelegationTokenRequestUptoRow.named == (Tryd.pinned.checked.prog).varsNamed 3) = true:=by kernel_rfl
theorem j4_:laidOutB (Tryd.pinned.checked.prog) = true:=by kernel_rfl
theorem j5_:mapsRowed (Tryd.pinned.checked.prog) = true:=by kernel_rfl
theorem j6_:(Rows.fnUnsafeCreateDelegationTokenRequestUptoRow.plainKeys == (Tryd.pinned.checked.prog).plainKeys) = true:=by kernel_rfl
theorem j7_:(Tryd.pinned.checked.prog).stopsHeard = true:=by kernel_rfl
theorem j8_:(Rows.fnUnsafeCreateDelegationTokenRequestUptoRow.lifted == (Tryd.pinned.checked.prog).liftsFinal) = true:=by kernel_rfl
theorem qhZ:joinedFacts (Tryd.pinned.checked.prog) 3 Tryd.f3 (Rows.OpenSpec.upto Rows.fnUnsafeCreateDelegationTokenRequestSpec).bare Rows.fnUnsafeCreateDelegationTokenRequestUptoRow = true:=by
 unfold joinedFacts
 rw [j0_,j1_,j2_,j3_,j4_,j5_,j6_,j7_,j8_]
 kernel_rfl
theorem qiB:Tryd.f3.isInstance (Tryd.pinned.checked.prog) Rows.fnUnsafeCreateDelegationTokenRequestUptoRow.origin Rows.fnUnsafeCreateDelegationTokenRequestUptoRow.targs:=of_decide_eq_true kz
theorem qhq:Tryd.f3.isWrapper (Tryd.pinned.checked.prog) Rows.fnUnsafeCreateDelegationTokenRequestUptoRow.wrapper Rows.fnUnsafeCreateDelegationTokenRequestUptoRow.mainSum:=by unfold Func.isWrapper; first | (rw [if_pos (by decide +kernel)]; kernel_rfl) | (rw [if_neg (by decide +kernel)]; exact ⟨rfl,rfl⟩)
theorem holds_:Rows.FnUnsafeCreateDelegationTokenRequestUptoSaid :=
 OpenClaim.holds_of_cond 3 Tryd.f3 rfl rfl rfl rfl rfl rfl rfl ⟨rfl,rfl,rfl,rfl,rfl⟩ rfl rfl rfl rfl rfl kz Tryd.func3 qhZ qiB qhq
  (fun os started H enc _ F=>qhY os started H enc F)
theorem cw_:Rows.fnUnsafeCreateDelegationTokenRequestUptoRow.wfByText (Rows.OpenSpec.upto Rows.fnUnsafeCreateDelegationTokenRequestSpec) = true:=by kernel_rfl
theorem cm_ : (Tryd.pinned.checked.prog).mainIs = some (true, "b96bce18bd979627c5c5b6c498e0feee20aff44f7db5fe66ce6184182b79b08b".toList) := by kernel_rfl
theorem cn_ : (Tryd.pinned.checked.prog).funcNamed "pub-mailsack/laws.FnUnsafeCreateDelegationTokenRequest" = some 3 := by kernel_rfl
theorem cl_:false = (Tryd.pinned.checked.prog).looks []:=by kernel_rfl
theorem ca_:([5,22].all fun u=>!(Tryd.pinned.checked.prog).wantsStandIn u) = true:=by kernel_rfl
theorem cg_:false = Rows.fnUnsafeCreateDelegationTokenRequestUptoRow.goesBy (Tryd.pinned.checked.prog):=by kernel_rfl
end Go.Proofs.YtmpejmiiphddhaaDoorR.ME
namespace Go.Proofs.YtmpejmiiphddhaaDoorR
open Go
theorem fnUnsafeCreateDelegationTokenRequest_holds:Rows.FnUnsafeCreateDelegationTokenRequestUptoCardSaid :=
 Claim7.holds_tied_plain_at .later [] [.sentinel] true (true, "b96bce18bd979627c5c5b6c498e0feee20aff44f7db5fe66ce6184182b79b08b") false ME.holds_ (fun _ h => by cases h) ME.cw_ (fun _ h => by cases h) fnUnsafeCreateDelegationTokenRequestUpto_row_tie rfl ⟨rfl, rfl⟩ ME.cm_ rfl
  (fun f fn hf hfn=>by
   obtain rfl:f = 3:=Option.some.inj (ME.cn_.symm.trans hf) |>.symm
   obtain rfl:fn = Tryd.f3:=(Option.some.inj (Tryd.func3.symm.trans hfn)).symm
   exact ⟨ME.cl_,fun j t ht=>by
    rw [Tryd.params3] at ht
    have hm:t ∈ [5,22]:=by simpa using Array.mem_of_getElem? ht
    exact (show (Tryd.pinned.checked.prog).wantsStandIn t = false by simpa using List.all_eq_true.1 ME.ca_ t hm)⟩)
  ME.cg_
end Go.Proofs.YtmpejmiiphddhaaDoorR