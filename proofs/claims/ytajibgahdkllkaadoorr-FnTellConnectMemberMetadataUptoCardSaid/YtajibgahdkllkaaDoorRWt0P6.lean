/- FnTellConnectMemberMetadata: the statement: of every version and every tree of the bulk that the statement speaks of the law returns true, and leaves its arguments as they are; and the card. Own work. -/
import Derived.Test.YtajibgahdkllkaaDoorRWt0P5
import Derived.Test.YtajibgahdkllkaaDoorRTie
import Derived.Test.YtajibgahdkllkaaDoorRCards
import Derived.LaidMore
import Derived.SevenTiedAt
namespace Go.Proofs.YtajibgahdkllkaaDoorR.ME
open Go
open Go.ChangeShapes Go.WideShapes Go.ChangeAt Go.RowKit
set_option linter.unusedVariables false
set_option linter.unusedSimpArgs false
theorem j0_:(Rows.fnTellConnectMemberMetadataUptoRow.inPlace == (Tryd.pinned.checked.prog).inPlace 6) = true:=by kernel_rfl
theorem j1_:(Rows.fnTellConnectMemberMetadataUptoRow.unfollowed == (Tryd.pinned.checked.prog).unfollowed 6) = true:=by kernel_rfl
theorem j2_:(Rows.fnTellConnectMemberMetadataUptoRow.recurses == (Tryd.pinned.checked.prog).recurses 6) = true:=by kernel_rfl
theorem j3_:(Rows.fnTellConnectMemberMetadataUptoRow.named == (Tryd.pinned.checked.prog).varsNamed 6) = true:=by kernel_rfl
theorem j4_:laidOutB (Tryd.pinned.checked.prog) = true:=by kernel_rfl
theorem j5_:mapsRowed (Tryd.pinned.checked.prog) = true:=by kernel_rfl
theorem j6_:(Rows.fnTellConnectMemberMetadataUptoRow.plainKeys == (Tryd.pinned.checked.prog).plainKeys) = true:=by kernel_rfl
theorem j7_:(Tryd.pinned.checked.prog).stopsHeard = true:=by kernel_rfl
theorem j8_:(Rows.fnTellConnectMemberMetadataUptoRow.lifted == (Tryd.pinned.checked.prog).liftsFinal) = true:=by kernel_rfl
theorem qjc:joinedFacts (Tryd.pinned.checked.prog) 6 Tryd.f6 (Rows.OpenSpec.upto Rows.fnTellConnectMemberMetadataSpec).bare Rows.fnTellConnectMemberMetadataUptoRow = true:=by
 unfold joinedFacts
 rw [j0_,j1_,j2_,j3_,j4_,j5_,j6_,j7_,j8_]
 kernel_rfl
theorem qj1:Tryd.f6.isInstance (Tryd.pinned.checked.prog) Rows.fnTellConnectMemberMetadataUptoRow.origin Rows.fnTellConnectMemberMetadataUptoRow.targs:=of_decide_eq_true kz
theorem qic:Tryd.f6.isWrapper (Tryd.pinned.checked.prog) Rows.fnTellConnectMemberMetadataUptoRow.wrapper Rows.fnTellConnectMemberMetadataUptoRow.mainSum:=by unfold Func.isWrapper; first | (rw [if_pos (by decide +kernel)]; kernel_rfl) | (rw [if_neg (by decide +kernel)]; exact ⟨rfl,rfl⟩)
theorem holds_:Rows.FnTellConnectMemberMetadataUptoSaid :=
 OpenClaim.holds_of_cond 6 Tryd.f6 rfl rfl rfl rfl rfl rfl rfl ⟨rfl,rfl,rfl,rfl,rfl⟩ rfl rfl rfl rfl rfl kz Tryd.func6 qjc qj1 qic
  (fun os started H enc _ F=>qjb os started H enc F)
theorem cw_:Rows.fnTellConnectMemberMetadataUptoRow.wfByText (Rows.OpenSpec.upto Rows.fnTellConnectMemberMetadataSpec) = true:=by kernel_rfl
theorem cm_ : (Tryd.pinned.checked.prog).mainIs = some (true, "a6a6c734071e0474f412edb84c5650c04c7e9ca1cd5d5e223f5db95d52a613e8".toList) := by kernel_rfl
theorem cn_ : (Tryd.pinned.checked.prog).funcNamed "pub-mailsack/laws.FnTellConnectMemberMetadata" = some 6 := by kernel_rfl
theorem cl_:false = (Tryd.pinned.checked.prog).looks []:=by kernel_rfl
theorem ca_:([5,37].all fun u=>!(Tryd.pinned.checked.prog).wantsStandIn u) = true:=by kernel_rfl
theorem cg_:false = Rows.fnTellConnectMemberMetadataUptoRow.goesBy (Tryd.pinned.checked.prog):=by kernel_rfl
end Go.Proofs.YtajibgahdkllkaaDoorR.ME
namespace Go.Proofs.YtajibgahdkllkaaDoorR
open Go
theorem fnTellConnectMemberMetadata_holds:Rows.FnTellConnectMemberMetadataUptoCardSaid :=
 Claim7.holds_tied_plain_at .later [] [.sentinel] true (true, "a6a6c734071e0474f412edb84c5650c04c7e9ca1cd5d5e223f5db95d52a613e8") false ME.holds_ (fun _ h => by cases h) ME.cw_ (fun _ h => by cases h) fnTellConnectMemberMetadataUpto_row_tie rfl ⟨rfl, rfl⟩ ME.cm_ rfl
  (fun f fn hf hfn=>by
   obtain rfl:f = 6:=Option.some.inj (ME.cn_.symm.trans hf) |>.symm
   obtain rfl:fn = Tryd.f6:=(Option.some.inj (Tryd.func6.symm.trans hfn)).symm
   exact ⟨ME.cl_,fun j t ht=>by
    rw [Tryd.params6] at ht
    have hm:t ∈ [5,37]:=by simpa using Array.mem_of_getElem? ht
    exact (show (Tryd.pinned.checked.prog).wantsStandIn t = false by simpa using List.all_eq_true.1 ME.ca_ t hm)⟩)
  ME.cg_
end Go.Proofs.YtajibgahdkllkaaDoorR