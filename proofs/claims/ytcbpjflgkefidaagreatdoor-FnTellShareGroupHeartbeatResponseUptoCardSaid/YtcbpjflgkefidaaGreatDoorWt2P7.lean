/- FnTellShareGroupHeartbeatResponse: the statement: of every version and every tree of the bulk that the statement speaks of the law returns true, and leaves its arguments as they are; and the card. Own work. -/
import Derived.Test.YtcbpjflgkefidaaGreatDoorWt2P6
import Derived.Test.YtcbpjflgkefidaaGreatDoorTie
import Derived.Test.YtcbpjflgkefidaaGreatDoorCards
import Derived.LaidMore
import Derived.SevenTiedAt
namespace Go.Proofs.YtcbpjflgkefidaaGreatDoor.ME
open Go
open Go.ChangeShapes Go.WideShapes Go.ChangeAt Go.RowKit
set_option linter.unusedVariables false
set_option linter.unusedSimpArgs false
theorem j0_:(Rows.fnTellShareGroupHeartbeatResponseUptoRow.inPlace == (Tryz.pinned.checked.prog).inPlace 9) = true:=by kernel_rfl
theorem j1_:(Rows.fnTellShareGroupHeartbeatResponseUptoRow.unfollowed == (Tryz.pinned.checked.prog).unfollowed 9) = true:=by kernel_rfl
theorem j2_:(Rows.fnTellShareGroupHeartbeatResponseUptoRow.recurses == (Tryz.pinned.checked.prog).recurses 9) = true:=by kernel_rfl
theorem j3_:(Rows.fnTellShareGroupHeartbeatResponseUptoRow.named == (Tryz.pinned.checked.prog).varsNamed 9) = true:=by kernel_rfl
theorem j4_:laidOutB (Tryz.pinned.checked.prog) = true:=by kernel_rfl
theorem j5_:mapsRowed (Tryz.pinned.checked.prog) = true:=by kernel_rfl
theorem j6_:(Rows.fnTellShareGroupHeartbeatResponseUptoRow.plainKeys == (Tryz.pinned.checked.prog).plainKeys) = true:=by kernel_rfl
theorem j7_:(Tryz.pinned.checked.prog).stopsHeard = true:=by kernel_rfl
theorem j8_:(Rows.fnTellShareGroupHeartbeatResponseUptoRow.lifted == (Tryz.pinned.checked.prog).liftsFinal) = true:=by kernel_rfl
theorem qln:joinedFacts (Tryz.pinned.checked.prog) 9 Tryz.f9 (Rows.OpenSpec.upto Rows.fnTellShareGroupHeartbeatResponseSpec).bare Rows.fnTellShareGroupHeartbeatResponseUptoRow = true:=by
 unfold joinedFacts
 rw [j0_,j1_,j2_,j3_,j4_,j5_,j6_,j7_,j8_]
 kernel_rfl
theorem qmh:Tryz.f9.isInstance (Tryz.pinned.checked.prog) Rows.fnTellShareGroupHeartbeatResponseUptoRow.origin Rows.fnTellShareGroupHeartbeatResponseUptoRow.targs:=of_decide_eq_true kz
theorem qkx:Tryz.f9.isWrapper (Tryz.pinned.checked.prog) Rows.fnTellShareGroupHeartbeatResponseUptoRow.wrapper Rows.fnTellShareGroupHeartbeatResponseUptoRow.mainSum:=by unfold Func.isWrapper; first | (rw [if_pos (by decide +kernel)]; kernel_rfl) | (rw [if_neg (by decide +kernel)]; exact ⟨rfl,rfl⟩)
theorem holds_:Rows.FnTellShareGroupHeartbeatResponseUptoSaid :=
 OpenClaim.holds_of_cond 9 Tryz.f9 rfl rfl rfl rfl rfl rfl rfl ⟨rfl,rfl,rfl,rfl,rfl⟩ rfl rfl rfl rfl rfl kz Tryz.func9 qln qmh qkx
  (fun os started H enc _ F=>qlm os started H enc F)
theorem cw_:Rows.fnTellShareGroupHeartbeatResponseUptoRow.wfByText (Rows.OpenSpec.upto Rows.fnTellShareGroupHeartbeatResponseSpec) = true:=by kernel_rfl
theorem cm_ : (Tryz.pinned.checked.prog).mainIs = some (true, "882275f5efa4b90adffce859da3999ceb511b46010b0bc3d6a98a981866c2e1f".toList) := by kernel_rfl
theorem cn_ : (Tryz.pinned.checked.prog).funcNamed "pub-mailsack/laws.FnTellShareGroupHeartbeatResponse" = some 9 := by kernel_rfl
theorem cl_:false = (Tryz.pinned.checked.prog).looks []:=by kernel_rfl
theorem ca_:([5,26].all fun u=>!(Tryz.pinned.checked.prog).wantsStandIn u) = true:=by kernel_rfl
theorem cg_:false = Rows.fnTellShareGroupHeartbeatResponseUptoRow.goesBy (Tryz.pinned.checked.prog):=by kernel_rfl
end Go.Proofs.YtcbpjflgkefidaaGreatDoor.ME
namespace Go.Proofs.YtcbpjflgkefidaaGreatDoor
open Go
theorem fnTellShareGroupHeartbeatResponse_holds:Rows.FnTellShareGroupHeartbeatResponseUptoCardSaid :=
 Claim7.holds_tied_plain_at .later [] [.sentinel] true (true, "882275f5efa4b90adffce859da3999ceb511b46010b0bc3d6a98a981866c2e1f") false ME.holds_ (fun _ h => by cases h) ME.cw_ (fun _ h => by cases h) fnTellShareGroupHeartbeatResponseUpto_row_tie rfl ⟨rfl, rfl⟩ ME.cm_ rfl
  (fun f fn hf hfn=>by
   obtain rfl:f = 9:=Option.some.inj (ME.cn_.symm.trans hf) |>.symm
   obtain rfl:fn = Tryz.f9:=(Option.some.inj (Tryz.func9.symm.trans hfn)).symm
   exact ⟨ME.cl_,fun j t ht=>by
    rw [Tryz.params9] at ht
    have hm:t ∈ [5,26]:=by simpa using Array.mem_of_getElem? ht
    exact (show (Tryz.pinned.checked.prog).wantsStandIn t = false by simpa using List.all_eq_true.1 ME.ca_ t hm)⟩)
  ME.cg_
end Go.Proofs.YtcbpjflgkefidaaGreatDoor