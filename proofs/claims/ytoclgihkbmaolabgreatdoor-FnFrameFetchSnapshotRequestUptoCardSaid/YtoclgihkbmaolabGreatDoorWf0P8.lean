/- FnFrameFetchSnapshotRequest: the statement: of every version and every tree of the bulk that the statement speaks of the law returns true, and leaves its arguments as they are; and the card. Own work. -/
import Derived.Test.YtoclgihkbmaolabGreatDoorWf0P7
import Derived.Test.YtoclgihkbmaolabGreatDoorTie
import Derived.Test.YtoclgihkbmaolabGreatDoorCards
import Derived.LaidMore
import Derived.SevenTiedAt
import Derived.Carry
namespace Go.Proofs.YtoclgihkbmaolabGreatDoor.ME
open Go
open Go.ChangeShapes Go.WideShapes Go.ChangeAt Go.RowKit
set_option linter.unusedVariables false
set_option linter.unusedSimpArgs false
theorem j0_:(Rows.fnFrameFetchSnapshotRequestUptoRow.inPlace == (Tryz.pinned.checked.prog).inPlace 3) = true:=by kernel_rfl
theorem j1_:(Rows.fnFrameFetchSnapshotRequestUptoRow.unfollowed == (Tryz.pinned.checked.prog).unfollowed 3) = true:=by kernel_rfl
theorem j2_:(Rows.fnFrameFetchSnapshotRequestUptoRow.recurses == (Tryz.pinned.checked.prog).recurses 3) = true:=by kernel_rfl
theorem j3_:(Rows.fnFrameFetchSnapshotRequestUptoRow.named == (Tryz.pinned.checked.prog).varsNamed 3) = true:=by kernel_rfl
theorem j4_:laidOutB (Tryz.pinned.checked.prog) = true:=by kernel_rfl
theorem j5_:mapsRowed (Tryz.pinned.checked.prog) = true:=by kernel_rfl
theorem j6_:(Rows.fnFrameFetchSnapshotRequestUptoRow.plainKeys == (Tryz.pinned.checked.prog).plainKeys) = true:=by kernel_rfl
theorem j7_:(Tryz.pinned.checked.prog).stopsHeard = true:=by kernel_rfl
theorem j8_:(Rows.fnFrameFetchSnapshotRequestUptoRow.lifted == (Tryz.pinned.checked.prog).liftsFinal) = true:=by kernel_rfl
theorem qmz:joinedFacts (Tryz.pinned.checked.prog) 3 Tryz.f3 (Rows.OpenSpec.upto Rows.fnFrameFetchSnapshotRequestSpec).bare Rows.fnFrameFetchSnapshotRequestUptoRow = true:=by
 unfold joinedFacts
 rw [j0_,j1_,j2_,j3_,j4_,j5_,j6_,j7_,j8_]
 kernel_rfl
theorem qnD:Tryz.f3.isInstance (Tryz.pinned.checked.prog) Rows.fnFrameFetchSnapshotRequestUptoRow.origin Rows.fnFrameFetchSnapshotRequestUptoRow.targs:=of_decide_eq_true kz
theorem qlA:Tryz.f3.isWrapper (Tryz.pinned.checked.prog) Rows.fnFrameFetchSnapshotRequestUptoRow.wrapper Rows.fnFrameFetchSnapshotRequestUptoRow.mainSum:=by unfold Func.isWrapper; first | (rw [if_pos (by decide +kernel)]; kernel_rfl) | (rw [if_neg (by decide +kernel)]; exact ⟨rfl,rfl⟩)
theorem holds_:Rows.FnFrameFetchSnapshotRequestUptoSaid :=
 OpenClaim.holds_of_cond 3 Tryz.f3 rfl rfl rfl rfl rfl rfl rfl ⟨rfl,rfl,rfl,rfl,rfl⟩ rfl rfl rfl rfl rfl kz Tryz.func3 qmz qnD qlA
  (fun os started H enc _ F=>qmy os started H enc F)
theorem cw_:Rows.fnFrameFetchSnapshotRequestUptoRow.wfByText (Rows.OpenSpec.upto Rows.fnFrameFetchSnapshotRequestSpec) = true:=by kernel_rfl
theorem cm_ : (Tryz.pinned.checked.prog).mainIs = some (true, "e3d29e7be786b93c0cd669e8a10fbf1064c86694eca65cf2c49b6eefe3d20abe".toList) := by kernel_rfl
theorem cn_ : (Tryz.pinned.checked.prog).funcNamed "pub-mailsack/laws.FnFrameFetchSnapshotRequest" = some 3 := by kernel_rfl
theorem cl_:false = (Tryz.pinned.checked.prog).looks []:=by kernel_rfl
theorem ca_:([5,23,21,28].all fun u=>!(Tryz.pinned.checked.prog).wantsStandIn u) = true:=by kernel_rfl
theorem cg_:false = Rows.fnFrameFetchSnapshotRequestUptoRow.goesBy (Tryz.pinned.checked.prog):=by kernel_rfl
end Go.Proofs.YtoclgihkbmaolabGreatDoor.ME
namespace Go.Proofs.YtoclgihkbmaolabGreatDoor
open Go
theorem fnFrameFetchSnapshotRequest_holds:Rows.FnFrameFetchSnapshotRequestUptoCardSaid :=
 Claim7.holds_tied_plain_at .later [] [.sentinel] true (true, "e3d29e7be786b93c0cd669e8a10fbf1064c86694eca65cf2c49b6eefe3d20abe") false ME.holds_ (fun _ h => by cases h) ME.cw_ (fun _ h => by cases h) fnFrameFetchSnapshotRequestUpto_row_tie rfl ⟨rfl, rfl⟩ ME.cm_ rfl
  (fun f fn hf hfn=>by
   obtain rfl:f = 3:=Option.some.inj (ME.cn_.symm.trans hf) |>.symm
   obtain rfl:fn = Tryz.f3:=(Option.some.inj (Tryz.func3.symm.trans hfn)).symm
   exact ⟨ME.cl_,fun j t ht=>by
    rw [Tryz.params3] at ht
    have hm:t ∈ [5,23,21,28]:=by simpa using Array.mem_of_getElem? ht
    exact (show (Tryz.pinned.checked.prog).wantsStandIn t = false by simpa using List.all_eq_true.1 ME.ca_ t hm)⟩)
  ME.cg_
end Go.Proofs.YtoclgihkbmaolabGreatDoor