/- FnTellListPartitionReassignmentsResponse: the statement: of every version and every tree of the bulk that the statement speaks of the law returns true, and leaves its arguments as they are; and the card. Own work. -/
import Derived.Test.YtfljkhecngpcmaaGreatDoorWt3P7
import Derived.Test.YtfljkhecngpcmaaGreatDoorTie
import Derived.Test.YtfljkhecngpcmaaGreatDoorCards
import Derived.LaidMore
import Derived.SevenTiedAt
namespace Go.Proofs.YtfljkhecngpcmaaGreatDoor.ME
open Go
open Go.ChangeShapes Go.WideShapes Go.ChangeAt Go.RowKit
set_option linter.unusedVariables false
set_option linter.unusedSimpArgs false
theorem j0_:(Rows.fnTellListPartitionReassignmentsResponseUptoRow.inPlace == (Tryz.pinned.checked.prog).inPlace 4) = true:=by kernel_rfl
theorem j1_:(Rows.fnTellListPartitionReassignmentsResponseUptoRow.unfollowed == (Tryz.pinned.checked.prog).unfollowed 4) = true:=by kernel_rfl
theorem j2_:(Rows.fnTellListPartitionReassignmentsResponseUptoRow.recurses == (Tryz.pinned.checked.prog).recurses 4) = true:=by kernel_rfl
theorem j3_:(Rows.fnTellListPartitionReassignmentsResponseUptoRow.named == (Tryz.pinned.checked.prog).varsNamed 4) = true:=by kernel_rfl
theorem j4_:laidOutB (Tryz.pinned.checked.prog) = true:=by kernel_rfl
theorem j5_:mapsRowed (Tryz.pinned.checked.prog) = true:=by kernel_rfl
theorem j6_:(Rows.fnTellListPartitionReassignmentsResponseUptoRow.plainKeys == (Tryz.pinned.checked.prog).plainKeys) = true:=by kernel_rfl
theorem j7_:(Tryz.pinned.checked.prog).stopsHeard = true:=by kernel_rfl
theorem j8_:(Rows.fnTellListPartitionReassignmentsResponseUptoRow.lifted == (Tryz.pinned.checked.prog).liftsFinal) = true:=by kernel_rfl
theorem qli:joinedFacts (Tryz.pinned.checked.prog) 4 Tryz.f4 (Rows.OpenSpec.upto Rows.fnTellListPartitionReassignmentsResponseSpec).bare Rows.fnTellListPartitionReassignmentsResponseUptoRow = true:=by
 unfold joinedFacts
 rw [j0_,j1_,j2_,j3_,j4_,j5_,j6_,j7_,j8_]
 kernel_rfl
theorem ql1:Tryz.f4.isInstance (Tryz.pinned.checked.prog) Rows.fnTellListPartitionReassignmentsResponseUptoRow.origin Rows.fnTellListPartitionReassignmentsResponseUptoRow.targs:=of_decide_eq_true kz
theorem qko:Tryz.f4.isWrapper (Tryz.pinned.checked.prog) Rows.fnTellListPartitionReassignmentsResponseUptoRow.wrapper Rows.fnTellListPartitionReassignmentsResponseUptoRow.mainSum:=by unfold Func.isWrapper; first | (rw [if_pos (by decide +kernel)]; kernel_rfl) | (rw [if_neg (by decide +kernel)]; exact ⟨rfl,rfl⟩)
theorem holds_:Rows.FnTellListPartitionReassignmentsResponseUptoSaid :=
 OpenClaim.holds_of_cond 4 Tryz.f4 rfl rfl rfl rfl rfl rfl rfl ⟨rfl,rfl,rfl,rfl,rfl⟩ rfl rfl rfl rfl rfl kz Tryz.func4 qli ql1 qko
  (fun os started H enc _ F=>qlh os started H enc F)
theorem cw_:Rows.fnTellListPartitionReassignmentsResponseUptoRow.wfByText (Rows.OpenSpec.upto Rows.fnTellListPartitionReassignmentsResponseSpec) = true:=by kernel_rfl
theorem cm_ : (Tryz.pinned.checked.prog).mainIs = some (true, "c6827fe9979eef5e800ef8fd08477e5916b94b77582cecfa86b29e1797bfd775".toList) := by kernel_rfl
theorem cn_ : (Tryz.pinned.checked.prog).funcNamed "pub-mailsack/laws.FnTellListPartitionReassignmentsResponse" = some 4 := by kernel_rfl
theorem cl_:false = (Tryz.pinned.checked.prog).looks []:=by kernel_rfl
theorem ca_:([5,26].all fun u=>!(Tryz.pinned.checked.prog).wantsStandIn u) = true:=by kernel_rfl
theorem cg_:false = Rows.fnTellListPartitionReassignmentsResponseUptoRow.goesBy (Tryz.pinned.checked.prog):=by kernel_rfl
end Go.Proofs.YtfljkhecngpcmaaGreatDoor.ME
namespace Go.Proofs.YtfljkhecngpcmaaGreatDoor
open Go
theorem fnTellListPartitionReassignmentsResponse_holds:Rows.FnTellListPartitionReassignmentsResponseUptoCardSaid :=
 Claim7.holds_tied_plain_at .later [] [.sentinel] true (true, "c6827fe9979eef5e800ef8fd08477e5916b94b77582cecfa86b29e1797bfd775") false ME.holds_ (fun _ h => by cases h) ME.cw_ (fun _ h => by cases h) fnTellListPartitionReassignmentsResponseUpto_row_tie rfl ⟨rfl, rfl⟩ ME.cm_ rfl
  (fun f fn hf hfn=>by
   obtain rfl:f = 4:=Option.some.inj (ME.cn_.symm.trans hf) |>.symm
   obtain rfl:fn = Tryz.f4:=(Option.some.inj (Tryz.func4.symm.trans hfn)).symm
   exact ⟨ME.cl_,fun j t ht=>by
    rw [Tryz.params4] at ht
    have hm:t ∈ [5,26]:=by simpa using Array.mem_of_getElem? ht
    exact (show (Tryz.pinned.checked.prog).wantsStandIn t = false by simpa using List.all_eq_true.1 ME.ca_ t hm)⟩)
  ME.cg_
end Go.Proofs.YtfljkhecngpcmaaGreatDoor