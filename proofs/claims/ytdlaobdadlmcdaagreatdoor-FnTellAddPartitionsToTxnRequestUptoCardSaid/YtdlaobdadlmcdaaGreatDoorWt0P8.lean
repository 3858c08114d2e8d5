/- FnTellAddPartitionsToTxnRequest: the statement: of every version and every tree of the bulk that the statement speaks of the law returns true, and leaves its arguments as they are; and the card. Own work. -/
import Derived.Test.YtdlaobdadlmcdaaGreatDoorWt0P7
import Derived.Test.YtdlaobdadlmcdaaGreatDoorTie
import Derived.Test.YtdlaobdadlmcdaaGreatDoorCards
import Derived.LaidMore
import Derived.SevenTiedAt
namespace Go.Proofs.YtdlaobdadlmcdaaGreatDoor.ME
open Go
open Go.ChangeShapes Go.WideShapes Go.ChangeAt Go.RowKit
set_option linter.unusedVariables false
set_option linter.unusedSimpArgs false
theorem j0_:(Rows.fnTellAddPartitionsToTxnRequestUptoRow.inPlace == (Tryz.pinned.checked.prog).inPlace 3) = true:=by kernel_rfl
theorem j1_:(Rows.fnTellAddPartitionsToTxnRequestUptoRow.unfollowed == (Tryz.pinned.checked.prog).unfollowed 3) = true:=by kernel_rfl
theorem j2_:(Rows.fnTellAddPartitionsToTxnRequestUptoRow.recurses == (Tryz.pinned.checked.prog).recurses 3) = true:=by kernel_rfl
theorem j3_:(Rows.fnTellAddPartitionsToTxnRequestUptoRow.named == (Tryz.pinned.checked.prog).varsNamed 3) = true:=by kernel_rfl
theorem j4_:laidOutB (Tryz.pinned.checked.prog) = true:=by kernel_rfl
theorem j5_:mapsRowed (Tryz.pinned.checked.prog) = true:=by kernel_rfl
theorem j6_:(Rows.fnTellAddPartitionsToTxnRequestUptoRow.plainKeys == (Tryz.pinned.checked.prog).plainKeys) = true:=by kernel_rfl
theorem j7_:(Tryz.pinned.checked.prog).stopsHeard = true:=by kernel_rfl
theorem j8_:(Rows.fnTellAddPartitionsToTxnRequestUptoRow.lifted == (Tryz.pinned.checked.prog).liftsFinal) = true:=by kernel_rfl
theorem qlo:joinedFacts (Tryz.pinned.checked.prog) 3 Tryz.f3 (Rows.OpenSpec.upto Rows.fnTellAddPartitionsToTxnRequestSpec).bare Rows.fnTellAddPartitionsToTxnRequestUptoRow = true:=by
 unfold joinedFacts
 rw [j0_,j1_,j2_,j3_,j4_,j5_,j6_,j7_,j8_]
 kernel_rfl
theorem ql9:Tryz.f3.isInstance (Tryz.pinned.checked.prog) Rows.fnTellAddPartitionsToTxnRequestUptoRow.origin Rows.fnTellAddPartitionsToTxnRequestUptoRow.targs:=of_decide_eq_true kz
theorem qku:Tryz.f3.isWrapper (Tryz.pinned.checked.prog) Rows.fnTellAddPartitionsToTxnRequestUptoRow.wrapper Rows.fnTellAddPartitionsToTxnRequestUptoRow.mainSum:=by unfold Func.isWrapper; first | (rw [if_pos (by decide +kernel)]; kernel_rfl) | (rw [if_neg (by decide +kernel)]; exact ⟨rfl,rfl⟩)
theorem holds_:Rows.FnTellAddPartitionsToTxnRequestUptoSaid :=
 OpenClaim.holds_of_cond 3 Tryz.f3 rfl rfl rfl rfl rfl rfl rfl ⟨rfl,rfl,rfl,rfl,rfl⟩ rfl rfl rfl rfl rfl kz Tryz.func3 qlo ql9 qku
  (fun os started H enc _ F=>qln os started H enc F)
theorem cw_:Rows.fnTellAddPartitionsToTxnRequestUptoRow.wfByText (Rows.OpenSpec.upto Rows.fnTellAddPartitionsToTxnRequestSpec) = true:=by kernel_rfl
theorem cm_ : (Tryz.pinned.checked.prog).mainIs = some (true, "4ef9e737393375219c5ab43b967091ac8c52bb71e6332716e2204727fec52905".toList) := by kernel_rfl
theorem cn_ : (Tryz.pinned.checked.prog).funcNamed "pub-mailsack/laws.FnTellAddPartitionsToTxnRequest" = some 3 := by kernel_rfl
theorem cl_:false = (Tryz.pinned.checked.prog).looks []:=by kernel_rfl
theorem ca_:([5,26].all fun u=>!(Tryz.pinned.checked.prog).wantsStandIn u) = true:=by kernel_rfl
theorem cg_:false = Rows.fnTellAddPartitionsToTxnRequestUptoRow.goesBy (Tryz.pinned.checked.prog):=by kernel_rfl
end Go.Proofs.YtdlaobdadlmcdaaGreatDoor.ME
namespace Go.Proofs.YtdlaobdadlmcdaaGreatDoor
open Go
theorem fnTellAddPartitionsToTxnRequest_holds:Rows.FnTellAddPartitionsToTxnRequestUptoCardSaid :=
 Claim7.holds_tied_plain_at .later [] [.sentinel] true (true, "4ef9e737393375219c5ab43b967091ac8c52bb71e6332716e2204727fec52905") false ME.holds_ (fun _ h => by cases h) ME.cw_ (fun _ h => by cases h) fnTellAddPartitionsToTxnRequestUpto_row_tie rfl ⟨rfl, rfl⟩ ME.cm_ rfl
  (fun f fn hf hfn=>by
   obtain rfl:f = 3:=Option.some.inj (ME.cn_.symm.trans hf) |>.symm
   obtain rfl:fn = Tryz.f3:=(Option.some.inj (Tryz.func3.symm.trans hfn)).symm
   exact ⟨ME.cl_,fun j t ht=>by
    rw [Tryz.params3] at ht
    have hm:t ∈ [5,26]:=by simpa using Array.mem_of_getElem? ht
    exact (show (Tryz.pinned.checked.prog).wantsStandIn t = false by simpa using List.all_eq_true.1 ME.ca_ t hm)⟩)
  ME.cg_
end Go.Proofs.YtdlaobdadlmcdaaGreatDoor