/- FnTellFetchRequest: the statement: of every version and every tree of the bulk that the statement speaks of the law returns true, and leaves its arguments as they are; and the card. Own work. -/
import Derived.Test.YtoclgihkbmaolaaGreatDoorWt0P7
import Derived.Test.YtoclgihkbmaolaaGreatDoorTie
import Derived.Test.YtoclgihkbmaolaaGreatDoorCards
import Derived.LaidMore
import Derived.SevenTiedAt
namespace Go.Proofs.YtoclgihkbmaolaaGreatDoor.ME
open Go
open Go.ChangeShapes Go.WideShapes Go.ChangeAt Go.RowKit
set_option linter.unusedVariables false
set_option linter.unusedSimpArgs false
theorem Px:(Rows.fnTellFetchRequestUptoRow.inPlace == (Tryz.pinned.checked.prog).inPlace 3) = true:=by kernel_rfl
theorem Py:(Rows.fnTellFetchRequestUptoRow.unfollowed == (Tryz.pinned.checked.prog).unfollowed 3) = true:=by kernel_rfl
theorem Pz:(Rows.fnTellFetchRequestUptoRow.recurses == (Tryz.pinned.checked.prog).recurses 3) = true:=by kernel_rfl
theorem PA:(Rows.fnTellFetchRequestUptoRow.named == (Tryz.pinned.checked.prog).varsNamed 3) = true:=by kernel_rfl
theorem PB:laidOutB (Tryz.pinned.checked.prog) = true:=by kernel_rfl
theorem PC:mapsRowed (Tryz.pinned.checked.prog) = true:=by kernel_rfl
theorem PD:(Rows.fnTellFetchRequestUptoRow.plainKeys == (Tryz.pinned.checked.prog).plainKeys) = true:=by kernel_rfl
theorem PE:(Tryz.pinned.checked.prog).stopsHeard = true:=by kernel_rfl
theorem PF:(Rows.fnTellFetchRequestUptoRow.lifted == (Tryz.pinned.checked.prog).liftsFinal) = true:=by kernel_rfl
theorem PG:joinedFacts (Tryz.pinned.checked.prog) 3 Tryz.f3 (Rows.OpenSpec.upto Rows.fnTellFetchRequestSpec).bare Rows.fnTellFetchRequestUptoRow = true:=by
 unfold joinedFacts
 rw [Px,Py,Pz,PA,PB,PC,PD,PE,PF]
 kernel_rfl
theorem PH:Tryz.f3.isInstance (Tryz.pinned.checked.prog) Rows.fnTellFetchRequestUptoRow.origin Rows.fnTellFetchRequestUptoRow.targs:=of_decide_eq_true kz
theorem PI:Tryz.f3.isWrapper (Tryz.pinned.checked.prog) Rows.fnTellFetchRequestUptoRow.wrapper Rows.fnTellFetchRequestUptoRow.mainSum:=by unfold Func.isWrapper; first | (rw [if_pos (by decide +kernel)]; kernel_rfl) | (rw [if_neg (by decide +kernel)]; exact ⟨rfl,rfl⟩)
theorem holds_:Rows.FnTellFetchRequestUptoSaid :=
 OpenClaim.holds_of_cond 3 Tryz.f3 rfl rfl rfl rfl rfl rfl rfl ⟨rfl,rfl,rfl,rfl,rfl⟩ rfl rfl rfl rfl rfl kz Tryz.func3 PG PH PI
  (fun os started H enc _ F=>Pw os started H enc F)
theorem cw_:Rows.fnTellFetchRequestUptoRow.wfByText (Rows.OpenSpec.upto Rows.fnTellFetchRequestSpec) = true:=by kernel_rfl
theorem cm_ : (Tryz.pinned.checked.prog).mainIs = some (true, "51ccf99372db567b97764b8f981da8d0f4cd467b87c5bac8596bcf5967ee4424".toList) := by kernel_rfl
theorem cn_ : (Tryz.pinned.checked.prog).funcNamed "pub-mailsack/laws.FnTellFetchRequest" = some 3 := by kernel_rfl
theorem cl_:false = (Tryz.pinned.checked.prog).looks []:=by kernel_rfl
theorem ca_:([5,26].all fun u=>!(Tryz.pinned.checked.prog).wantsStandIn u) = true:=by kernel_rfl
theorem cg_:false = Rows.fnTellFetchRequestUptoRow.goesBy (Tryz.pinned.checked.prog):=by kernel_rfl
end Go.Proofs.YtoclgihkbmaolaaGreatDoor.ME
namespace Go.Proofs.YtoclgihkbmaolaaGreatDoor
open Go
theorem fnTellFetchRequest_holds:Rows.FnTellFetchRequestUptoCardSaid :=
 Claim7.holds_tied_plain_at .later [] [.sentinel] true (true, "51ccf99372db567b97764b8f981da8d0f4cd467b87c5bac8596bcf5967ee4424") false ME.holds_ (fun _ h => by cases h) ME.cw_ (fun _ h => by cases h) fnTellFetchRequestUpto_row_tie rfl ⟨rfl, rfl⟩ ME.cm_ rfl
  (fun f fn hf hfn=>by
   obtain rfl:f = 3:=Option.some.inj (ME.cn_.symm.trans hf) |>.symm
   obtain rfl:fn = Tryz.f3:=(Option.some.inj (Tryz.func3.symm.trans hfn)).symm
   exact ⟨ME.cl_,fun j t ht=>by
    rw [Tryz.params3] at ht
    have hm:t ∈ [5,26]:=by simpa using Array.mem_of_getElem? ht
    exact (show (Tryz.pinned.checked.prog).wantsStandIn t = false by simpa using List.all_eq_true.1 ME.ca_ t hm)⟩)
  ME.cg_
end Go.Proofs.YtoclgihkbmaolaaGreatDoor