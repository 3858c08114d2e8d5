/- FnRoadSync: the statement: of any three numbers and any members of the bulk that the statement speaks of the law returns true, and leaves its arguments as they are; and the card. Own work. -/
import Derived.Test.YtipblegipibplaaGreatDoorWqP7
import Derived.Test.YtipblegipibplaaGreatDoorTie
import Derived.Test.YtipblegipibplaaGreatDoorCards
import Derived.LaidMore
import Derived.Carry
import Derived.SevenTiedAt
namespace Go.Proofs.YtipblegipibplaaGreatDoor.ME
open Go
open Go.ChangeShapes Go.WideShapes Go.ChangeAt Go.RowKit
set_option linter.unusedVariables false
set_option linter.unusedSimpArgs false
theorem PH:(Rows.fnRoadSyncUptoRow.inPlace == (Tryz.pinned.checked.prog).inPlace 3) = true:=by kernel_rfl
theorem PI:(Rows.fnRoadSyncUptoRow.unfollowed == (Tryz.pinned.checked.prog).unfollowed 3) = true:=by kernel_rfl
theorem PJ:(Rows.fnRoadSyncUptoRow.recurses == (Tryz.pinned.checked.prog).recurses 3) = true:=by kernel_rfl
theorem PK:(Rows.fnRoadSyncUptoRow.named == (Tryz.pinned.checked.prog).varsNamed 3) = true:=by kernel_rfl
theorem PL:laidOutB (Tryz.pinned.checked.prog) = true:=by kernel_rfl
theorem PM:mapsRowed (Tryz.pinned.checked.prog) = true:=by kernel_rfl
theorem PN:(Rows.fnRoadSyncUptoRow.plainKeys == (Tryz.pinned.checked.prog).plainKeys) = true:=by kernel_rfl
theorem PO:(Tryz.pinned.checked.prog).stopsHeard = true:=by kernel_rfl
theorem PP:(Rows.fnRoadSyncUptoRow.lifted == (Tryz.pinned.checked.prog).liftsFinal) = true:=by kernel_rfl
theorem PQ:joinedFacts (Tryz.pinned.checked.prog) 3 Tryz.f3 (Rows.OpenSpec.upto Rows.fnRoadSyncSpec).bare Rows.fnRoadSyncUptoRow = true:=by
 unfold joinedFacts
 rw [PH,PI,PJ,PK,PL,PM,PN,PO,PP]
 kernel_rfl
theorem PR:Tryz.f3.isInstance (Tryz.pinned.checked.prog) Rows.fnRoadSyncUptoRow.origin Rows.fnRoadSyncUptoRow.targs:=of_decide_eq_true kz
theorem PS:Tryz.f3.isWrapper (Tryz.pinned.checked.prog) Rows.fnRoadSyncUptoRow.wrapper Rows.fnRoadSyncUptoRow.mainSum:=by unfold Func.isWrapper; first | (rw [if_pos (by decide +kernel)]; kernel_rfl) | (rw [if_neg (by decide +kernel)]; exact ⟨rfl,rfl⟩)
theorem holds_:Rows.FnRoadSyncUptoSaid :=
 OpenClaim.holds_of_cond 3 Tryz.f3 rfl rfl rfl rfl rfl rfl rfl ⟨rfl,rfl,rfl,rfl,rfl⟩ rfl rfl rfl rfl rfl kz Tryz.func3 PQ PR PS
  (fun os started H enc _ F=>PG os started H enc F)
theorem cw_:Rows.fnRoadSyncUptoRow.wfByText (Rows.OpenSpec.upto Rows.fnRoadSyncSpec) = true:=by kernel_rfl
theorem cm_ : (Tryz.pinned.checked.prog).mainIs = some (true, "de6d1bfa3e815390ac0045e7622e34d2d310a0f004ecd2dc8cf4b78350a665b6".toList) := by kernel_rfl
theorem cn_ : (Tryz.pinned.checked.prog).funcNamed "pub-mailsack/laws.FnRoadSync" = some 3 := by kernel_rfl
theorem cl_:false = (Tryz.pinned.checked.prog).looks []:=by kernel_rfl
theorem ca_:([5,22].all fun u=>!(Tryz.pinned.checked.prog).wantsStandIn u) = true:=by kernel_rfl
theorem cg_:false = Rows.fnRoadSyncUptoRow.goesBy (Tryz.pinned.checked.prog):=by kernel_rfl
end Go.Proofs.YtipblegipibplaaGreatDoor.ME
namespace Go.Proofs.YtipblegipibplaaGreatDoor
open Go
theorem fnRoadSync_holds:Rows.FnRoadSyncUptoCardSaid :=
 Claim7.holds_tied_plain_at .later [] [.sentinel] true (true, "de6d1bfa3e815390ac0045e7622e34d2d310a0f004ecd2dc8cf4b78350a665b6") false ME.holds_ (fun _ h => by cases h) ME.cw_ (fun _ h => by cases h) fnRoadSyncUpto_row_tie rfl ⟨rfl, rfl⟩ ME.cm_ rfl
  (fun f fn hf hfn=>by
   obtain rfl:f = 3:=Option.some.inj (ME.cn_.symm.trans hf) |>.symm
   obtain rfl:fn = Tryz.f3:=(Option.some.inj (Tryz.func3.symm.trans hfn)).symm
   exact ⟨ME.cl_,fun j t ht=>by
    rw [Tryz.params3] at ht
    have hm:t ∈ [5,22]:=by simpa using Array.mem_of_getElem? ht
    exact (show (Tryz.pinned.checked.prog).wantsStandIn t = false by simpa using List.all_eq_true.1 ME.ca_ t hm)⟩)
  ME.cg_
end Go.Proofs.YtipblegipibplaaGreatDoor