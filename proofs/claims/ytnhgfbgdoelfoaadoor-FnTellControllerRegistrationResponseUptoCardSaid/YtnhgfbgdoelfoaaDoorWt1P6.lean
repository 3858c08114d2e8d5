/- FnTellControllerRegistrationResponse: the statement: of every version and every tree of the bulk that the statement speaks of the law returns true, and leaves its arguments as they are; and the card. Own work. -/
import Derived.Test.YtnhgfbgdoelfoaaDoorWt1P5
import Derived.Test.YtnhgfbgdoelfoaaDoorTie
import Derived.Test.YtnhgfbgdoelfoaaDoorCards
import Derived.LaidMore
import Derived.SevenTiedAt
namespace Go.Proofs.YtnhgfbgdoelfoaaDoor.ME
open Go
open Go.ChangeShapes Go.WideShapes Go.ChangeAt Go.RowKit
set_option linter.unusedVariables false
set_option linter.unusedSimpArgs false
theorem j0_ : (Rows.fnTellControllerRegistrationResponseUptoRow.inPlace == (Tryd.pinned.checked.prog).inPlace 6) = true := by kernel_rfl
theorem j1_ : (Rows.fnTellControllerRegistrationResponseUptoRow.unfollowed == (Tryd.pinned.checked.prog).unfollowed 6) = true := by kernel_rfl
theorem j2_ : (Rows.fnTellControllerRegistrationResponseUptoRow.recurses == (Tryd.pinned.checked.prog).recurses 6) = true := by kernel_rfl
theorem j3_ : (Rows.fnTellControllerRegistrationResponseUptoRow.named == (Tryd.pinned.checked.prog).varsNamed 6) = true := by kernel_rfl
theorem j4_ : laidOutB (Tryd.pinned.checked.prog) = true := by kernel_rfl
theorem j5_ : mapsRowed (Tryd.pinned.checked.prog) = true := by kernel_rfl
theorem j6_ : (Rows.fnTellControllerRegistrationResponseUptoRow.plainKeys == (Tryd.pinned.checked.prog).plainKeys) = true := by kernel_rfl
theorem j7_ : (Tryd.pinned.checked.prog).stopsHeard = true := by kernel_rfl
theorem j8_ : (Rows.fnTellControllerRegistrationResponseUptoRow.lifted == (Tryd.pinned.checked.prog).liftsFinal) = true := by kernel_rfl
theorem closed_ : joinedFacts (Tryd.pinned.checked.prog) 6 Tryd.f6 (Rows.OpenSpec.upto Rows.fnTellControllerRegistrationResponseSpec).bare Rows.fnTellControllerRegistrationResponseUptoRow = true := by
 unfold joinedFacts
 rw [j0_, j1_, j2_, j3_, j4_, j5_, j6_, j7_, j8_]
 kernel_rfl
theorem inst_ : Tryd.f6.isInstance (Tryd.pinned.checked.prog) Rows.fnTellControllerRegistrationResponseUptoRow.origin Rows.fnTellControllerRegistrationResponseUptoRow.targs := of_decide_eq_true kz
theorem wrapper_ : Tryd.f6.isWrapper (Tryd.pinned.checked.prog) Rows.fnTellControllerRegistrationResponseUptoRow.wrapper Rows.fnTellControllerRegistrationResponseUptoRow.mainSum := by unfold Func.isWrapper; first | (rw [if_pos (by decide +kernel)]; kernel_rfl) | (rw [if_neg (by decide +kernel)]; exact ⟨rfl, rfl⟩)
theorem holds_ : Rows.FnTellControllerRegistrationResponseUptoSaid :=
 OpenClaim.holds_of_cond 6 Tryd.f6 rfl rfl rfl rfl rfl rfl rfl ⟨rfl, rfl, rfl, rfl, rfl⟩ rfl rfl rfl rfl rfl kz Tryd.func6 closed_ inst_ wrapper_
  (fun os started H enc _ F => lifted_ os started H enc F)
end Go.Proofs.YtnhgfbgdoelfoaaDoor.ME
namespace Go.Proofs.YtnhgfbgdoelfoaaDoor
open Go
theorem fnTellControllerRegistrationResponse_holds : Rows.FnTellControllerRegistrationResponseUptoCardSaid :=
 Claim7.holds_tied_plain_at .later [] [.sentinel] true (true, "ae4c99087b4bf1f9da7c85090f98d040ed1a9b89c02361eddb74a58bafa03c50") false ME.holds_ (fun _ h => by cases h) (by kernel_rfl) (fun _ h => by cases h) fnTellControllerRegistrationResponseUpto_row_tie rfl ⟨rfl, rfl⟩ (by kernel_rfl) rfl
  (fun f fn hf hfn => by
   obtain rfl : f = 6 := Option.some.inj ((show Tryd.prog.funcNamed "pub-mailsack/laws.FnTellControllerRegistrationResponse" = some 6 by kernel_rfl).symm.trans hf) |>.symm
   obtain rfl : fn = Tryd.f6 := (Option.some.inj (Tryd.func6.symm.trans hfn)).symm
   exact ⟨by kernel_rfl, fun j t ht => by
    rw [Tryd.params6] at ht
    have hm : t ∈ [5, 26] := by simpa using Array.mem_of_getElem? ht
    have hall : ([5, 26].all fun u => !Tryd.prog.wantsStandIn u) = true := by kernel_rfl
    exact (show Tryd.prog.wantsStandIn t = false by simpa using List.all_eq_true.1 hall t hm)⟩)
  (by kernel_rfl)
end Go.Proofs.YtnhgfbgdoelfoaaDoor