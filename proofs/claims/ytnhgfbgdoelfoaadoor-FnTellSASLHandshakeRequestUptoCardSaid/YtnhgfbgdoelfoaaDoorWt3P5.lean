/- FnTellSASLHandshakeRequest: the statement: of every version and every tree of the bulk that the statement speaks of the law returns true, and leaves its arguments as they are; and the card. Own work. -/
import Derived.Test.YtnhgfbgdoelfoaaDoorWt3P4
import Derived.Test.YtnhgfbgdoelfoaaDoorTie
import Derived.Test.YtnhgfbgdoelfoaaDoorCards
import Derived.LaidMore
import Derived.SevenTiedAt
namespace Go.Proofs.YtnhgfbgdoelfoaaDoor.ME
open Go
open Go.ChangeShapes Go.WideShapes Go.ChangeAt Go.RowKit
set_option linter.unusedVariables false
set_option linter.unusedSimpArgs false
theorem holds_ : Rows.FnTellSASLHandshakeRequestUptoSaid :=
 OpenClaim.holds_of_cond 4 Tryd.f4 rfl rfl rfl rfl rfl rfl rfl ⟨rfl, rfl, rfl, rfl, rfl⟩ rfl rfl rfl rfl rfl kz Tryd.func4 kz
  (of_decide_eq_true kz) (by unfold Func.isWrapper; first | (rw [if_pos (by decide +kernel)]; kernel_rfl) | (rw [if_neg (by decide +kernel)]; exact ⟨rfl, rfl⟩))
  (fun os started H enc _ F => lifted_ os started H enc F)
end Go.Proofs.YtnhgfbgdoelfoaaDoor.ME
namespace Go.Proofs.YtnhgfbgdoelfoaaDoor
open Go
theorem fnTellSASLHandshakeRequest_holds : Rows.FnTellSASLHandshakeRequestUptoCardSaid :=
 Claim7.holds_tied_plain_at .later [] [.sentinel] true (true, "ae4c99087b4bf1f9da7c85090f98d040ed1a9b89c02361eddb74a58bafa03c50") false ME.holds_ (fun _ h => by cases h) (by kernel_rfl) (fun _ h => by cases h) fnTellSASLHandshakeRequestUpto_row_tie rfl ⟨rfl, rfl⟩ (by kernel_rfl) rfl
  (fun f fn hf hfn => by
   obtain rfl : f = 4 := Option.some.inj ((show Tryd.prog.funcNamed "pub-mailsack/laws.FnTellSASLHandshakeRequest" = some 4 by kernel_rfl).symm.trans hf) |>.symm
   obtain rfl : fn = Tryd.f4 := (Option.some.inj (Tryd.func4.symm.trans hfn)).symm
   exact ⟨by kernel_rfl, fun j t ht => by
    rw [Tryd.params4] at ht
    have hm : t ∈ [5, 26] := by simpa using Array.mem_of_getElem? ht
    have hall : ([5, 26].all fun u => !Tryd.prog.wantsStandIn u) = true := by kernel_rfl
    exact (show Tryd.prog.wantsStandIn t = false by simpa using List.all_eq_true.1 hall t hm)⟩)
  (by kernel_rfl)
end Go.Proofs.YtnhgfbgdoelfoaaDoor