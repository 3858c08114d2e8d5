/- Printed by tools/mk.py. Own work. -/
import Derived.Test.YtlkiilgbpliakaaMc
import Derived.Test.YtlkiilgbpliakaaTi
namespace Go.Proofs.Ytlkiilgbpliakaa.ME
open Go
open Go.RowKit
set_option linter.unusedVariables false
set_option linter.unusedSimpArgs false
set_option maxRecDepth 20000

theorem pureHeartbeatResponse (v : Int) (h0 : 0 ≤ v) (h1 : v < 32768) (t : Tree) : makeHeartbeatResponse v (fitT v 8 sHeartbeatResponseF t) = writeB 8 sHeartbeatResponseF sHeartbeatResponseX v t := by
  have e0 : ((fitT v 8 sHeartbeatResponseF t).at_ 0).N = (t.at_ 0).N := fit_N (d := 7) (show sHeartbeatResponseF[0]? = _ from rfl) (by decide)
  have e1 : ((fitT v 8 sHeartbeatResponseF t).at_ 1).N = (t.at_ 1).N := fit_N (d := 7) (show sHeartbeatResponseF[1]? = _ from rfl) (by decide)
  rw [makeHeartbeatResponse, aHeartbeatResponse, fit_U, tagsR_whole, wholeU_len, i16_small h0 h1]
  simp only [e0, e1, be4_i32', be2_i16, be8_i64, be1_i8]
  by_cases c0 : v ≥ 1 <;> by_cases c1 : v ≥ 4 <;> simp [writeB, sHeartbeatResponseX, partB, partW, bodyB, sHeartbeatResponseF, Fld.tag, Fld.has, fieldB, Fld.kind, Fld.null, valueB, widthI, tagsN, tagsK, knownI, c0, c1, h0]
theorem closeHeartbeatResponse (x : Int) (hx : 0 ≤ x ∧ x ≤ 255) (ct : List Value) (t : Tree) (w : World) (F : Nat → Nat → Prop) (ht : TreeR w F ct t) : Calls Try.prog 6 #[.int .u8 x, .agg ct.toArray] w (Gives w (.bool true)) := by
  obtain ⟨g0, g1⟩ := ver_ok (m := 4 + 1) hx.1 hx.2 (by decide) (by decide)
  obtain ⟨h1, h2, h3, h4⟩ := fit_ok ht (Int.tmod x (4 + 1)) 8 sHeartbeatResponseF
  have hp := pureHeartbeatResponse (Int.tmod x (4 + 1)) g0 g1 t
  have huv := uv_len_le (fitT (Int.tmod x (4 + 1)) 8 sHeartbeatResponseF t).U.length 5 (by omega) (by decide)
  have hm : (makeHeartbeatResponse (Int.tmod x (4 + 1)) (fitT (Int.tmod x (4 + 1)) 8 sHeartbeatResponseF t)).length + 16 ≤ 1099511627776 := by
    simp only [makeHeartbeatResponse, aHeartbeatResponse, List.length_append, be_length, List.length_nil]
    repeat' split
    all_goals (simp only [List.length_append, be_length, List.length_nil]; omega)
  exact lawHeartbeatResponse x hx.1 (by omega) ct t w F ht (by rw [← hp]; omega) h1 h2 h3 hm hp

theorem pureRenewDelegationTokenResponse (v : Int) (h0 : 0 ≤ v) (h1 : v < 32768) (t : Tree) : makeRenewDelegationTokenResponse v (fitT v 8 sRenewDelegationTokenResponseF t) = writeB 8 sRenewDelegationTokenResponseF sRenewDelegationTokenResponseX v t := by
  have e0 : ((fitT v 8 sRenewDelegationTokenResponseF t).at_ 0).N = (t.at_ 0).N := fit_N (d := 7) (show sRenewDelegationTokenResponseF[0]? = _ from rfl) (by decide)
  have e1 : ((fitT v 8 sRenewDelegationTokenResponseF t).at_ 1).N = (t.at_ 1).N := fit_N (d := 7) (show sRenewDelegationTokenResponseF[1]? = _ from rfl) (by decide)
  have e2 : ((fitT v 8 sRenewDelegationTokenResponseF t).at_ 2).N = (t.at_ 2).N := fit_N (d := 7) (show sRenewDelegationTokenResponseF[2]? = _ from rfl) (by decide)
  rw [makeRenewDelegationTokenResponse, aRenewDelegationTokenResponse, fit_U, tagsR_whole, wholeU_len, i16_small h0 h1]
  simp only [e0, e1, e2, be4_i32', be2_i16, be8_i64, be1_i8]
  by_cases c0 : v ≥ 2 <;> simp [writeB, sRenewDelegationTokenResponseX, partB, partW, bodyB, sRenewDelegationTokenResponseF, Fld.tag, Fld.has, fieldB, Fld.kind, Fld.null, valueB, widthI, tagsN, tagsK, knownI, c0, h0]
theorem closeRenewDelegationTokenResponse (x : Int) (hx : 0 ≤ x ∧ x ≤ 255) (ct : List Value) (t : Tree) (w : World) (F : Nat → Nat → Prop) (ht : TreeR w F ct t) : Calls Try.prog 7 #[.int .u8 x, .agg ct.toArray] w (Gives w (.bool true)) := by
  obtain ⟨g0, g1⟩ := ver_ok (m := 2 + 1) hx.1 hx.2 (by decide) (by decide)
  obtain ⟨h1, h2, h3, h4⟩ := fit_ok ht (Int.tmod x (2 + 1)) 8 sRenewDelegationTokenResponseF
  have hp := pureRenewDelegationTokenResponse (Int.tmod x (2 + 1)) g0 g1 t
  have huv := uv_len_le (fitT (Int.tmod x (2 + 1)) 8 sRenewDelegationTokenResponseF t).U.length 5 (by omega) (by decide)
  have hm : (makeRenewDelegationTokenResponse (Int.tmod x (2 + 1)) (fitT (Int.tmod x (2 + 1)) 8 sRenewDelegationTokenResponseF t)).length + 16 ≤ 1099511627776 := by
    simp only [makeRenewDelegationTokenResponse, aRenewDelegationTokenResponse, List.length_append, be_length, List.length_nil]
    repeat' split
    all_goals (simp only [List.length_append, be_length, List.length_nil]; omega)
  exact lawRenewDelegationTokenResponse x hx.1 (by omega) ct t w F ht (by rw [← hp]; omega) h1 h2 h3 hm hp

theorem pureUnregisterControllerRequest (v : Int) (h0 : 0 ≤ v) (h1 : v < 32768) (t : Tree) : makeUnregisterControllerRequest v (fitT v 8 sUnregisterControllerRequestF t) = writeB 8 sUnregisterControllerRequestF sUnregisterControllerRequestX v t := by
  have e0 : ((fitT v 8 sUnregisterControllerRequestF t).at_ 0).N = (t.at_ 0).N := fit_N (d := 7) (show sUnregisterControllerRequestF[0]? = _ from rfl) (by decide)
  rw [makeUnregisterControllerRequest, aUnregisterControllerRequest, fit_U, tagsR_whole, wholeU_len, i16_small h0 h1]
  simp only [e0, be4_i32', be2_i16, be8_i64, be1_i8]
  simp [writeB, sUnregisterControllerRequestX, partB, partW, bodyB, sUnregisterControllerRequestF, Fld.tag, Fld.has, fieldB, Fld.kind, Fld.null, valueB, widthI, tagsN, tagsK, knownI, h0, h0]
theorem closeUnregisterControllerRequest (x : Int) (hx : 0 ≤ x ∧ x ≤ 255) (ct : List Value) (t : Tree) (w : World) (F : Nat → Nat → Prop) (ht : TreeR w F ct t) : Calls Try.prog 4 #[.int .u8 x, .agg ct.toArray] w (Gives w (.bool true)) := by
  obtain ⟨g0, g1⟩ := ver_ok (m := 0 + 1) hx.1 hx.2 (by decide) (by decide)
  obtain ⟨h1, h2, h3, h4⟩ := fit_ok ht (Int.tmod x (0 + 1)) 8 sUnregisterControllerRequestF
  have hp := pureUnregisterControllerRequest (Int.tmod x (0 + 1)) g0 g1 t
  have huv := uv_len_le (fitT (Int.tmod x (0 + 1)) 8 sUnregisterControllerRequestF t).U.length 5 (by omega) (by decide)
  have hm : (makeUnregisterControllerRequest (Int.tmod x (0 + 1)) (fitT (Int.tmod x (0 + 1)) 8 sUnregisterControllerRequestF t)).length + 16 ≤ 1099511627776 := by
    simp only [makeUnregisterControllerRequest, aUnregisterControllerRequest, List.length_append, be_length, List.length_nil]
    repeat' split
    all_goals (simp only [List.length_append, be_length, List.length_nil]; omega)
  exact lawUnregisterControllerRequest x hx.1 (by omega) ct t w F ht (by rw [← hp]; omega) h1 h2 h3 hm hp

end Go.Proofs.Ytlkiilgbpliakaa.ME
