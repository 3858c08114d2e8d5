/- The texts of a claim, put together: the engine, the contracts, the law. Own work. -/
import Derived.Test.YtgolpmkenmedoaaGreatDoorWt1P1
import Derived.Lib.EndianBits
import Derived.Scope
import Derived.Lib.AppendZeros
import Derived.Deep.LoopGhost
namespace Go.Proofs.YtgolpmkenmedoaaGreatDoor.ME
open Go
set_option linter.unusedVariables false
set_option linter.unusedSimpArgs false
set_option maxRecDepth 20000
def UsualOK (d : Nat) : Prop := ∀ (cf : List Value) (f : Fld) (ct : List Value) (t : Tree) (w : World) (F : Nat → Nat → Prop), FldR w F cf f → f.depth ≤ d → TreeR w F ct t →
  Calls Tryz.prog 59 #[.agg cf.toArray, .agg ct.toArray] w (Gives w (.bool (f.usual t)))
theorem sUsual_step {d : Nat} (hu : UsualOK d) (cf : List Value) (f : Fld) (ct : List Value) (t : Tree) (w : World) (F : Nat → Nat → Prop) (hf : FldR w F cf f) (hd : f.depth ≤ d + 1) (ht : TreeR w F ct t) :
  Calls Tryz.prog 59 #[.agg cf.toArray, .agg ct.toArray] w (Gives w (.bool (f.usual t))) := by
 obtain ⟨k1, y2, y3, y4, y5, y6, y7, l8, A9, aJ, dP, rfl, rfl, dQ, em⟩ := hf.open_
 have eo := dQ.small
 obtain ⟨af, ab, aL, aT, aK, ak, al, cG, cH, bD, bE, ff, rfl, rfl, ep, fg, gL, fh⟩ := ht.open_
 have eu := ep.small
 have ev := fg.small
 refine enter (n := 91) Tryz.func59 rfl Tryz.ntmps59 kz fun a hE => ?_
 have hW := WOk.start w Nil
 refine go_seq_region [0, 1, 2] kz ?_
 refine of_op (wpOp_box hW hE (d := 2) (cs := [.int .i64 k1, .int .i64 y2, .int .i64 y3, .int .i64 y4, .int .i64 y5, .int .i64 y6, .int .i64 y7, .slice A9 l8.length aJ]) kz fun dR gM gN fi fj fk cI cJ => ?_)
 clear hE hW
 refine of_op (wpOp_box cI cJ (d := 3) (cs := [.int .i64 af, .slice ak ab.length al, .bool aL, .slice cG aT.length cH, .slice bD aK.length bE]) kz fun dS gO gP fm fo fq aa cK => ?_)
 clear cJ cI
 refine go_rn [2] [] [(2, .p 0 0), (3, .p 1 0)] aa cK fun gQ cL => ?_
 clear cK
 refine wpOps_nil (then_normal ?_)
 refine wp_seq ?_
 refine go_sp [(2, .p 0 0), (3, .p 1 0), (10, .v (.int .i64 k1))] aa cL fun gR cM => ?_
 clear cL
 refine wp_block ?_
 refine go_sp [(2, .p 0 0), (3, .p 1 0), (10, .v (.int .i64 k1)), (11, .v (.bool (k1 == 0)))] aa cM fun gS aU => ?_
 clear cM
 refine cond_of aU (b := k1 == 0) kz (fun cC => ?_) (fun cC => ?_)
 ·
  have fr : k1 = 0 := by simpa using cC
  refine go_sp [(4, .v (.bool ((IntKind.i64.wrap (BitVec.ofInt 64 af &&& BitVec.ofInt 64 1).toNat) == y6)))] aa aU fun gT dT => ?_
  clear aU
  refine wp_ret ?_
  refine block_ret ?_
  refine then_ret ?_
  refine leave dT aa.cells (v := .bool ((IntKind.i64.wrap (BitVec.ofInt 64 af &&& BitVec.ofInt 64 1).toNat) == y6)) kz ?_
  refine ⟨congrArg (fun b_ => Ending.returned (Value.bool b_)) ?_, aa.step⟩
  first
   | (rw [usual_0 (by assumption)]; simp only [and1]; done)
   | (rw [usual_7 (by assumption) (by assumption)]; exact zero16_true hz (by omega); done)
   | (rw [usual_7 (by assumption) (by assumption)]; exact zero16_false (k := k) (by omega) (by omega) (by assumption); done)
   | (rw [usual_89n (by assumption) (by assumption) (by omega) (by assumption)]; done)
   | (rw [usual_89 (by assumption) (by assumption) (by omega) (by assumption)]; done)
   | (rw [usual_11 (by assumption) (by assumption) (by assumption) (by assumption) (by assumption)]; done)
   | (rw [usual_10 (by assumption) (by assumption) (by assumption) (by assumption) (by assumption) (by assumption), huu, usuals_end (by omega), Bool.true_and]; done)
   | (rw [usual_else (by assumption) (by assumption) (by assumption) (by assumption) (by assumption) (by assumption)]; done)
 ·
  have ft : k1 ≠ 0 := by simpa using cC
  refine go_sp [(2, .p 0 0), (3, .p 1 0), (10, .v (.int .i64 k1)), (19, .v (.bool (k1 == 7)))] aa aU fun gU aV => ?_
  clear aU
  refine cond_of aV (b := k1 == 7) kz (fun cD => ?_) (fun cD => ?_)
  ·
   have fu : k1 = 7 := by simpa using cD
   refine wp_seq ?_
   refine go_sp [(22, .v (.slice ak ab.length al)), (23, .v (.int .i64 ((ab.length : Nat) : Int))), (24, .v (.int .i64 0))] aa aV fun gV cN => ?_
   clear aV
   refine wp_block ?_
   refine wp_loop_ghost (fun n_ a_ w_ => ∃ (k : Nat), n_ = ab.length - k ∧ k ≤ ab.length ∧ (∀ q, q < k → q < 16 → (((ab.getD q 0).toNat : Nat) : Int) = 0) ∧ LInv aa 91 [⟨dR, 0, [.int .i64 k1, .int .i64 y2, .int .i64 y3, .int .i64 y4, .int .i64 y5, .int .i64 y6, .int .i64 y7, .slice A9 l8.length aJ], true⟩, ⟨dS, 0, [.int .i64 af, .slice ak ab.length al, .bool aL, .slice cG aT.length cH, .slice bD aK.length bE], true⟩] [] [(22, .v (.slice ak ab.length al)), (23, .v (.int .i64 ((ab.length : Nat) : Int))), (24, .v (.int .i64 ((k : Nat) : Int)))] a_ w_) (ab.length) ⟨0, by omega, by omega, fun q h_ => absurd h_ (Nat.not_lt_zero q), cN.pk, aa, Fr.refl _ _ _⟩ ?_
   clear cN
   rintro gW gX gY ⟨k, fv, fw, hz, cO, ae, cP⟩
   refine go_sp [(22, .v (.slice ak ab.length al)), (23, .v (.int .i64 ((ab.length : Nat) : Int))), (24, .v (.int .i64 ((k : Nat) : Int))), (25, .v (.bool (decide (((k : Nat) : Int) < ((ab.length : Nat) : Int)))))] ae cO fun gZ aW => ?_
   clear cO
   refine wp_seq ?_
   refine cond_of aW (b := decide (((k : Nat) : Int) < ((ab.length : Nat) : Int))) kz (fun cE => ?_) (fun cE => ?_)
   ·
    have fx := of_decide_eq_true cE
    refine wp_skip ?_
    refine then_normal ?_
    refine wp_seq ?_
    refine wp_block ?_
    refine go_seq_region [0, 1, 2, 3, 4] kz ?_
    refine go_rn [0] [1, 2, 3, 4] [(22, .v (.slice ak ab.length al)), (23, .v (.int .i64 ((ab.length : Nat) : Int))), (24, .v (.int .i64 ((k : Nat) : Int))), (26, .v (.int .i64 ((k : Nat) : Int)))] ae aW fun g6 cQ => ?_
    clear aW
    obtain ⟨fy, fz, dU, fA, cR⟩ := Slots.get ep (i := k) (by omega)
    refine of_op (wpOp_index cQ (t := 22) (A := ak) (m := ab.length) (q := ((k : Nat) : Int)) (d := 27) kz (e := 5) (size := 1) (bytes := 1) kz dU rfl (by omega) fun g7 cS => ?_)
    clear cQ
    refine of_op (wpOp_load cS (t := 5) (b := fy) (o := fz + k * 1) (d := 28) kz (cs := [.int .u8 ((ab.getD k 0).toNat : Int)]) (v := .int .u8 ((ab.getD k 0).toNat : Int)) kz (AtF.move cR ae.step nilM keepF).at_ fun g8 cT => ?_)
    clear cS
    refine go_rn [3, 4] [] [(5, .v (.int .i64 ((k : Nat) : Int))), (6, .v (.int .u8 ((ab.getD k 0).toNat : Int))), (22, .v (.slice ak ab.length al)), (23, .v (.int .i64 ((ab.length : Nat) : Int))), (24, .v (.int .i64 ((k : Nat) : Int)))] ae cT fun g9 cU => ?_
    clear cT
    refine wpOps_nil (then_normal ?_)
    refine go_seq_region [0, 1, 2, 3, 4, 5] kz ?_
    refine go_rn [0, 1, 2] [3, 4, 5] [(6, .v (.int .u8 ((ab.getD k 0).toNat : Int))), (22, .v (.slice ak ab.length al)), (23, .v (.int .i64 ((ab.length : Nat) : Int))), (24, .v (.int .i64 ((k : Nat) : Int))), (31, .v (.bool (decide (((k : Nat) : Int) < 16))))] ae cU fun hC bC => ?_
    clear cU
    refine (Bool.eq_false_or_eq_true (decide (((k : Nat) : Int) < 16))).elim (fun aX => ?_) (fun aX => ?_)
    ·
     have fB := of_decide_eq_true aX
     have cV := bC.cast (env' := [(6, .v (.int .u8 ((ab.getD k 0).toNat : Int))), (22, .v (.slice ak ab.length al)), (23, .v (.int .i64 ((ab.length : Nat) : Int))), (24, .v (.int .i64 ((k : Nat) : Int))), (31, .v (.bool true))]) (by rw [aX])
     clear bC
     refine go_rn [3, 4, 5] [] [(22, .v (.slice ak ab.length al)), (23, .v (.int .i64 ((ab.length : Nat) : Int))), (24, .v (.int .i64 ((k : Nat) : Int))), (34, .v (.bool (((ab.getD k 0).toNat : Int) != 0)))] ae cV fun hJ am => ?_
     clear cV
     refine wpOps_nil (then_normal ?_)
     refine cond_of am (b := ((ab.getD k 0).toNat : Int) != 0) kz (fun aY => ?_) (fun aY => ?_)
     ·
      have ew : ((ab.getD k 0).toNat : Int) ≠ 0 := by simpa using aY
      refine go_sp [(4, .v (.bool false))] ae am fun fC cW => ?_
      clear am
      refine wp_ret ?_
      refine block_ret ?_
      refine then_ret ?_
      refine then_ret ?_
      refine block_ret ?_
      refine then_ret ?_
      refine block_ret ?_
      refine then_ret ?_
      refine leave cW ae.cells (v := .bool false) kz ?_
      refine ⟨congrArg (fun b_ => Ending.returned (Value.bool b_)) ?_, ae.step⟩
      first
       | (rw [usual_0 (by assumption)]; simp only [and1]; done)
       | (rw [usual_7 (by assumption) (by assumption)]; exact zero16_true hz (by omega); done)
       | (rw [usual_7 (by assumption) (by assumption)]; exact zero16_false (k := k) (by omega) (by omega) (by assumption); done)
       | (rw [usual_89n (by assumption) (by assumption) (by omega) (by assumption)]; done)
       | (rw [usual_89 (by assumption) (by assumption) (by omega) (by assumption)]; done)
       | (rw [usual_11 (by assumption) (by assumption) (by assumption) (by assumption) (by assumption)]; done)
       | (rw [usual_10 (by assumption) (by assumption) (by assumption) (by assumption) (by assumption) (by assumption), huu, usuals_end (by omega), Bool.true_and]; done)
       | (rw [usual_else (by assumption) (by assumption) (by assumption) (by assumption) (by assumption) (by assumption)]; done)
     ·
      have ey : ((ab.getD k 0).toNat : Int) = 0 := by simpa using aY
      refine wp_skip ?_
      refine block_normal ?_
      refine then_normal ?_
      refine go_region [0, 1] kz ?_
      refine go_rn [0, 1] [] [(22, .v (.slice ak ab.length al)), (23, .v (.int .i64 ((ab.length : Nat) : Int))), (24, .v (.int .i64 (IntKind.i64.wrap (((k : Nat) : Int) + 1))))] ae am fun fD bF => ?_
      clear am
      refine wpOps_nil (then_normal ?_)
      have cX : IntKind.i64.wrap (((k : Nat) : Int) + 1) = ((k + 1 : Nat) : Int) := wrap_succ (by omega)
      rw [cX] at bF
      exact ⟨ab.length - (k + 1), by omega, k + 1, rfl, by omega, fun q hq cY => by rcases Nat.lt_succ_iff_lt_or_eq.1 hq with h_ | h_; exact hz q h_ cY; rw [h_] at cY ⊢; first | assumption | omega, bF.pk, ae, cP⟩
    ·
     have ez := of_decide_eq_false aX
     have bG := bC.cast (env' := [(6, .v (.int .u8 ((ab.getD k 0).toNat : Int))), (22, .v (.slice ak ab.length al)), (23, .v (.int .i64 ((ab.length : Nat) : Int))), (24, .v (.int .i64 ((k : Nat) : Int))), (31, .v (.bool false))]) (by rw [aX])
     clear bC
     refine go_rn [3, 4, 5] [] [(22, .v (.slice ak ab.length al)), (23, .v (.int .i64 ((ab.length : Nat) : Int))), (24, .v (.int .i64 ((k : Nat) : Int))), (34, .v (.bool false))] ae bG fun fE aZ => ?_
     clear bG
     refine wpOps_nil (then_normal ?_)
     refine cond_false aZ (b := false) kz rfl ?_
     refine wp_skip ?_
     refine block_normal ?_
     refine then_normal ?_
     refine go_region [0, 1] kz ?_
     refine go_rn [0, 1] [] [(22, .v (.slice ak ab.length al)), (23, .v (.int .i64 ((ab.length : Nat) : Int))), (24, .v (.int .i64 (IntKind.i64.wrap (((k : Nat) : Int) + 1))))] ae aZ fun fF bH => ?_
     clear aZ
     refine wpOps_nil (then_normal ?_)
     have cZ : IntKind.i64.wrap (((k : Nat) : Int) + 1) = ((k + 1 : Nat) : Int) := wrap_succ (by omega)
     rw [cZ] at bH
     exact ⟨ab.length - (k + 1), by omega, k + 1, rfl, by omega, fun q hq cY => by rcases Nat.lt_succ_iff_lt_or_eq.1 hq with h_ | h_; exact hz q h_ cY; rw [h_] at cY ⊢; first | assumption | omega, bH.pk, ae, cP⟩
   ·
    have eB := of_decide_eq_false cE
    refine wp_exit ?_
    refine then_exit ?_
    refine then_exit ?_
    refine block_exit ?_
    refine then_normal ?_
    refine go_sp [(4, .v (.bool true))] ae aW fun fG c5 => ?_
    clear aW
    refine wp_ret ?_
    refine block_ret ?_
    refine then_ret ?_
    refine leave c5 ae.cells (v := .bool true) kz ?_
    refine ⟨congrArg (fun b_ => Ending.returned (Value.bool b_)) ?_, ae.step⟩
    first
     | (rw [usual_0 (by assumption)]; simp only [and1]; done)
     | (rw [usual_7 (by assumption) (by assumption)]; exact zero16_true hz (by omega); done)
     | (rw [usual_7 (by assumption) (by assumption)]; exact zero16_false (k := k) (by omega) (by omega) (by assumption); done)
     | (rw [usual_89n (by assumption) (by assumption) (by omega) (by assumption)]; done)
     | (rw [usual_89 (by assumption) (by assumption) (by omega) (by assumption)]; done)
     | (rw [usual_11 (by assumption) (by assumption) (by assumption) (by assumption) (by assumption)]; done)
     | (rw [usual_10 (by assumption) (by assumption) (by assumption) (by assumption) (by assumption) (by assumption), huu, usuals_end (by omega), Bool.true_and]; done)
     | (rw [usual_else (by assumption) (by assumption) (by assumption) (by assumption) (by assumption) (by assumption)]; done)
  ·
   have eC : k1 ≠ 7 := by simpa using cD
   refine wp_seq ?_
   refine go_sp [(2, .p 0 0), (3, .p 1 0), (10, .v (.int .i64 k1)), (36, .v (.bool (k1 == 8)))] aa aV fun fH ag => ?_
   clear aV
   refine cond_of ag (b := k1 == 8) kz (fun aM => ?_) (fun aM => ?_)
   ·
    have eD : k1 = 8 := by simpa using aM
    refine wp_skip ?_
    refine then_normal ?_
    refine cond_true ag (b := k1 == 8) kz (aM) ?_
    refine wp_seq ?_
    refine go_sp [(3, .p 1 0), (41, .v (.bool (decide (y4 ≥ 0))))] aa ag fun fI ao => ?_
    clear ag
    refine cond_of ao (b := decide (y4 ≥ 0)) kz (fun ba => ?_) (fun ba => ?_)
    ·
     have eE := of_decide_eq_true ba
     refine go_sp [(4, .v (.bool aL))] aa ao fun fJ c6 => ?_
     clear ao
     refine wp_ret ?_
     refine then_ret ?_
     refine block_ret ?_
     refine then_ret ?_
     refine leave c6 aa.cells (v := .bool aL) kz ?_
     refine ⟨congrArg (fun b_ => Ending.returned (Value.bool b_)) ?_, aa.step⟩
     first
      | (rw [usual_0 (by assumption)]; simp only [and1]; done)
      | (rw [usual_7 (by assumption) (by assumption)]; exact zero16_true hz (by omega); done)
      | (rw [usual_7 (by assumption) (by assumption)]; exact zero16_false (k := k) (by omega) (by omega) (by assumption); done)
      | (rw [usual_89n (by assumption) (by assumption) (by omega) (by assumption)]; done)
      | (rw [usual_89 (by assumption) (by assumption) (by omega) (by assumption)]; done)
      | (rw [usual_11 (by assumption) (by assumption) (by assumption) (by assumption) (by assumption)]; done)
      | (rw [usual_10 (by assumption) (by assumption) (by assumption) (by assumption) (by assumption) (by assumption), huu, usuals_end (by omega), Bool.true_and]; done)
      | (rw [usual_else (by assumption) (by assumption) (by assumption) (by assumption) (by assumption) (by assumption)]; done)
    ·
     have eF := of_decide_eq_false ba
     refine wp_skip ?_
     refine then_normal ?_
     refine go_sp [(4, .v (.bool (((ab.length : Nat) : Int) == 0)))] aa ao fun fK da => ?_
     clear ao
     refine wp_ret ?_
     refine block_ret ?_
     refine then_ret ?_
     refine leave da aa.cells (v := .bool (((ab.length : Nat) : Int) == 0)) kz ?_
     refine ⟨congrArg (fun b_ => Ending.returned (Value.bool b_)) ?_, aa.step⟩
     first
      | (rw [usual_0 (by assumption)]; simp only [and1]; done)
      | (rw [usual_7 (by assumption) (by assumption)]; exact zero16_true hz (by omega); done)
      | (rw [usual_7 (by assumption) (by assumption)]; exact zero16_false (k := k) (by omega) (by omega) (by assumption); done)
      | (rw [usual_89n (by assumption) (by assumption) (by omega) (by assumption)]; done)
      | (rw [usual_89 (by assumption) (by assumption) (by omega) (by assumption)]; done)
      | (rw [usual_11 (by assumption) (by assumption) (by assumption) (by assumption) (by assumption)]; done)
      | (rw [usual_10 (by assumption) (by assumption) (by assumption) (by assumption) (by assumption) (by assumption), huu, usuals_end (by omega), Bool.true_and]; done)
      | (rw [usual_else (by assumption) (by assumption) (by assumption) (by assumption) (by assumption) (by assumption)]; done)
   ·
    have eG : k1 ≠ 8 := by simpa using aM
    refine go_region [0, 1] kz ?_
    refine go_rn [0, 1] [] [(2, .p 0 0), (3, .p 1 0), (10, .v (.int .i64 k1)), (36, .v (.bool (k1 == 9)))] aa ag fun fL ap => ?_
    clear ag
    refine wpOps_nil (then_normal ?_)
    refine cond_of ap (b := k1 == 9) kz (fun bd => ?_) (fun bd => ?_)
    ·
     have eH : k1 = 9 := by simpa using bd
     refine wp_seq ?_
     refine go_sp [(3, .p 1 0), (41, .v (.bool (decide (y4 ≥ 0))))] aa ap fun fM ar => ?_
     clear ap
     refine cond_of ar (b := decide (y4 ≥ 0)) kz (fun bf => ?_) (fun bf => ?_)
     ·
      have eI := of_decide_eq_true bf
      refine go_sp [(4, .v (.bool aL))] aa ar fun fN db => ?_
      clear ar
      refine wp_ret ?_
      refine then_ret ?_
      refine block_ret ?_
      refine then_ret ?_
      refine leave db aa.cells (v := .bool aL) kz ?_
      refine ⟨congrArg (fun b_ => Ending.returned (Value.bool b_)) ?_, aa.step⟩
      first
       | (rw [usual_0 (by assumption)]; simp only [and1]; done)
       | (rw [usual_7 (by assumption) (by assumption)]; exact zero16_true hz (by omega); done)
       | (rw [usual_7 (by assumption) (by assumption)]; exact zero16_false (k := k) (by omega) (by omega) (by assumption); done)
       | (rw [usual_89n (by assumption) (by assumption) (by omega) (by assumption)]; done)
       | (rw [usual_89 (by assumption) (by assumption) (by omega) (by assumption)]; done)
       | (rw [usual_11 (by assumption) (by assumption) (by assumption) (by assumption) (by assumption)]; done)
       | (rw [usual_10 (by assumption) (by assumption) (by assumption) (by assumption) (by assumption) (by assumption), huu, usuals_end (by omega), Bool.true_and]; done)
       | (rw [usual_else (by assumption) (by assumption) (by assumption) (by assumption) (by assumption) (by assumption)]; done)
     ·
      have eJ := of_decide_eq_false bf
      refine wp_skip ?_
      refine then_normal ?_
      refine go_sp [(4, .v (.bool (((ab.length : Nat) : Int) == 0)))] aa ar fun fO dc => ?_
      clear ar
      refine wp_ret ?_
      refine block_ret ?_
      refine then_ret ?_
      refine leave dc aa.cells (v := .bool (((ab.length : Nat) : Int) == 0)) kz ?_
      refine ⟨congrArg (fun b_ => Ending.returned (Value.bool b_)) ?_, aa.step⟩
      first
       | (rw [usual_0 (by assumption)]; simp only [and1]; done)
       | (rw [usual_7 (by assumption) (by assumption)]; exact zero16_true hz (by omega); done)
       | (rw [usual_7 (by assumption) (by assumption)]; exact zero16_false (k := k) (by omega) (by omega) (by assumption); done)
       | (rw [usual_89n (by assumption) (by assumption) (by omega) (by assumption)]; done)
       | (rw [usual_89 (by assumption) (by assumption) (by omega) (by assumption)]; done)
       | (rw [usual_11 (by assumption) (by assumption) (by assumption) (by assumption) (by assumption)]; done)
       | (rw [usual_10 (by assumption) (by assumption) (by assumption) (by assumption) (by assumption) (by assumption), huu, usuals_end (by omega), Bool.true_and]; done)
       | (rw [usual_else (by assumption) (by assumption) (by assumption) (by assumption) (by assumption) (by assumption)]; done)
    ·
     have eK : k1 ≠ 9 := by simpa using bd
     refine go_sp [(2, .p 0 0), (3, .p 1 0), (10, .v (.int .i64 k1)), (48, .v (.bool (k1 == 11)))] aa ap fun fP au => ?_
     clear ap
     refine cond_of au (b := k1 == 11) kz (fun bg => ?_) (fun bg => ?_)
     ·
      have eL : k1 = 11 := by simpa using bg
      refine go_sp [(4, .v (.bool (((aT.length : Nat) : Int) == 0)))] aa au fun fQ de => ?_
      clear au
      refine wp_ret ?_
      refine block_ret ?_
      refine then_ret ?_
      refine leave de aa.cells (v := .bool (((aT.length : Nat) : Int) == 0)) kz ?_
      refine ⟨congrArg (fun b_ => Ending.returned (Value.bool b_)) ?_, aa.step⟩
      first
       | (rw [usual_0 (by assumption)]; simp only [and1]; done)
       | (rw [usual_7 (by assumption) (by assumption)]; exact zero16_true hz (by omega); done)
       | (rw [usual_7 (by assumption) (by assumption)]; exact zero16_false (k := k) (by omega) (by omega) (by assumption); done)
       | (rw [usual_89n (by assumption) (by assumption) (by omega) (by assumption)]; done)
       | (rw [usual_89 (by assumption) (by assumption) (by omega) (by assumption)]; done)
       | (rw [usual_11 (by assumption) (by assumption) (by assumption) (by assumption) (by assumption)]; done)
       | (rw [usual_10 (by assumption) (by assumption) (by assumption) (by assumption) (by assumption) (by assumption), huu, usuals_end (by omega), Bool.true_and]; done)
       | (rw [usual_else (by assumption) (by assumption) (by assumption) (by assumption) (by assumption) (by assumption)]; done)
     ·
      have eM : k1 ≠ 11 := by simpa using bg
      refine go_sp [(2, .p 0 0), (3, .p 1 0), (54, .v (.bool (k1 == 10)))] aa au fun fR av => ?_
      clear au
      refine cond_of av (b := k1 == 10) kz (fun bh => ?_) (fun bh => ?_)
      ·
       have eN : k1 = 10 := by simpa using bh
       refine wp_seq ?_
       refine go_sp [(2, .p 0 0), (3, .p 1 0), (57, .v (.slice A9 l8.length aJ)), (58, .v (.int .i64 ((l8.length : Nat) : Int))), (59, .v (.int .i64 0))] aa av fun fS bI => ?_
       clear av
       refine wp_block ?_
       refine wp_loop_ghost (fun n_ a_ w_ => ∃ (k : Nat), n_ = l8.length - k ∧ k ≤ l8.length ∧ (usuals l8 (Tree.mk af ab aL aT aK) 0 = usuals (l8.drop k) (Tree.mk af ab aL aT aK) k) ∧ LInv aa 91 [⟨dR, 0, [.int .i64 k1, .int .i64 y2, .int .i64 y3, .int .i64 y4, .int .i64 y5, .int .i64 y6, .int .i64 y7, .slice A9 l8.length aJ], true⟩, ⟨dS, 0, [.int .i64 af, .slice ak ab.length al, .bool aL, .slice cG aT.length cH, .slice bD aK.length bE], true⟩] [] [(2, .p 0 0), (3, .p 1 0), (57, .v (.slice A9 l8.length aJ)), (58, .v (.int .i64 ((l8.length : Nat) : Int))), (59, .v (.int .i64 ((k : Nat) : Int)))] a_ w_) (l8.length) ⟨0, by omega, by omega, rfl, bI.pk, aa, Fr.refl _ _ _⟩ ?_
       clear bI
       rintro fT fU fV ⟨k, eO, eP, huu, bJ, ac, df⟩
       refine go_sp [(2, .p 0 0), (3, .p 1 0), (57, .v (.slice A9 l8.length aJ)), (58, .v (.int .i64 ((l8.length : Nat) : Int))), (59, .v (.int .i64 ((k : Nat) : Int))), (60, .v (.bool (decide (((k : Nat) : Int) < ((l8.length : Nat) : Int)))))] ac bJ fun fW aw => ?_
       clear bJ
       refine wp_seq ?_
       refine cond_of aw (b := decide (((k : Nat) : Int) < ((l8.length : Nat) : Int))) kz (fun bi => ?_) (fun bi => ?_)
       ·
        have eQ := of_decide_eq_true bi
        refine wp_skip ?_
        refine then_normal ?_
        refine wp_seq ?_
        refine wp_block ?_
        refine go_seq_region [0, 1, 2, 3, 4, 5] kz ?_
        refine go_rn [0] [1, 2, 3, 4, 5] [(2, .p 0 0), (3, .p 1 0), (57, .v (.slice A9 l8.length aJ)), (58, .v (.int .i64 ((l8.length : Nat) : Int))), (59, .v (.int .i64 ((k : Nat) : Int))), (61, .v (.int .i64 ((k : Nat) : Int)))] ac aw fun fX bK => ?_
        clear aw
        obtain ⟨dV, dW, dg, eR, bj⟩ := Slots.get dQ (i := k) (by omega)
        obtain ⟨dX, aN⟩ : ∃ x, l8[k]? = some x := ⟨_, List.getElem?_eq_getElem (by omega)⟩
        have bk := em k dX aN
        obtain ⟨ax, ay, az, aA, aB, aC, aD, aE, aR, aS, eS, rfl, bn, dY, fY⟩ := bk.open_
        rw [bn] at bk
        have dZ := dY.small
        rw [bn] at bj
        refine of_op (wpOp_index bK (t := 29) (A := A9) (m := l8.length) (q := ((k : Nat) : Int)) (d := 62) kz (e := 52) (size := 8) (bytes := 80) kz dg rfl (by omega) fun fZ bL => ?_)
        clear bK
        refine of_op (wpOp_load bL (t := 52) (b := dV) (o := dW + k * 8) (d := 63) kz (cs := [.int .i64 ax, .int .i64 ay, .int .i64 az, .int .i64 aA, .int .i64 aB, .int .i64 aC, .int .i64 aD, .slice aR aE.length aS]) (v := .agg #[.int .i64 ax, .int .i64 ay, .int .i64 az, .int .i64 aA, .int .i64 aB, .int .i64 aC, .int .i64 aD, .slice aR aE.length aS]) kz (AtF.move bj ac.step nilM keepF).at_ fun f5 bM => ?_)
        clear bL
        refine of_op (wpOp_alloc ac bM (d := 8) (cs := [.int .i64 0, .int .i64 0, .int .i64 0, .int .i64 0, .int .i64 0, .int .i64 0, .int .i64 0, .slice none 0 0]) kz fun f7 f8 f9 eU eV dh bo bN => ?_)
        clear bM ac
        refine go_rn [4] [5] [(2, .p 0 0), (3, .p 1 0), (7, .v (.int .i64 ((k : Nat) : Int))), (8, .p 2 0), (57, .v (.slice A9 l8.length aJ)), (58, .v (.int .i64 ((l8.length : Nat) : Int))), (59, .v (.int .i64 ((k : Nat) : Int))), (63, .v (.agg #[.int .i64 ax, .int .i64 ay, .int .i64 az, .int .i64 aA, .int .i64 aB, .int .i64 aC, .int .i64 aD, .slice aR aE.length aS]))] bo bN fun ga bO => ?_
        clear bN
        refine of_op (wpOp_store bo bO (oi := 2) (cs := [.int .i64 ax, .int .i64 ay, .int .i64 az, .int .i64 aA, .int .i64 aB, .int .i64 aC, .int .i64 aD, .slice aR aE.length aS]) kz fun gb di bP bQ => ?_)
        clear bO bo
        refine wpOps_nil (then_normal ?_)
        refine go_seq_drawK 6 kz bP fun gc dj aF dl => ?_
        clear bP
        refine go_rnD [0, 1, 2] [(2, .p 0 0), (3, .p 1 0), (57, .v (.slice A9 l8.length aJ)), (58, .v (.int .i64 ((l8.length : Nat) : Int))), (59, .v (.int .i64 ((k : Nat) : Int))), (64, .v (.agg #[.int .i64 ax, .int .i64 ay, .int .i64 az, .int .i64 aA, .int .i64 aB, .int .i64 aC, .int .i64 aD, .slice aR aE.length aS])), (65, .v (.agg #[.int .i64 af, .slice ak ab.length al, .bool aL, .slice cG aT.length cH, .slice bD aK.length bE])), (66, .v (.int .i64 ((k : Nat) : Int)))] 3 (panicFree_then (panicFree_block (panicFree_then (panicFree_then (panicFree_block (panicFree_then (panicFree_block (panicFree_then panicFree_body)))))))) (fun _ h => h.cells) dl bQ fun gd bR => ?_
        clear bQ
        refine anyC_op (i := 3) kz (wpOp_call bR (f := 57) (vs := [.agg #[.int .i64 af, .slice ak ab.length al, .bool aL, .slice cG aT.length cH, .slice bD aK.length bE], .int .i64 ((k : Nat) : Int)]) (d := 67) kz Tryz.call57 (sAt _ _ k _ _ (ht.move aF.step nilM aF.imm)) ?_)
        rintro e_ ge ⟨eW, rfl, dp, aG⟩
        have bp := dp.move aG nilM (fun b o h_ hb_ => aF.laid (G := F) aG b o (.inl h_) (Nat.lt_of_lt_of_le hb_ aG.size))
        obtain ⟨d5, d6, d7, d8, d9, ea, eb, ec, ee, ef, eg, eX, eY, bq, eh, ei, gg, gh⟩ := bp.open_
        rw [bq] at bp
        have ej := eh.small
        have ek := ei.small
        rw [bq]
        refine ⟨_, rfl, fun gi bS => ?_⟩
        have ah := aF.next_nil aG
        have bt := aF.frN aG
        clear bR
        have dq := TT.ofW bt ah
        refine ⟨fun _ => dq, ?_⟩
        refine anyC_op (i := 4) kz (wpOp_call bS (f := 59) (vs := [.agg #[.int .i64 ax, .int .i64 ay, .int .i64 az, .int .i64 aA, .int .i64 aB, .int .i64 aC, .int .i64 aD, .slice aR aE.length aS], .agg #[.int .i64 d5, .slice ea d6.length eb, .bool d7, .slice ec d8.length ee, .slice ef d9.length eg]]) (d := 68) kz Tryz.call59 ( hu _ _ _ _ _ _ (bk.move ah.step nilM ah.imm) (by have h_ := depths_get aN; rw [depth_mk] at hd; omega) bp) ?_)
        rintro e_ gj ⟨rfl, bT⟩
        refine ⟨_, rfl, fun gk bU => ?_⟩
        have ai := ah.next_nil bT
        have bV := ah.frN bT
        clear bS ah
        have bW := TT.ofW (bt.trans bV) ai
        refine ⟨fun _ => bW, ?_⟩
        refine go_rnD [5] [(2, .p 0 0), (3, .p 1 0), (57, .v (.slice A9 l8.length aJ)), (58, .v (.int .i64 ((l8.length : Nat) : Int))), (59, .v (.int .i64 ((k : Nat) : Int))), (69, .v (.bool (!(Fld.usual (Fld.mk ax ay az aA aB aC aD aE) (Tree.at_ (Tree.mk af ab aL aT aK) k)))))] 0 (panicFree_then (panicFree_block (panicFree_then (panicFree_then (panicFree_block (panicFree_then (panicFree_block (panicFree_then panicFree_body)))))))) (fun _ h => h.cells) bW bU fun gl aH => ?_
        clear bU
        refine anyC_done kz ?_ _
        refine then_normal ?_
        refine cond_of aH (b := !(Fld.usual (Fld.mk ax ay az aA aB aC aD aE) (Tree.at_ (Tree.mk af ab aL aT aK) k))) kz (fun bu => ?_) (fun bu => ?_)
        ·
         refine go_sp [(4, .v (.bool false))] ai aH fun gm dr => ?_
         clear aH
         refine wp_ret ?_
         refine block_ret ?_
         refine then_ret ?_
         refine then_ret ?_
         refine block_ret ?_
         refine then_ret ?_
         refine block_ret ?_
         refine then_ret ?_
         refine leave dr ai.cells (v := .bool false) kz ?_
         refine ⟨congrArg (fun b_ => Ending.returned (Value.bool b_)) ?_, ai.step⟩
         first
          | (rw [usual_0 (by assumption)]; simp only [and1]; done)
          | (rw [usual_7 (by assumption) (by assumption)]; exact zero16_true hz (by omega); done)
          | (rw [usual_7 (by assumption) (by assumption)]; exact zero16_false (k := k) (by omega) (by omega) (by assumption); done)
          | (rw [usual_89n (by assumption) (by assumption) (by omega) (by assumption)]; done)
          | (rw [usual_89 (by assumption) (by assumption) (by omega) (by assumption)]; done)
          | (rw [usual_11 (by assumption) (by assumption) (by assumption) (by assumption) (by assumption)]; done)
          | (rw [usual_10 (by assumption) (by assumption) (by assumption) (by assumption) (by assumption) (by assumption), huu, usuals_end (by omega), Bool.true_and]; done)
          | (rw [usual_else (by assumption) (by assumption) (by assumption) (by assumption) (by assumption) (by assumption)]; done)
          | (rw [usual_10 (by assumption) (by assumption) (by assumption) (by assumption) (by assumption) (by assumption), huu, usuals_stop aN (by simpa using bu), Bool.false_and]; done)
        ·
         refine wp_skip ?_
         refine block_normal ?_
         refine then_normal ?_
         refine go_region [0, 1] kz ?_
         refine go_rn [0, 1] [] [(2, .p 0 0), (3, .p 1 0), (57, .v (.slice A9 l8.length aJ)), (58, .v (.int .i64 ((l8.length : Nat) : Int))), (59, .v (.int .i64 (IntKind.i64.wrap (((k : Nat) : Int) + 1))))] ai aH fun gn dt => ?_
         clear aH
         refine wpOps_nil (then_normal ?_)
         obtain ⟨bX, du, dv⟩ := ai.cutB dt 2 [⟨dR, 0, [.int .i64 k1, .int .i64 y2, .int .i64 y3, .int .i64 y4, .int .i64 y5, .int .i64 y6, .int .i64 y7, .slice A9 l8.length aJ], true⟩, ⟨dS, 0, [.int .i64 af, .slice ak ab.length al, .bool aL, .slice cG aT.length cH, .slice bD aK.length bE], true⟩] [(2, .p 0 0), (3, .p 1 0), (57, .v (.slice A9 l8.length aJ)), (58, .v (.int .i64 ((l8.length : Nat) : Int))), (59, .v (.int .i64 (IntKind.i64.wrap (((k : Nat) : Int) + 1))))]
         have dw : IntKind.i64.wrap (((k : Nat) : Int) + 1) = ((k + 1 : Nat) : Int) := wrap_succ (by omega)
         rw [dw] at bX
         exact ⟨l8.length - (k + 1), by omega, k + 1, rfl, by omega, by rw [huu]; exact usuals_step aN (by simpa using bu), bX.pk, du, ((((((df.trans dh).trans di).trans dj).trans bt).trans bV).trans dv)⟩
       ·
        have eZ := of_decide_eq_false bi
        refine wp_exit ?_
        refine then_exit ?_
        refine then_exit ?_
        refine block_exit ?_
        refine then_normal ?_
        refine go_seq_region [0, 1, 2, 3, 4, 5, 6, 7] kz ?_
        refine go_rn [0, 1, 2, 3] [4, 5, 6, 7] [(72, .v (.slice A9 l8.length aJ)), (74, .v (.slice bD aK.length bE))] ac aw fun gp bY => ?_
        clear aw
        refine of_op (wpOp_call bY (f := 62) (vs := [.slice A9 l8.length aJ, .slice bD aK.length bE]) (d := 75) kz Tryz.call62 (sUnknown _ _ l8 _ _ aK _ _ ⟨dP, (dQ.move ac.step nilM ac.imm), (fun i_ x_ h_ => ((em i_ x_ h_).move ac.step nilM ac.imm))⟩ (fh.move ac.step nilM ac.imm)) ?_)
        rintro e_ gq ⟨gt, gv, rfl, dx, bw⟩
        have e9 := dx.move (Step.refl _ Nil) nilM (ac.laid (G := F) bw)
        refine ⟨_, rfl, fun gw bZ => ?_⟩
        have bx := ac.next_nil bw
        have fa := ac.frN bw
        clear bY
        refine go_rn [5, 6, 7] [] [(4, .v (.bool ((((unknownT l8 aK).length : Nat) : Int) == 0)))] bx bZ fun gx dy => ?_
        clear bZ
        refine wpOps_nil (then_normal ?_)
        refine wp_ret ?_
        refine block_ret ?_
        refine then_ret ?_
        refine leave dy bx.cells (v := .bool ((((unknownT l8 aK).length : Nat) : Int) == 0)) kz ?_
        refine ⟨congrArg (fun b_ => Ending.returned (Value.bool b_)) ?_, bx.step⟩
        first
         | (rw [usual_0 (by assumption)]; simp only [and1]; done)
         | (rw [usual_7 (by assumption) (by assumption)]; exact zero16_true hz (by omega); done)
         | (rw [usual_7 (by assumption) (by assumption)]; exact zero16_false (k := k) (by omega) (by omega) (by assumption); done)
         | (rw [usual_89n (by assumption) (by assumption) (by omega) (by assumption)]; done)
         | (rw [usual_89 (by assumption) (by assumption) (by omega) (by assumption)]; done)
         | (rw [usual_11 (by assumption) (by assumption) (by assumption) (by assumption) (by assumption)]; done)
         | (rw [usual_10 (by assumption) (by assumption) (by assumption) (by assumption) (by assumption) (by assumption), huu, usuals_end (by omega), Bool.true_and]; done)
         | (rw [usual_else (by assumption) (by assumption) (by assumption) (by assumption) (by assumption) (by assumption)]; done)
      ·
       have fb : k1 ≠ 10 := by simpa using bh
       refine wp_skip ?_
       refine block_normal ?_
       refine then_normal ?_
       refine go_seq_drawK 13 kz aa fun gy fe b8 dz => ?_
       clear aa
       refine go_rnD [0, 1, 2, 3, 6, 7, 8, 9] [(79, .v (.int .i64 af)), (81, .v (.int .i64 k1)), (85, .v (.int .i64 y6)), (87, .v (.int .i64 k1))] 6 (panicFree_then panicFree_body) (fun _ h => h.cells) dz av fun gz cd => ?_
       clear av
       refine anyC_op (i := 4) kz (wpOp_call cd (f := 129) (vs := [.int .i64 k1]) (d := 82) kz Tryz.call129 (sWidth k1 _) ?_)
       rintro e_ gA ⟨rfl, ce⟩
       refine ⟨_, rfl, fun gB cm => ?_⟩
       have bz := b8.next_nil ce
       have aI := b8.frN ce
       clear cd
       have dA := TT.ofW aI bz
       refine ⟨fun _ => dA, ?_⟩
       refine anyC_op (i := 5) kz (wpOp_call cm (f := 128) (vs := [.int .i64 af, .int .i64 ((widthI k1 : Nat) : Int)]) (d := 83) kz Tryz.call128 (sFixed af (widthI k1) (by first | decide | exact widthI_le _ | omega) _) ?_)
       rintro e_ gC ⟨dB, dC, rfl, dD, dE⟩
       refine ⟨_, rfl, fun gD cq => ?_⟩
       obtain ⟨aO, aP⟩ := bz.frFresh dE (brow dB dC 5 (be (widthI k1) af)) (Nat.le_refl _) dD
       clear cm bz
       have dF := TT.ofW (aI.trans aP) aO
       refine ⟨fun _ => dF, ?_⟩
       refine anyC_op (i := 10) kz (wpOp_call cq (f := 129) (vs := [.int .i64 k1]) (d := 88) kz Tryz.call129 (sWidth k1 _) ?_)
       rintro e_ gE ⟨rfl, cr⟩
       refine ⟨_, rfl, fun gF cu => ?_⟩
       have bA := aO.next_nil cr
       have bB := aO.frN cr
       clear cq aO
       have dG := TT.ofW ((aI.trans aP).trans bB) bA
       refine ⟨fun _ => dG, ?_⟩
       refine anyC_op (i := 11) kz (wpOp_call cu (f := 128) (vs := [.int .i64 y6, .int .i64 ((widthI k1 : Nat) : Int)]) (d := 89) kz Tryz.call128 (sFixed y6 (widthI k1) (by first | decide | exact widthI_le _ | omega) _) ?_)
       rintro e_ gG ⟨dH, dI, rfl, dJ, dK⟩
       refine ⟨_, rfl, fun gH cw => ?_⟩
       obtain ⟨aj, cz⟩ := bA.frFresh dK (brow dH dI 5 (be (widthI k1) y6)) (Nat.le_refl _) dJ
       clear cu bA
       have dL := TT.ofW (((aI.trans aP).trans bB).trans cz) aj
       refine ⟨fun _ => dL, ?_⟩
       refine anyC_op (i := 12) kz (wpOp_call cw (f := 63) (vs := [.slice dB ((be (widthI k1) af).length) dC, .slice dH ((be (widthI k1) y6).length) dI]) (d := 90) kz Tryz.call63 (sSame _ _ _ _ (be (widthI k1) af) (be (widthI k1) y6) _ _ (octs_own (aj.own 0 _ rfl) (by first | omega | (rw [uuidB_length]; decide) | (simp only [be_length]; exact Nat.le_trans (widthI_le _) (by decide)) | (have := hroom; omega) | (have := hmade; omega) | (simp only [List.length_append, List.length_nil]; omega)) (F := fun _ _ => True) (fun _ _ _ => trivial)) (octs_own (aj.own 1 _ rfl) (by first | omega | (rw [uuidB_length]; decide) | (simp only [be_length]; exact Nat.le_trans (widthI_le _) (by decide)) | (have := hroom; omega) | (have := hmade; omega) | (simp only [List.length_append, List.length_nil]; omega)) (F := fun _ _ => True) (fun _ _ _ => trivial))) ?_)
       rintro e_ gI ⟨rfl, cA⟩
       refine ⟨_, rfl, fun gJ cB => ?_⟩
       have aQ := aj.next_nil cA
       have dM := aj.frN cA
       clear cw aj
       have dN := TT.ofW ((((aI.trans aP).trans bB).trans cz).trans dM) aQ
       refine ⟨fun _ => dN, ?_⟩
       refine anyC_op (i := 13) kz (wpOp_pure [4] aQ.cells cB (env' := [(4, .v (.bool (decide (be (widthI k1) af = be (widthI k1) y6))))]) kz fun gK dO => ?_)
       clear cB
       refine ⟨fun h => absurd rfl h, ?_⟩
       refine anyC_done kz ?_ _
       refine then_normal ?_
       refine wp_ret ?_
       refine leave dO aQ.cells (v := .bool (decide (be (widthI k1) af = be (widthI k1) y6))) kz ?_
       refine ⟨congrArg (fun b_ => Ending.returned (Value.bool b_)) ?_, aQ.step⟩
       first
        | (rw [usual_0 (by assumption)]; simp only [and1]; done)
        | (rw [usual_7 (by assumption) (by assumption)]; exact zero16_true hz (by omega); done)
        | (rw [usual_7 (by assumption) (by assumption)]; exact zero16_false (k := k) (by omega) (by omega) (by assumption); done)
        | (rw [usual_89n (by assumption) (by assumption) (by omega) (by assumption)]; done)
        | (rw [usual_89 (by assumption) (by assumption) (by omega) (by assumption)]; done)
        | (rw [usual_11 (by assumption) (by assumption) (by assumption) (by assumption) (by assumption)]; done)
        | (rw [usual_10 (by assumption) (by assumption) (by assumption) (by assumption) (by assumption) (by assumption), huu, usuals_end (by omega), Bool.true_and]; done)
        | (rw [usual_else (by assumption) (by assumption) (by assumption) (by assumption) (by assumption) (by assumption)]; done)
theorem sUsual : ∀ d, UsualOK d
 | 0 => fun cf f ct t w F hf hd ht => by
  obtain ⟨k, x1, x2, x3, x4, x5, x6, l, A, c, xs, rfl, _⟩ := hf.open_
  rw [depth_mk] at hd; omega
 | d + 1 => sUsual_step (sUsual d)
theorem sPart (W : Fld → Tree → Bs) (A : Option Addr) (c : Nat) (l : List Fld) (v : Int) (flex : Bool) (ct : List Value) (t : Tree) (w : World) (F : Nat → Nat → Prop) (hW_ : ∀ cf f ct t w F, f ∈ l → FldR w F cf f → TreeR w F ct t → (W f t).length ≤ 1099511627776 → Calls Tryz.prog 125 #[.agg cf.toArray, .int .i64 v, .bool flex, .agg ct.toArray] w (FreshB w 5 (W f t))) (hl : FldsR w F A c l) (ht : TreeR w F ct t) (hroom : (partW W l v flex t).length ≤ 1099511627776) :
  Calls Tryz.prog 56 #[.slice A l.length c, .int .i64 v, .bool flex, .agg ct.toArray] w (FreshB w 5 (partW W l v flex t)) := by
 obtain ⟨xfs, h1, h2⟩ := hl.ex
 have hsm := h1.small
 obtain ⟨n1, s2, b3, l4, u5, A6, c7, A8, c9, aV, aW, lV, rfl, rfl, lW, lX, oX, lY⟩ := ht.open_
 have k7 := lW.small
 have k8 := lX.small
 have hkr := known_range l
 refine enter (n := 132) Tryz.func56 rfl Tryz.ntmps56 kz fun a hE => ?_
 have hW := WOk.start w Nil
 refine go_seq_region [0, 1] kz ?_
 refine of_op (wpOp_box hW hE (d := 7) (cs := [.int .i64 n1, .slice A6 s2.length c7, .bool b3, .slice A8 l4.length c9, .slice aV u5.length aW]) kz fun cU oY oZ lZ l0 l3 bW gS => ?_)
 clear hE hW
 refine go_rn [1] [] [(0, .v (.slice A l.length c)), (1, .v (.int .i64 v)), (2, .v (.bool flex)), (7, .p 0 0)] bW gS fun o5 gT => ?_
 clear gS
 refine wpOps_nil (then_normal ?_)
 refine go_sp [(0, .v (.slice A l.length c)), (1, .v (.int .i64 v)), (2, .v (.bool flex)), (7, .p 0 0), (9, .v (.slice none 0 0)), (10, .v (.slice none 0 0))] bW gT fun o6 gU => ?_
 clear gT
 refine go_sp [(0, .v (.slice A l.length c)), (1, .v (.int .i64 v)), (2, .v (.bool flex)), (7, .p 0 0), (9, .v (.slice none 0 0)), (10, .v (.slice none 0 0)), (11, .v (.int .i64 0))] bW gU fun o7 gV => ?_
 clear gU
 refine wp_seq ?_
 refine go_sp [(0, .v (.slice A l.length c)), (1, .v (.int .i64 v)), (2, .v (.bool flex)), (7, .p 0 0), (9, .v (.slice none 0 0)), (10, .v (.slice none 0 0)), (11, .v (.int .i64 0)), (21, .v (.slice A l.length c)), (22, .v (.int .i64 ((l.length : Nat) : Int))), (23, .v (.int .i64 0))] bW gV fun o9 gW => ?_
 clear gV
 refine wp_block ?_
 have gX := bW.addNil 5 1
 have l5 := bW.frNil 5 1
 clear bW
 have htot : (bodyB W l v (Tree.mk n1 s2 b3 l4 u5) 0).length ≤ 1099511627776 := by have h_ := hroom; rw [partW, List.length_append] at h_; omega
 refine wp_loop_ghost (fun n_ a_ w_ => ∃ (k : Nat) (A_ : Option Addr) (c_ : Nat) (dn : Bs), n_ = l.length - k ∧ k ≤ l.length ∧ (dn ++ bodyB W (l.drop k) v (Tree.mk n1 s2 b3 l4 u5) k = bodyB W l v (Tree.mk n1 s2 b3 l4 u5) 0) ∧ LInv gX 132 [⟨cU, 0, [.int .i64 n1, .slice A6 s2.length c7, .bool b3, .slice A8 l4.length c9, .slice aV u5.length aW], true⟩] [brow A_ c_ 5 dn] [(0, .v (.slice A l.length c)), (1, .v (.int .i64 v)), (2, .v (.bool flex)), (7, .p 0 0), (9, .v (.slice A_ dn.length c_)), (10, .v (.slice none 0 0)), (11, .v (.int .i64 0)), (21, .v (.slice A l.length c)), (22, .v (.int .i64 ((l.length : Nat) : Int))), (23, .v (.int .i64 ((k : Nat) : Int)))] a_ w_) (l.length) ⟨0, none, 0, [], by omega, by omega, rfl, gW.pk, gX, Fr.refl _ _ _⟩ ?_
 clear gW
 rintro pa pb pc ⟨k, A_, c_, dn, l6, l7, hB, gY, ax, gA⟩
 refine go_sp [(0, .v (.slice A l.length c)), (1, .v (.int .i64 v)), (2, .v (.bool flex)), (7, .p 0 0), (9, .v (.slice A_ dn.length c_)), (10, .v (.slice none 0 0)), (11, .v (.int .i64 0)), (21, .v (.slice A l.length c)), (22, .v (.int .i64 ((l.length : Nat) : Int))), (23, .v (.int .i64 ((k : Nat) : Int))), (24, .v (.bool (decide (((k : Nat) : Int) < ((l.length : Nat) : Int)))))] ax gY fun pd cV => ?_
 clear gY
 refine wp_seq ?_
 refine cond_of cV (b := decide (((k : Nat) : Int) < ((l.length : Nat) : Int))) kz (fun gB => ?_) (fun gB => ?_)
 ·
  have l9 := of_decide_eq_true gB
  refine wp_skip ?_
  refine then_normal ?_
  refine wp_seq ?_
  refine wp_block ?_
  refine go_seq_region [0, 1, 2, 3, 4, 5] kz ?_
  refine go_rn [0] [1, 2, 3, 4, 5] [(0, .v (.slice A l.length c)), (1, .v (.int .i64 v)), (2, .v (.bool flex)), (7, .p 0 0), (9, .v (.slice A_ dn.length c_)), (10, .v (.slice none 0 0)), (11, .v (.int .i64 0)), (21, .v (.slice A l.length c)), (22, .v (.int .i64 ((l.length : Nat) : Int))), (23, .v (.int .i64 ((k : Nat) : Int))), (25, .v (.int .i64 ((k : Nat) : Int)))] ax cV fun pe gZ => ?_
  clear cV
  obtain ⟨ma, mc, j8, md, dO⟩ := Slots.get h1 (i := k) (by omega)
  obtain ⟨me, bk⟩ : ∃ x, l[k]? = some x := ⟨_, List.getElem?_eq_getElem (by omega)⟩
  have gC := h2 k me bk
  obtain ⟨aA, aB, aC, aD, ay, aE, aF, aG, dL, dM, mf, rfl, dP, mg, pf⟩ := gC.open_
  rw [dP] at gC
  have k9 := mg.small
  rw [dP] at dO
  refine of_op (wpOp_index gZ (t := 29) (A := A) (m := l.length) (q := ((k : Nat) : Int)) (d := 26) kz (e := 52) (size := 8) (bytes := 80) kz j8 rfl (by omega) fun pg g6 => ?_)
  clear gZ
  refine of_op (wpOp_load g6 (t := 52) (b := ma) (o := mc + k * 8) (d := 27) kz (cs := [.int .i64 aA, .int .i64 aB, .int .i64 aC, .int .i64 aD, .int .i64 ay, .int .i64 aE, .int .i64 aF, .slice dL aG.length dM]) (v := .agg #[.int .i64 aA, .int .i64 aB, .int .i64 aC, .int .i64 aD, .int .i64 ay, .int .i64 aE, .int .i64 aF, .slice dL aG.length dM]) kz (AtF.move dO ax.step nilM keepF).at_ fun ph g7 => ?_)
  clear g6
  refine of_op (wpOp_alloc ax g7 (d := 13) (cs := [.int .i64 0, .int .i64 0, .int .i64 0, .int .i64 0, .int .i64 0, .int .i64 0, .int .i64 0, .slice none 0 0]) kz fun pi pj pl mh mi gD gE g8 => ?_)
  clear g7 ax
  refine go_rn [4] [5] [(0, .v (.slice A l.length c)), (1, .v (.int .i64 v)), (2, .v (.bool flex)), (7, .p 0 0), (9, .v (.slice A_ dn.length c_)), (10, .v (.slice none 0 0)), (11, .v (.int .i64 0)), (12, .v (.int .i64 ((k : Nat) : Int))), (13, .p 1 0), (21, .v (.slice A l.length c)), (22, .v (.int .i64 ((l.length : Nat) : Int))), (23, .v (.int .i64 ((k : Nat) : Int))), (27, .v (.agg #[.int .i64 aA, .int .i64 aB, .int .i64 aC, .int .i64 aD, .int .i64 ay, .int .i64 aE, .int .i64 aF, .slice dL aG.length dM]))] gE g8 fun pm g9 => ?_
  clear g8
  refine of_op (wpOp_store gE g9 (oi := 1) (cs := [.int .i64 aA, .int .i64 aB, .int .i64 aC, .int .i64 aD, .int .i64 ay, .int .i64 aE, .int .i64 aF, .slice dL aG.length dM]) kz fun pn gF bn hC => ?_)
  clear g9 gE
  refine wpOps_nil (then_normal ?_)
  refine go_seq_region [0, 1, 2, 3, 4, 5, 6, 7] kz ?_
  refine go_rn [0, 1, 2, 3] [4, 5, 6, 7] [(0, .v (.slice A l.length c)), (1, .v (.int .i64 v)), (2, .v (.bool flex)), (7, .p 0 0), (9, .v (.slice A_ dn.length c_)), (10, .v (.slice none 0 0)), (11, .v (.int .i64 0)), (12, .v (.int .i64 ((k : Nat) : Int))), (13, .p 1 0), (21, .v (.slice A l.length c)), (22, .v (.int .i64 ((l.length : Nat) : Int))), (23, .v (.int .i64 ((k : Nat) : Int))), (31, .v (.bool (decide (ay < 0))))] bn hC fun po dN => ?_
  clear hC
  refine (Bool.eq_false_or_eq_true (decide (ay < 0))).elim (fun cW => ?_) (fun cW => ?_)
  ·
   have mj := of_decide_eq_true cW
   have hJ := dN.cast (env' := [(0, .v (.slice A l.length c)), (1, .v (.int .i64 v)), (2, .v (.bool flex)), (7, .p 0 0), (9, .v (.slice A_ dn.length c_)), (10, .v (.slice none 0 0)), (11, .v (.int .i64 0)), (12, .v (.int .i64 ((k : Nat) : Int))), (13, .p 1 0), (21, .v (.slice A l.length c)), (22, .v (.int .i64 ((l.length : Nat) : Int))), (23, .v (.int .i64 ((k : Nat) : Int))), (31, .v (.bool true))]) (by rw [cW])
   clear dN
   refine go_rn [4, 5] [6, 7] [(0, .v (.slice A l.length c)), (1, .v (.int .i64 v)), (2, .v (.bool flex)), (7, .p 0 0), (9, .v (.slice A_ dn.length c_)), (10, .v (.slice none 0 0)), (11, .v (.int .i64 0)), (12, .v (.int .i64 ((k : Nat) : Int))), (13, .p 1 0), (21, .v (.slice A l.length c)), (22, .v (.int .i64 ((l.length : Nat) : Int))), (23, .v (.int .i64 ((k : Nat) : Int))), (31, .v (.bool true)), (32, .v (.agg #[.int .i64 aA, .int .i64 aB, .int .i64 aC, .int .i64 aD, .int .i64 ay, .int .i64 aE, .int .i64 aF, .slice dL aG.length dM])), (33, .v (.int .i64 v))] bn hJ fun pp dQ => ?_
   clear hJ
   refine of_op (wpOp_call dQ (f := 58) (vs := [.agg #[.int .i64 aA, .int .i64 aB, .int .i64 aC, .int .i64 aD, .int .i64 ay, .int .i64 aE, .int .i64 aF, .slice dL aG.length dM], .int .i64 v]) (d := 34) kz Tryz.call58 (sHas aA aB aC aD ay aE aF aG _ _ v _) ?_)
   rintro e_ ml ⟨rfl, dR⟩
   refine ⟨_, rfl, fun mn dS => ?_⟩
   have bo := bn.next_nil dR
   have dT := bn.frN dR
   clear dQ bn
   refine go_rn [7] [] [(0, .v (.slice A l.length c)), (1, .v (.int .i64 v)), (2, .v (.bool flex)), (7, .p 0 0), (9, .v (.slice A_ dn.length c_)), (10, .v (.slice none 0 0)), (11, .v (.int .i64 0)), (12, .v (.int .i64 ((k : Nat) : Int))), (13, .p 1 0), (21, .v (.slice A l.length c)), (22, .v (.int .i64 ((l.length : Nat) : Int))), (23, .v (.int .i64 ((k : Nat) : Int))), (35, .v (.bool (Fld.has (Fld.mk aA aB aC aD ay aE aF aG) v)))] bo dS fun mo bp => ?_
   clear dS
   refine wpOps_nil (then_normal ?_)
   refine cond_of bp (b := Fld.has (Fld.mk aA aB aC aD ay aE aF aG) v) kz (fun hK => ?_) (fun hK => ?_)
   ·
    refine go_drawK 9 kz bo fun mp hZ bq ia => ?_
    clear bo
    refine go_rnD [0, 1, 2, 3, 4, 5] [(0, .v (.slice A l.length c)), (1, .v (.int .i64 v)), (2, .v (.bool flex)), (7, .p 0 0), (9, .v (.slice A_ dn.length c_)), (10, .v (.slice none 0 0)), (11, .v (.int .i64 0)), (21, .v (.slice A l.length c)), (22, .v (.int .i64 ((l.length : Nat) : Int))), (23, .v (.int .i64 ((k : Nat) : Int))), (36, .v (.slice A_ dn.length c_)), (37, .v (.agg #[.int .i64 aA, .int .i64 aB, .int .i64 aC, .int .i64 aD, .int .i64 ay, .int .i64 aE, .int .i64 aF, .slice dL aG.length dM])), (38, .v (.int .i64 v)), (39, .v (.bool flex)), (40, .v (.agg #[.int .i64 n1, .slice A6 s2.length c7, .bool b3, .slice A8 l4.length c9, .slice aV u5.length aW])), (41, .v (.int .i64 ((k : Nat) : Int)))] 4 (panicFree_block (panicFree_then (panicFree_then (panicFree_block (panicFree_then panicFree_body))))) (fun _ h => h.cells) ia bp fun mq dU => ?_
    clear bp
    refine anyC_op (i := 6) kz (wpOp_call dU (f := 57) (vs := [.agg #[.int .i64 n1, .slice A6 s2.length c7, .bool b3, .slice A8 l4.length c9, .slice aV u5.length aW], .int .i64 ((k : Nat) : Int)]) (d := 42) kz Tryz.call57 (sAt _ _ k _ _ (ht.move bq.step nilM bq.imm)) ?_)
    rintro e_ mr ⟨la, rfl, ib, bt⟩
    have cX := ib.move bt nilM (fun b o h_ hb_ => bq.laid (G := F) bt b o (.inl h_) (Nat.lt_of_lt_of_le hb_ bt.size))
    obtain ⟨gG, gH, gI, gJ, gK, gL, gM, gN, gO, gP, gQ, lb, lc, cY, j9, ka, mt, mu⟩ := cX.open_
    rw [cY] at cX
    have kd := j9.small
    have ke := ka.small
    rw [cY]
    refine ⟨_, rfl, fun mw dV => ?_⟩
    have bu := bq.next_nil bt
    have cm := bq.frN bt
    clear dU
    have ic := TT.ofW cm bu
    refine ⟨fun _ => ic, ?_⟩
    refine anyC_op (i := 7) kz (wpOp_call dV (f := 125) (vs := [.agg #[.int .i64 aA, .int .i64 aB, .int .i64 aC, .int .i64 aD, .int .i64 ay, .int .i64 aE, .int .i64 aF, .slice dL aG.length dM], .int .i64 v, .bool flex, .agg #[.int .i64 gG, .slice gL gH.length gM, .bool gI, .slice gN gJ.length gO, .slice gP gK.length gQ]]) (d := 43) kz Tryz.call125 ( hW_ _ _ _ _ _ _ (List.mem_of_getElem? bk) (gC.move bu.step nilM bu.imm) cX (by have h_ := congrArg List.length hB; rw [bodyB_pos bk (by assumption) (by assumption)] at h_; simp only [List.length_append] at h_; omega)) ?_)
    rintro e_ mx ⟨cZ, c5, rfl, ig, ii⟩
    refine ⟨_, rfl, fun my dW => ?_⟩
    obtain ⟨bw, c6⟩ := bu.frFresh ii (brow cZ c5 5 (W (Fld.mk aA aB aC aD ay aE aF aG) (Tree.at_ (Tree.mk n1 s2 b3 l4 u5) k))) (Nat.le_refl _) ig
    clear dV bu
    have kf : (W (Fld.mk aA aB aC aD ay aE aF aG) (Tree.at_ (Tree.mk n1 s2 b3 l4 u5) k)).length ≤ 1099511627776 := by have h_ := congrArg List.length hB; rw [bodyB_pos bk (by assumption) (by assumption)] at h_; simp only [List.length_append] at h_; omega
    have ij := TT.ofW (cm.trans c6) bw
    refine ⟨fun _ => ij, ?_⟩
    refine anyC_op (i := 8) kz (wpOp_append bw dW (k := 0) (d := 44) (t := 22) (e := 5) (size := 1) (bytes := 1) (A := A_) (As := cZ) (m0 := dn.length) (c := c_) (m := ((W (Fld.mk aA aB aC aD ay aE aF aG) (Tree.at_ (Tree.mk n1 s2 b3 l4 u5) k)).length)) (cs := c5) (xs := (bc dn)) (news := bc (W (Fld.mk aA aB aC aD ay aE aF aG) (Tree.at_ (Tree.mk n1 s2 b3 l4 u5) k))) kz kz rfl (own_src (bw.own 1 _ rfl) (bc_one _)) (own_cap (bw.own 1 _ rfl)) (by have h_ := congrArg List.length hB; rw [bodyB_pos bk (by assumption) (by assumption)] at h_; simp only [List.length_append] at h_ ⊢; omega) fun aX aY mz mA dX dY dZ => ?_)
    clear dW bw
    have ik : (⟨aX, aY, 5, 1, dn.length + (W (Fld.mk aA aB aC aD ay aE aF aG) (Tree.at_ (Tree.mk n1 s2 b3 l4 u5) k)).length, bc dn ++ bc (W (Fld.mk aA aB aC aD ay aE aF aG) (Tree.at_ (Tree.mk n1 s2 b3 l4 u5) k))⟩ : Rw) = brow aX aY 5 (dn ++ (W (Fld.mk aA aB aC aD ay aE aF aG) (Tree.at_ (Tree.mk n1 s2 b3 l4 u5) k))) := brow_eq (rfl) rfl
    obtain ⟨cq, d5⟩ := dY.rowEq 0 [brow aX aY 5 (dn ++ (W (Fld.mk aA aB aC aD ay aE aF aG) (Tree.at_ (Tree.mk n1 s2 b3 l4 u5) k))), brow cZ c5 5 (W (Fld.mk aA aB aC aD ay aE aF aG) (Tree.at_ (Tree.mk n1 s2 b3 l4 u5) k))] ik
    clear dY
    have d6 := EnvOk.pick dZ (ks := [0, 1, 2, 7, 9, 10, 11, 21, 22, 23, 36, 37, 38, 39, 40, 41, 42, 43, 44]) (env' := [(0, .v (.slice A l.length c)), (1, .v (.int .i64 v)), (2, .v (.bool flex)), (7, .p 0 0), (9, .v (.slice A_ dn.length c_)), (10, .v (.slice none 0 0)), (11, .v (.int .i64 0)), (21, .v (.slice A l.length c)), (22, .v (.int .i64 ((l.length : Nat) : Int))), (23, .v (.int .i64 ((k : Nat) : Int))), (36, .v (.slice A_ dn.length c_)), (37, .v (.agg #[.int .i64 aA, .int .i64 aB, .int .i64 aC, .int .i64 aD, .int .i64 ay, .int .i64 aE, .int .i64 aF, .slice dL aG.length dM])), (38, .v (.int .i64 v)), (39, .v (.bool flex)), (40, .v (.agg #[.int .i64 n1, .slice A6 s2.length c7, .bool b3, .slice A8 l4.length c9, .slice aV u5.length aW])), (41, .v (.int .i64 ((k : Nat) : Int))), (42, .v (.agg #[.int .i64 gG, .slice gL gH.length gM, .bool gI, .slice gN gJ.length gO, .slice gP gK.length gQ])), (43, .v (.slice cZ ((W (Fld.mk aA aB aC aD ay aE aF aG) (Tree.at_ (Tree.mk n1 s2 b3 l4 u5) k)).length) c5)), (44, .v (.slice aX (dn.length + (W (Fld.mk aA aB aC aD ay aE aF aG) (Tree.at_ (Tree.mk n1 s2 b3 l4 u5) k)).length) aY))]) kz
    have d7 := d6.cast (env' := [(0, .v (.slice A l.length c)), (1, .v (.int .i64 v)), (2, .v (.bool flex)), (7, .p 0 0), (9, .v (.slice A_ dn.length c_)), (10, .v (.slice none 0 0)), (11, .v (.int .i64 0)), (21, .v (.slice A l.length c)), (22, .v (.int .i64 ((l.length : Nat) : Int))), (23, .v (.int .i64 ((k : Nat) : Int))), (36, .v (.slice A_ dn.length c_)), (37, .v (.agg #[.int .i64 aA, .int .i64 aB, .int .i64 aC, .int .i64 aD, .int .i64 ay, .int .i64 aE, .int .i64 aF, .slice dL aG.length dM])), (38, .v (.int .i64 v)), (39, .v (.bool flex)), (40, .v (.agg #[.int .i64 n1, .slice A6 s2.length c7, .bool b3, .slice A8 l4.length c9, .slice aV u5.length aW])), (41, .v (.int .i64 ((k : Nat) : Int))), (42, .v (.agg #[.int .i64 gG, .slice gL gH.length gM, .bool gI, .slice gN gJ.length gO, .slice gP gK.length gQ])), (43, .v (.slice cZ ((W (Fld.mk aA aB aC aD ay aE aF aG) (Tree.at_ (Tree.mk n1 s2 b3 l4 u5) k)).length) c5)), (44, .v (.slice aX ((dn ++ (W (Fld.mk aA aB aC aD ay aE aF aG) (Tree.at_ (Tree.mk n1 s2 b3 l4 u5) k))).length) aY))]) (by simp only [List.length_append, List.length_cons, List.length_nil, Nat.zero_add])
    clear dZ
    clear d6
    have il := TT.ofW (((cm.trans c6).trans dX).trans d5) cq
    refine ⟨fun _ => il, ?_⟩
    refine anyC_op (i := 9) kz (wpOp_pure [0, 1, 2, 7, 9, 10, 11, 21, 22, 23] cq.cells d7 (env' := [(0, .v (.slice A l.length c)), (1, .v (.int .i64 v)), (2, .v (.bool flex)), (7, .p 0 0), (9, .v (.slice aX ((dn ++ (W (Fld.mk aA aB aC aD ay aE aF aG) (Tree.at_ (Tree.mk n1 s2 b3 l4 u5) k))).length) aY)), (10, .v (.slice none 0 0)), (11, .v (.int .i64 0)), (21, .v (.slice A l.length c)), (22, .v (.int .i64 ((l.length : Nat) : Int))), (23, .v (.int .i64 ((k : Nat) : Int)))]) kz fun mB d8 => ?_)
    clear d7
    refine ⟨fun h => absurd rfl h, ?_⟩
    refine anyC_done kz ?_ _
    refine block_normal ?_
    refine then_normal ?_
    refine go_region [0, 1] kz ?_
    refine go_rn [0, 1] [] [(0, .v (.slice A l.length c)), (1, .v (.int .i64 v)), (2, .v (.bool flex)), (7, .p 0 0), (9, .v (.slice aX ((dn ++ (W (Fld.mk aA aB aC aD ay aE aF aG) (Tree.at_ (Tree.mk n1 s2 b3 l4 u5) k))).length) aY)), (10, .v (.slice none 0 0)), (11, .v (.int .i64 0)), (21, .v (.slice A l.length c)), (22, .v (.int .i64 ((l.length : Nat) : Int))), (23, .v (.int .i64 (IntKind.i64.wrap (((k : Nat) : Int) + 1))))] cq d8 fun mC im => ?_
    clear d8
    refine wpOps_nil (then_normal ?_)
    obtain ⟨d9, io, ip⟩ := cq.cutB im 1 [⟨cU, 0, [.int .i64 n1, .slice A6 s2.length c7, .bool b3, .slice A8 l4.length c9, .slice aV u5.length aW], true⟩] [(0, .v (.slice A l.length c)), (1, .v (.int .i64 v)), (2, .v (.bool flex)), (7, .p 0 0), (9, .v (.slice aX ((dn ++ (W (Fld.mk aA aB aC aD ay aE aF aG) (Tree.at_ (Tree.mk n1 s2 b3 l4 u5) k))).length) aY)), (10, .v (.slice none 0 0)), (11, .v (.int .i64 0)), (21, .v (.slice A l.length c)), (22, .v (.int .i64 ((l.length : Nat) : Int))), (23, .v (.int .i64 (IntKind.i64.wrap (((k : Nat) : Int) + 1))))]
    obtain ⟨iq, ir⟩ := io.cutR 1 [brow aX aY 5 (dn ++ (W (Fld.mk aA aB aC aD ay aE aF aG) (Tree.at_ (Tree.mk n1 s2 b3 l4 u5) k)))]
    have iu : IntKind.i64.wrap (((k : Nat) : Int) + 1) = ((k + 1 : Nat) : Int) := wrap_succ (by omega)
    rw [iu] at d9
    exact ⟨l.length - (k + 1), by omega, k + 1, aX, aY, dn ++ (W (Fld.mk aA aB aC aD ay aE aF aG) (Tree.at_ (Tree.mk n1 s2 b3 l4 u5) k)), rfl, by omega, by rw [List.append_assoc, ← bodyB_pos bk (by assumption) (by assumption)]; exact hB, d9.pk, iq, ((((((((((gA.trans gD).trans gF).trans dT).trans hZ).trans cm).trans c6).trans dX).trans d5).trans ip).trans ir)⟩
   ·
    refine wp_skip ?_
    refine block_normal ?_
    refine then_normal ?_
    refine go_region [0, 1] kz ?_
    refine go_rn [0, 1] [] [(0, .v (.slice A l.length c)), (1, .v (.int .i64 v)), (2, .v (.bool flex)), (7, .p 0 0), (9, .v (.slice A_ dn.length c_)), (10, .v (.slice none 0 0)), (11, .v (.int .i64 0)), (21, .v (.slice A l.length c)), (22, .v (.int .i64 ((l.length : Nat) : Int))), (23, .v (.int .i64 (IntKind.i64.wrap (((k : Nat) : Int) + 1))))] bo bp fun mD iv => ?_
    clear bp
    refine wpOps_nil (then_normal ?_)
    obtain ⟨ea, iw, ix⟩ := bo.cutB iv 1 [⟨cU, 0, [.int .i64 n1, .slice A6 s2.length c7, .bool b3, .slice A8 l4.length c9, .slice aV u5.length aW], true⟩] [(0, .v (.slice A l.length c)), (1, .v (.int .i64 v)), (2, .v (.bool flex)), (7, .p 0 0), (9, .v (.slice A_ dn.length c_)), (10, .v (.slice none 0 0)), (11, .v (.int .i64 0)), (21, .v (.slice A l.length c)), (22, .v (.int .i64 ((l.length : Nat) : Int))), (23, .v (.int .i64 (IntKind.i64.wrap (((k : Nat) : Int) + 1))))]
    have iy : IntKind.i64.wrap (((k : Nat) : Int) + 1) = ((k + 1 : Nat) : Int) := wrap_succ (by omega)
    rw [iy] at ea
    exact ⟨l.length - (k + 1), by omega, k + 1, A_, c_, dn, rfl, by omega, by rw [← bodyB_neg2 bk (by assumption)]; exact hB, ea.pk, iw, ((((gA.trans gD).trans gF).trans dT).trans ix)⟩
  ·
   have ld := of_decide_eq_false cW
   have eb := dN.cast (env' := [(0, .v (.slice A l.length c)), (1, .v (.int .i64 v)), (2, .v (.bool flex)), (7, .p 0 0), (9, .v (.slice A_ dn.length c_)), (10, .v (.slice none 0 0)), (11, .v (.int .i64 0)), (12, .v (.int .i64 ((k : Nat) : Int))), (13, .p 1 0), (21, .v (.slice A l.length c)), (22, .v (.int .i64 ((l.length : Nat) : Int))), (23, .v (.int .i64 ((k : Nat) : Int))), (31, .v (.bool false))]) (by rw [cW])
   clear dN
   refine go_rn [4, 5, 6, 7] [] [(0, .v (.slice A l.length c)), (1, .v (.int .i64 v)), (2, .v (.bool flex)), (7, .p 0 0), (9, .v (.slice A_ dn.length c_)), (10, .v (.slice none 0 0)), (11, .v (.int .i64 0)), (12, .v (.int .i64 ((k : Nat) : Int))), (13, .p 1 0), (21, .v (.slice A l.length c)), (22, .v (.int .i64 ((l.length : Nat) : Int))), (23, .v (.int .i64 ((k : Nat) : Int))), (35, .v (.bool false))] bn eb fun mF da => ?_
   clear eb
   refine wpOps_nil (then_normal ?_)
   refine cond_false da (b := false) kz rfl ?_
   refine wp_skip ?_
   refine block_normal ?_
   refine then_normal ?_
   refine go_region [0, 1] kz ?_
   refine go_rn [0, 1] [] [(0, .v (.slice A l.length c)), (1, .v (.int .i64 v)), (2, .v (.bool flex)), (7, .p 0 0), (9, .v (.slice A_ dn.length c_)), (10, .v (.slice none 0 0)), (11, .v (.int .i64 0)), (21, .v (.slice A l.length c)), (22, .v (.int .i64 ((l.length : Nat) : Int))), (23, .v (.int .i64 (IntKind.i64.wrap (((k : Nat) : Int) + 1))))] bn da fun mG iz => ?_
   clear da
   refine wpOps_nil (then_normal ?_)
   obtain ⟨ec, iA, iB⟩ := bn.cutB iz 1 [⟨cU, 0, [.int .i64 n1, .slice A6 s2.length c7, .bool b3, .slice A8 l4.length c9, .slice aV u5.length aW], true⟩] [(0, .v (.slice A l.length c)), (1, .v (.int .i64 v)), (2, .v (.bool flex)), (7, .p 0 0), (9, .v (.slice A_ dn.length c_)), (10, .v (.slice none 0 0)), (11, .v (.int .i64 0)), (21, .v (.slice A l.length c)), (22, .v (.int .i64 ((l.length : Nat) : Int))), (23, .v (.int .i64 (IntKind.i64.wrap (((k : Nat) : Int) + 1))))]
   have iC : IntKind.i64.wrap (((k : Nat) : Int) + 1) = ((k + 1 : Nat) : Int) := wrap_succ (by omega)
   rw [iC] at ec
   exact ⟨l.length - (k + 1), by omega, k + 1, A_, c_, dn, rfl, by omega, by rw [← bodyB_neg1 bk (by assumption)]; exact hB, ec.pk, iA, (((gA.trans gD).trans gF).trans iB)⟩
 ·
  have lf := of_decide_eq_false gB
  refine wp_exit ?_
  refine then_exit ?_
  refine then_exit ?_
  refine block_exit ?_
  refine then_normal ?_
  refine wp_seq ?_
  refine go_sp [(0, .v (.slice A l.length c)), (1, .v (.int .i64 v)), (2, .v (.bool flex)), (7, .p 0 0), (9, .v (.slice A_ dn.length c_)), (10, .v (.slice none 0 0)), (11, .v (.int .i64 0)), (47, .v (.bool (!flex)))] ax cV fun mH bx => ?_
  clear cV
  refine cond_of bx (b := !flex) kz (fun cr => ?_) (fun cr => ?_)
  ·
   refine go_sp [(8, .v (.slice A_ dn.length c_))] ax bx fun mI iD => ?_
   clear bx
   refine wp_ret ?_
   refine then_ret ?_
   refine leave iD ax.cells (v := .slice A_ dn.length c_) kz ?_
   exact fresh_end ax (k := 0) rfl (by rw [show flex = false by simpa using cr, partW_old, ← hB, bodyB_end (by omega), List.append_nil])
  ·
   refine wp_skip ?_
   refine then_normal ?_
   refine wp_seq ?_
   refine go_seq_region [0, 1, 2, 3] kz ?_
   refine go_rn [0] [1, 2, 3] [(0, .v (.slice A l.length c)), (1, .v (.int .i64 v)), (2, .v (.bool flex)), (7, .p 0 0), (9, .v (.slice A_ dn.length c_)), (10, .v (.slice none 0 0)), (11, .v (.int .i64 0)), (49, .v (.slice A l.length c))] ax bx fun mJ ee => ?_
   clear bx
   refine of_op (wpOp_call ee (f := 126) (vs := [.slice A l.length c]) (d := 50) kz Tryz.call126 (sKnown _ _ l _ _ ⟨xfs, (h1.move ax.step nilM ax.imm), (fun i_ x_ h_ => ((h2 i_ x_ h_).move ax.step nilM ax.imm))⟩) ?_)
   rintro e_ mK ⟨rfl, ef⟩
   refine ⟨_, rfl, fun mL eg => ?_⟩
   have db := ax.next_nil ef
   have lg := ax.frN ef
   clear ee ax
   refine go_rn [2, 3] [] [(0, .v (.slice A l.length c)), (1, .v (.int .i64 v)), (2, .v (.bool flex)), (7, .p 0 0), (9, .v (.slice A_ dn.length c_)), (10, .v (.slice none 0 0)), (11, .v (.int .i64 0)), (51, .v (.int .i64 (IntKind.i64.wrap (knownI l)))), (52, .v (.int .i64 0))] db eg fun mM dc => ?_
   clear eg
   refine wpOps_nil (then_normal ?_)
   refine wp_block ?_
   have hdn : dn = bodyB W l v (Tree.mk n1 s2 b3 l4 u5) 0 := by rw [← hB, bodyB_end (by omega), List.append_nil]
   have eh : dn = (bodyB W l v (Tree.mk n1 s2 b3 l4 u5) 0) := hdn
   have iE := congrArg (brow A_ c_ 5) eh
   obtain ⟨de, lh⟩ := db.rowEq 0 [brow A_ c_ 5 (bodyB W l v (Tree.mk n1 s2 b3 l4 u5) 0)] iE
   clear db
   rw [eh] at dc
   have hfx : flex = true := by simpa using cr
   have htot2 : (bodyB W l v (Tree.mk n1 s2 b3 l4 u5) 0).length + (uv (tagsN W l (Tree.mk n1 s2 b3 l4 u5) (knownI l).toNat + (unknownT l u5).length)).length + ((tagsK W l (Tree.mk n1 s2 b3 l4 u5) (knownI l).toNat).length + (tagsB (unknownT l u5)).length) ≤ 1099511627776 := by have h_ := hroom; rw [hfx, partW_flex] at h_; simpa only [List.length_append] using h_
   have hmono := fun i (h_ : i ≤ (knownI l).toNat) => tagsK_mono W l (Tree.mk n1 s2 b3 l4 u5) h_
   have hcnt := tagsN_le W l (Tree.mk n1 s2 b3 l4 u5)
   have hknn := known_nat l
   have ei := EnvOk.pick dc (ks := [0, 1, 2, 7, 9, 10, 11, 51, 52]) (env' := [(0, .v (.slice A l.length c)), (1, .v (.int .i64 v)), (2, .v (.bool flex)), (7, .p 0 0), (9, .v (.slice A_ ((bodyB W l v (Tree.mk n1 s2 b3 l4 u5) 0).length) c_)), (10, .v (.slice none 0 0)), (11, .v (.int .i64 0)), (51, .v (.int .i64 (IntKind.i64.wrap (knownI l)))), (52, .v (.int .i64 0))]) kz
   have ej := ei.cast (env' := [(0, .v (.slice A l.length c)), (1, .v (.int .i64 v)), (2, .v (.bool flex)), (7, .p 0 0), (9, .v (.slice A_ ((bodyB W l v (Tree.mk n1 s2 b3 l4 u5) 0).length) c_)), (10, .v (.slice none 0 0)), (11, .v (.int .i64 0)), (51, .v (.int .i64 (((knownI l).toNat : Nat) : Int))), (52, .v (.int .i64 0))]) (by rw [hknn])
   clear dc ei
   have ek := de.addNil 5 1
   have li := de.frNil 5 1
   clear de
   refine wp_loop_ghost (fun n_ a_ w_ => ∃ (k2 : Nat) (A2_ : Option Addr) (c2_ : Nat), n_ = (knownI l).toNat - k2 ∧ k2 ≤ (knownI l).toNat ∧ LInv ek 132 [⟨cU, 0, [.int .i64 n1, .slice A6 s2.length c7, .bool b3, .slice A8 l4.length c9, .slice aV u5.length aW], true⟩] [brow A_ c_ 5 (bodyB W l v (Tree.mk n1 s2 b3 l4 u5) 0), brow A2_ c2_ 5 (tagsK W l (Tree.mk n1 s2 b3 l4 u5) k2)] [(0, .v (.slice A l.length c)), (1, .v (.int .i64 v)), (2, .v (.bool flex)), (7, .p 0 0), (9, .v (.slice A_ ((bodyB W l v (Tree.mk n1 s2 b3 l4 u5) 0).length) c_)), (10, .v (.slice A2_ ((tagsK W l (Tree.mk n1 s2 b3 l4 u5) k2).length) c2_)), (11, .v (.int .i64 ((tagsN W l (Tree.mk n1 s2 b3 l4 u5) k2 : Nat) : Int))), (51, .v (.int .i64 (((knownI l).toNat : Nat) : Int))), (52, .v (.int .i64 ((k2 : Nat) : Int)))] a_ w_) ((knownI l).toNat) ⟨0, none, 0, by omega, by omega, ej.pk, ek, Fr.refl _ _ _⟩ ?_
   clear ej
   rintro mN mO mQ ⟨k2, A2_, c2_, lj, lm, em, al, iF⟩
   refine go_sp [(0, .v (.slice A l.length c)), (1, .v (.int .i64 v)), (2, .v (.bool flex)), (7, .p 0 0), (9, .v (.slice A_ ((bodyB W l v (Tree.mk n1 s2 b3 l4 u5) 0).length) c_)), (10, .v (.slice A2_ ((tagsK W l (Tree.mk n1 s2 b3 l4 u5) k2).length) c2_)), (11, .v (.int .i64 ((tagsN W l (Tree.mk n1 s2 b3 l4 u5) k2 : Nat) : Int))), (51, .v (.int .i64 (((knownI l).toNat : Nat) : Int))), (52, .v (.int .i64 ((k2 : Nat) : Int))), (53, .v (.bool (decide (((k2 : Nat) : Int) < (((knownI l).toNat : Nat) : Int)))))] al em fun mR bz => ?_
   clear em
   refine wp_seq ?_
   refine cond_of bz (b := decide (((k2 : Nat) : Int) < (((knownI l).toNat : Nat) : Int))) kz (fun df => ?_) (fun df => ?_)
   ·
    have ln := of_decide_eq_true df
    refine wp_skip ?_
    refine then_normal ?_
    refine wp_seq ?_
    refine wp_block ?_
    refine go_sp [(0, .v (.slice A l.length c)), (1, .v (.int .i64 v)), (2, .v (.bool flex)), (7, .p 0 0), (9, .v (.slice A_ ((bodyB W l v (Tree.mk n1 s2 b3 l4 u5) 0).length) c_)), (10, .v (.slice A2_ ((tagsK W l (Tree.mk n1 s2 b3 l4 u5) k2).length) c2_)), (11, .v (.int .i64 ((tagsN W l (Tree.mk n1 s2 b3 l4 u5) k2 : Nat) : Int))), (14, .v (.int .i64 ((k2 : Nat) : Int))), (51, .v (.int .i64 (((knownI l).toNat : Nat) : Int))), (52, .v (.int .i64 ((k2 : Nat) : Int)))] al bz fun mS eo => ?_
    clear bz
    refine go_sp [(0, .v (.slice A l.length c)), (1, .v (.int .i64 v)), (2, .v (.bool flex)), (7, .p 0 0), (9, .v (.slice A_ ((bodyB W l v (Tree.mk n1 s2 b3 l4 u5) 0).length) c_)), (10, .v (.slice A2_ ((tagsK W l (Tree.mk n1 s2 b3 l4 u5) k2).length) c2_)), (11, .v (.int .i64 ((tagsN W l (Tree.mk n1 s2 b3 l4 u5) k2 : Nat) : Int))), (14, .v (.int .i64 ((k2 : Nat) : Int))), (51, .v (.int .i64 (((knownI l).toNat : Nat) : Int))), (52, .v (.int .i64 ((k2 : Nat) : Int))), (55, .v (.slice A l.length c)), (56, .v (.int .i64 ((l.length : Nat) : Int))), (57, .v (.int .i64 0))] al eo fun mT dg => ?_
    clear eo
    refine wp_block ?_
    have ep : (tagsK W l (Tree.mk n1 s2 b3 l4 u5) k2) = (tagsK W l (Tree.mk n1 s2 b3 l4 u5) k2 ++ []) := (List.append_nil _).symm
    have iG := congrArg (brow A2_ c2_ 5) ep
    obtain ⟨eu, iH⟩ := al.rowEq 1 [brow A_ c_ 5 (bodyB W l v (Tree.mk n1 s2 b3 l4 u5) 0), brow A2_ c2_ 5 (tagsK W l (Tree.mk n1 s2 b3 l4 u5) k2 ++ [])] iG
    clear al
    rw [ep] at dg
    have hm2 := hmono (k2 + 1) (by omega)
    rw [tagsK, List.length_append] at hm2
    have hc2 := hcnt (k2 + 1)
    rw [tagsN, tagsK, List.length_append] at hc2
    have hc3 := tagN_le W k2 (Tree.mk n1 s2 b3 l4 u5) l 0
    refine wp_loop_ghost (fun n_ a_ w_ => ∃ (q : Nat) (A3_ : Option Addr) (c3_ : Nat) (dm : Bs) (cn : Nat), n_ = l.length - q ∧ q ≤ l.length ∧ (dm ++ tagB W (l.drop q) k2 (Tree.mk n1 s2 b3 l4 u5) q = tagB W l k2 (Tree.mk n1 s2 b3 l4 u5) 0) ∧ (cn + tagN W (l.drop q) k2 (Tree.mk n1 s2 b3 l4 u5) q = tagN W l k2 (Tree.mk n1 s2 b3 l4 u5) 0) ∧ LInv eu 132 [⟨cU, 0, [.int .i64 n1, .slice A6 s2.length c7, .bool b3, .slice A8 l4.length c9, .slice aV u5.length aW], true⟩] [brow A_ c_ 5 (bodyB W l v (Tree.mk n1 s2 b3 l4 u5) 0), brow A3_ c3_ 5 (tagsK W l (Tree.mk n1 s2 b3 l4 u5) k2 ++ dm)] [(0, .v (.slice A l.length c)), (1, .v (.int .i64 v)), (2, .v (.bool flex)), (7, .p 0 0), (9, .v (.slice A_ ((bodyB W l v (Tree.mk n1 s2 b3 l4 u5) 0).length) c_)), (10, .v (.slice A3_ ((tagsK W l (Tree.mk n1 s2 b3 l4 u5) k2 ++ dm).length) c3_)), (11, .v (.int .i64 ((tagsN W l (Tree.mk n1 s2 b3 l4 u5) k2 + cn : Nat) : Int))), (14, .v (.int .i64 ((k2 : Nat) : Int))), (51, .v (.int .i64 (((knownI l).toNat : Nat) : Int))), (52, .v (.int .i64 ((k2 : Nat) : Int))), (55, .v (.slice A l.length c)), (56, .v (.int .i64 ((l.length : Nat) : Int))), (57, .v (.int .i64 ((q : Nat) : Int)))] a_ w_) (l.length) ⟨0, A2_, c2_, [], 0, by omega, by omega, rfl, Nat.zero_add _, dg.pk, eu, Fr.refl _ _ _⟩ ?_
    clear dg
    rintro mU mV mW ⟨q, A3_, c3_, dm, cn, lp, lq, hB2, hN2, ev, aM, cu⟩
    refine go_sp [(0, .v (.slice A l.length c)), (1, .v (.int .i64 v)), (2, .v (.bool flex)), (7, .p 0 0), (9, .v (.slice A_ ((bodyB W l v (Tree.mk n1 s2 b3 l4 u5) 0).length) c_)), (10, .v (.slice A3_ ((tagsK W l (Tree.mk n1 s2 b3 l4 u5) k2 ++ dm).length) c3_)), (11, .v (.int .i64 ((tagsN W l (Tree.mk n1 s2 b3 l4 u5) k2 + cn : Nat) : Int))), (14, .v (.int .i64 ((k2 : Nat) : Int))), (51, .v (.int .i64 (((knownI l).toNat : Nat) : Int))), (52, .v (.int .i64 ((k2 : Nat) : Int))), (55, .v (.slice A l.length c)), (56, .v (.int .i64 ((l.length : Nat) : Int))), (57, .v (.int .i64 ((q : Nat) : Int))), (58, .v (.bool (decide (((q : Nat) : Int) < ((l.length : Nat) : Int)))))] aM ev fun mX bA => ?_
    clear ev
    refine wp_seq ?_
    refine cond_of bA (b := decide (((q : Nat) : Int) < ((l.length : Nat) : Int))) kz (fun dh => ?_) (fun dh => ?_)
    ·
     have lr := of_decide_eq_true dh
     refine wp_skip ?_
     refine then_normal ?_
     refine wp_seq ?_
     refine wp_block ?_
     refine go_seq_region [0, 1, 2, 3, 4, 5] kz ?_
     refine go_rn [0] [1, 2, 3, 4, 5] [(0, .v (.slice A l.length c)), (1, .v (.int .i64 v)), (2, .v (.bool flex)), (7, .p 0 0), (9, .v (.slice A_ ((bodyB W l v (Tree.mk n1 s2 b3 l4 u5) 0).length) c_)), (10, .v (.slice A3_ ((tagsK W l (Tree.mk n1 s2 b3 l4 u5) k2 ++ dm).length) c3_)), (11, .v (.int .i64 ((tagsN W l (Tree.mk n1 s2 b3 l4 u5) k2 + cn : Nat) : Int))), (14, .v (.int .i64 ((k2 : Nat) : Int))), (51, .v (.int .i64 (((knownI l).toNat : Nat) : Int))), (52, .v (.int .i64 ((k2 : Nat) : Int))), (55, .v (.slice A l.length c)), (56, .v (.int .i64 ((l.length : Nat) : Int))), (57, .v (.int .i64 ((q : Nat) : Int))), (59, .v (.int .i64 ((q : Nat) : Int)))] aM bA fun mY ew => ?_
     clear bA
     obtain ⟨kg, kh, iI, ls, di⟩ := Slots.get h1 (i := q) (by omega)
     obtain ⟨ki, ap⟩ : ∃ x, l[q]? = some x := ⟨_, List.getElem?_eq_getElem (by omega)⟩
     have cw := h2 q ki ap
     obtain ⟨ab, ac, ae, af, aa, ag, ah, ai, bB, bC, lu, rfl, dj, kj, mZ⟩ := cw.open_
     rw [dj] at cw
     have km := kj.small
     rw [dj] at di
     refine of_op (wpOp_index ew (t := 29) (A := A) (m := l.length) (q := ((q : Nat) : Int)) (d := 60) kz (e := 52) (size := 8) (bytes := 80) kz iI rfl (by omega) fun m4 ey => ?_)
     clear ew
     refine of_op (wpOp_load ey (t := 52) (b := kg) (o := kh + q * 8) (d := 61) kz (cs := [.int .i64 ab, .int .i64 ac, .int .i64 ae, .int .i64 af, .int .i64 aa, .int .i64 ag, .int .i64 ah, .slice bB ai.length bC]) (v := .agg #[.int .i64 ab, .int .i64 ac, .int .i64 ae, .int .i64 af, .int .i64 aa, .int .i64 ag, .int .i64 ah, .slice bB ai.length bC]) kz (AtF.move di aM.step nilM keepF).at_ fun m5 ez => ?_)
     clear ey
     refine of_op (wpOp_alloc aM ez (d := 16) (cs := [.int .i64 0, .int .i64 0, .int .i64 0, .int .i64 0, .int .i64 0, .int .i64 0, .int .i64 0, .slice none 0 0]) kz fun m6 m7 m8 lv lw dl dp eB => ?_)
     clear ez aM
     refine go_rn [4] [5] [(0, .v (.slice A l.length c)), (1, .v (.int .i64 v)), (2, .v (.bool flex)), (7, .p 0 0), (9, .v (.slice A_ ((bodyB W l v (Tree.mk n1 s2 b3 l4 u5) 0).length) c_)), (10, .v (.slice A3_ ((tagsK W l (Tree.mk n1 s2 b3 l4 u5) k2 ++ dm).length) c3_)), (11, .v (.int .i64 ((tagsN W l (Tree.mk n1 s2 b3 l4 u5) k2 + cn : Nat) : Int))), (14, .v (.int .i64 ((k2 : Nat) : Int))), (15, .v (.int .i64 ((q : Nat) : Int))), (16, .p 1 0), (51, .v (.int .i64 (((knownI l).toNat : Nat) : Int))), (52, .v (.int .i64 ((k2 : Nat) : Int))), (55, .v (.slice A l.length c)), (56, .v (.int .i64 ((l.length : Nat) : Int))), (57, .v (.int .i64 ((q : Nat) : Int))), (61, .v (.agg #[.int .i64 ab, .int .i64 ac, .int .i64 ae, .int .i64 af, .int .i64 aa, .int .i64 ag, .int .i64 ah, .slice bB ai.length bC]))] dp eB fun m9 eC => ?_
     clear eB
     refine of_op (wpOp_store dp eC (oi := 1) (cs := [.int .i64 ab, .int .i64 ac, .int .i64 ae, .int .i64 af, .int .i64 aa, .int .i64 ag, .int .i64 ah, .slice bB ai.length bC]) kz fun nf dq eD eE => ?_)
     clear eC dp
     refine wpOps_nil (then_normal ?_)
     refine go_seq_drawK 12 kz eD fun ng dr aO dt => ?_
     clear eD
     refine go_rnD [0, 1, 2, 3, 4] [(0, .v (.slice A l.length c)), (1, .v (.int .i64 v)), (2, .v (.bool flex)), (7, .p 0 0), (9, .v (.slice A_ ((bodyB W l v (Tree.mk n1 s2 b3 l4 u5) 0).length) c_)), (10, .v (.slice A3_ ((tagsK W l (Tree.mk n1 s2 b3 l4 u5) k2 ++ dm).length) c3_)), (11, .v (.int .i64 ((tagsN W l (Tree.mk n1 s2 b3 l4 u5) k2 + cn : Nat) : Int))), (14, .v (.int .i64 ((k2 : Nat) : Int))), (15, .v (.int .i64 ((q : Nat) : Int))), (16, .p 1 0), (51, .v (.int .i64 (((knownI l).toNat : Nat) : Int))), (52, .v (.int .i64 ((k2 : Nat) : Int))), (55, .v (.slice A l.length c)), (56, .v (.int .i64 ((l.length : Nat) : Int))), (57, .v (.int .i64 ((q : Nat) : Int))), (66, .v (.bool (aa == ((k2 : Nat) : Int))))] 7 (panicFree_then (panicFree_block (panicFree_then (panicFree_then (panicFree_block (panicFree_block (panicFree_then (panicFree_then (panicFree_block (panicFree_then panicFree_body)))))))))) (fun _ h => h.cells) dt eE fun nh cz => ?_
     clear eE
     refine (Bool.eq_false_or_eq_true (aa == ((k2 : Nat) : Int))).elim (fun bD => ?_) (fun bD => ?_)
     ·
      have lx : aa = ((k2 : Nat) : Int) := by simpa using bD
      have eF := cz.cast (env' := [(0, .v (.slice A l.length c)), (1, .v (.int .i64 v)), (2, .v (.bool flex)), (7, .p 0 0), (9, .v (.slice A_ ((bodyB W l v (Tree.mk n1 s2 b3 l4 u5) 0).length) c_)), (10, .v (.slice A3_ ((tagsK W l (Tree.mk n1 s2 b3 l4 u5) k2 ++ dm).length) c3_)), (11, .v (.int .i64 ((tagsN W l (Tree.mk n1 s2 b3 l4 u5) k2 + cn : Nat) : Int))), (14, .v (.int .i64 ((k2 : Nat) : Int))), (15, .v (.int .i64 ((q : Nat) : Int))), (16, .p 1 0), (51, .v (.int .i64 (((knownI l).toNat : Nat) : Int))), (52, .v (.int .i64 ((k2 : Nat) : Int))), (55, .v (.slice A l.length c)), (56, .v (.int .i64 ((l.length : Nat) : Int))), (57, .v (.int .i64 ((q : Nat) : Int))), (66, .v (.bool true))]) (by rw [bD])
      clear cz
      refine go_rnD [5, 6, 7] [(0, .v (.slice A l.length c)), (1, .v (.int .i64 v)), (2, .v (.bool flex)), (7, .p 0 0), (9, .v (.slice A_ ((bodyB W l v (Tree.mk n1 s2 b3 l4 u5) 0).length) c_)), (10, .v (.slice A3_ ((tagsK W l (Tree.mk n1 s2 b3 l4 u5) k2 ++ dm).length) c3_)), (11, .v (.int .i64 ((tagsN W l (Tree.mk n1 s2 b3 l4 u5) k2 + cn : Nat) : Int))), (14, .v (.int .i64 ((k2 : Nat) : Int))), (15, .v (.int .i64 ((q : Nat) : Int))), (16, .p 1 0), (51, .v (.int .i64 (((knownI l).toNat : Nat) : Int))), (52, .v (.int .i64 ((k2 : Nat) : Int))), (55, .v (.slice A l.length c)), (56, .v (.int .i64 ((l.length : Nat) : Int))), (57, .v (.int .i64 ((q : Nat) : Int))), (66, .v (.bool true)), (67, .v (.agg #[.int .i64 ab, .int .i64 ac, .int .i64 ae, .int .i64 af, .int .i64 aa, .int .i64 ag, .int .i64 ah, .slice bB ai.length bC])), (68, .v (.agg #[.int .i64 n1, .slice A6 s2.length c7, .bool b3, .slice A8 l4.length c9, .slice aV u5.length aW])), (69, .v (.int .i64 ((q : Nat) : Int)))] 4 (panicFree_then (panicFree_block (panicFree_then (panicFree_then (panicFree_block (panicFree_block (panicFree_then (panicFree_then (panicFree_block (panicFree_then panicFree_body)))))))))) (fun _ h => h.cells) dt eF fun ni eG => ?_
      clear eF
      refine anyC_op (i := 8) kz (wpOp_call eG (f := 57) (vs := [.agg #[.int .i64 n1, .slice A6 s2.length c7, .bool b3, .slice A8 l4.length c9, .slice aV u5.length aW], .int .i64 ((q : Nat) : Int)]) (d := 70) kz Tryz.call57 (sAt _ _ q _ _ (ht.move aO.step nilM aO.imm)) ?_)
      rintro e_ nj ⟨ly, rfl, iJ, bE⟩
      have du := iJ.move bE nilM (fun b o h_ hb_ => aO.laid (G := F) bE b o (.inl h_) (Nat.lt_of_lt_of_le hb_ bE.size))
      obtain ⟨ko, kp, kq, ku, kv, kw, kx, ky, kA, kB, kC, lz, lA, dv, kD, kE, nk, nl⟩ := du.open_
      rw [dv] at du
      have kF := kD.small
      have kG := kE.small
      rw [dv]
      refine ⟨_, rfl, fun nm eH => ?_⟩
      have aZ := aO.next_nil bE
      have cA := aO.frN bE
      clear eG
      have iK := TT.ofW cA aZ
      refine ⟨fun _ => iK, ?_⟩
      refine anyC_op (i := 9) kz (wpOp_call eH (f := 59) (vs := [.agg #[.int .i64 ab, .int .i64 ac, .int .i64 ae, .int .i64 af, .int .i64 aa, .int .i64 ag, .int .i64 ah, .slice bB ai.length bC], .agg #[.int .i64 ko, .slice kw kp.length kx, .bool kq, .slice ky ku.length kA, .slice kB kv.length kC]]) (d := 71) kz Tryz.call59 (sUsual _ _ _ _ _ _ _ (cw.move aZ.step nilM aZ.imm) (Nat.le_refl _) du) ?_)
      rintro e_ np ⟨rfl, eI⟩
      refine ⟨_, rfl, fun nr eJ => ?_⟩
      have bF := aZ.next_nil eI
      have dw := aZ.frN eI
      clear eH aZ
      have eK := TT.ofW (cA.trans dw) bF
      refine ⟨fun _ => eK, ?_⟩
      refine go_rnD [10, 11] [(0, .v (.slice A l.length c)), (1, .v (.int .i64 v)), (2, .v (.bool flex)), (7, .p 0 0), (9, .v (.slice A_ ((bodyB W l v (Tree.mk n1 s2 b3 l4 u5) 0).length) c_)), (10, .v (.slice A3_ ((tagsK W l (Tree.mk n1 s2 b3 l4 u5) k2 ++ dm).length) c3_)), (11, .v (.int .i64 ((tagsN W l (Tree.mk n1 s2 b3 l4 u5) k2 + cn : Nat) : Int))), (14, .v (.int .i64 ((k2 : Nat) : Int))), (15, .v (.int .i64 ((q : Nat) : Int))), (16, .p 1 0), (51, .v (.int .i64 (((knownI l).toNat : Nat) : Int))), (52, .v (.int .i64 ((k2 : Nat) : Int))), (55, .v (.slice A l.length c)), (56, .v (.int .i64 ((l.length : Nat) : Int))), (57, .v (.int .i64 ((q : Nat) : Int))), (73, .v (.bool (!(Fld.usual (Fld.mk ab ac ae af aa ag ah ai) (Tree.at_ (Tree.mk n1 s2 b3 l4 u5) q)))))] 0 (panicFree_then (panicFree_block (panicFree_then (panicFree_then (panicFree_block (panicFree_block (panicFree_then (panicFree_then (panicFree_block (panicFree_then panicFree_body)))))))))) (fun _ h => h.cells) eK eJ fun ns bG => ?_
      clear eJ
      refine anyC_done kz ?_ _
      refine then_normal ?_
      refine cond_of bG (b := !(Fld.usual (Fld.mk ab ac ae af aa ag ah ai) (Tree.at_ (Tree.mk n1 s2 b3 l4 u5) q))) kz (fun az => ?_) (fun az => ?_)
      ·
       refine go_seq_drawK 7 kz bF fun nt iL bH iM => ?_
       clear bF
       refine go_rnD [0, 1, 2, 3, 4] [(0, .v (.slice A l.length c)), (1, .v (.int .i64 v)), (2, .v (.bool flex)), (7, .p 0 0), (9, .v (.slice A_ ((bodyB W l v (Tree.mk n1 s2 b3 l4 u5) 0).length) c_)), (10, .v (.slice A3_ ((tagsK W l (Tree.mk n1 s2 b3 l4 u5) k2 ++ dm).length) c3_)), (11, .v (.int .i64 ((tagsN W l (Tree.mk n1 s2 b3 l4 u5) k2 + cn : Nat) : Int))), (14, .v (.int .i64 ((k2 : Nat) : Int))), (51, .v (.int .i64 (((knownI l).toNat : Nat) : Int))), (52, .v (.int .i64 ((k2 : Nat) : Int))), (55, .v (.slice A l.length c)), (56, .v (.int .i64 ((l.length : Nat) : Int))), (57, .v (.int .i64 ((q : Nat) : Int))), (74, .v (.agg #[.int .i64 ab, .int .i64 ac, .int .i64 ae, .int .i64 af, .int .i64 aa, .int .i64 ag, .int .i64 ah, .slice bB ai.length bC])), (75, .v (.int .i64 v)), (76, .v (.bool flex)), (77, .v (.agg #[.int .i64 n1, .slice A6 s2.length c7, .bool b3, .slice A8 l4.length c9, .slice aV u5.length aW])), (78, .v (.int .i64 ((q : Nat) : Int)))] 3 (panicFree_then (panicFree_block (panicFree_then (panicFree_then (panicFree_block (panicFree_block (panicFree_then (panicFree_then (panicFree_block (panicFree_then panicFree_body)))))))))) (fun _ h => h.cells) iM bG fun nu eL => ?_
       clear bG
       refine anyC_op (i := 5) kz (wpOp_call eL (f := 57) (vs := [.agg #[.int .i64 n1, .slice A6 s2.length c7, .bool b3, .slice A8 l4.length c9, .slice aV u5.length aW], .int .i64 ((q : Nat) : Int)]) (d := 79) kz Tryz.call57 (sAt _ _ q _ _ (ht.move bH.step nilM bH.imm)) ?_)
       rintro e_ nv ⟨lB, rfl, iN, bI⟩
       have dx := iN.move bI nilM (fun b o h_ hb_ => bH.laid (G := F) bI b o (.inl h_) (Nat.lt_of_lt_of_le hb_ bI.size))
       obtain ⟨kH, kI, kJ, kK, kL, kM, kN, kO, kP, kQ, kR, lC, lD, dy, kS, kT, nw, nx⟩ := dx.open_
       rw [dy] at dx
       have kU := kS.small
       have kV := kT.small
       rw [dy]
       refine ⟨_, rfl, fun ny eM => ?_⟩
       have bJ := bH.next_nil bI
       have dz := bH.frN bI
       clear eL
       have iO := TT.ofW dz bJ
       refine ⟨fun _ => iO, ?_⟩
       refine anyC_op (i := 6) kz (wpOp_call eM (f := 125) (vs := [.agg #[.int .i64 ab, .int .i64 ac, .int .i64 ae, .int .i64 af, .int .i64 aa, .int .i64 ag, .int .i64 ah, .slice bB ai.length bC], .int .i64 v, .bool flex, .agg #[.int .i64 kH, .slice kM kI.length kN, .bool kJ, .slice kO kK.length kP, .slice kQ kL.length kR]]) (d := 80) kz Tryz.call125 ( hW_ _ _ _ _ _ _ (List.mem_of_getElem? ap) (cw.move bJ.step nilM bJ.imm) dx (by have h_ := congrArg List.length hB2; rw [tagB_pos ap (by omega) (by simpa using az)] at h_; simp only [List.length_append] at h_; omega)) ?_)
       rintro e_ nz ⟨av, aw, rfl, iP, iQ⟩
       refine ⟨_, rfl, fun nA eN => ?_⟩
       obtain ⟨bK, eO⟩ := bJ.frFresh iQ (brow av aw 5 (W (Fld.mk ab ac ae af aa ag ah ai) (Tree.at_ (Tree.mk n1 s2 b3 l4 u5) q))) (Nat.le_refl _) iP
       clear eM bJ
       have kW : (W (Fld.mk ab ac ae af aa ag ah ai) (Tree.at_ (Tree.mk n1 s2 b3 l4 u5) q)).length ≤ 1099511627776 := by have h_ := congrArg List.length hB2; rw [tagB_pos ap (by omega) (by simpa using az)] at h_; simp only [List.length_append] at h_; omega
       have iR := TT.ofW (dz.trans eO) bK
       refine ⟨fun _ => iR, ?_⟩
       refine anyC_op (i := 7) kz (wpOp_pure [0, 1, 2, 7, 9, 10, 11, 14, 17, 51, 52, 55, 56, 57] bK.cells eN (env' := [(0, .v (.slice A l.length c)), (1, .v (.int .i64 v)), (2, .v (.bool flex)), (7, .p 0 0), (9, .v (.slice A_ ((bodyB W l v (Tree.mk n1 s2 b3 l4 u5) 0).length) c_)), (10, .v (.slice A3_ ((tagsK W l (Tree.mk n1 s2 b3 l4 u5) k2 ++ dm).length) c3_)), (11, .v (.int .i64 ((tagsN W l (Tree.mk n1 s2 b3 l4 u5) k2 + cn : Nat) : Int))), (14, .v (.int .i64 ((k2 : Nat) : Int))), (17, .v (.slice av ((W (Fld.mk ab ac ae af aa ag ah ai) (Tree.at_ (Tree.mk n1 s2 b3 l4 u5) q)).length) aw)), (51, .v (.int .i64 (((knownI l).toNat : Nat) : Int))), (52, .v (.int .i64 ((k2 : Nat) : Int))), (55, .v (.slice A l.length c)), (56, .v (.int .i64 ((l.length : Nat) : Int))), (57, .v (.int .i64 ((q : Nat) : Int)))]) kz fun nB eP => ?_)
       clear eN
       refine ⟨fun h => absurd rfl h, ?_⟩
       refine anyC_done kz ?_ _
       refine then_normal ?_
       refine go_seq_region [0, 1, 2, 3, 4, 5, 6, 7, 8, 9, 10, 11, 12] kz ?_
       refine go_rn [0, 1, 2] [3, 4, 5, 6, 7, 8, 9, 10, 11, 12] [(0, .v (.slice A l.length c)), (1, .v (.int .i64 v)), (2, .v (.bool flex)), (7, .p 0 0), (9, .v (.slice A_ ((bodyB W l v (Tree.mk n1 s2 b3 l4 u5) 0).length) c_)), (11, .v (.int .i64 ((tagsN W l (Tree.mk n1 s2 b3 l4 u5) k2 + cn : Nat) : Int))), (14, .v (.int .i64 ((k2 : Nat) : Int))), (17, .v (.slice av ((W (Fld.mk ab ac ae af aa ag ah ai) (Tree.at_ (Tree.mk n1 s2 b3 l4 u5) q)).length) aw)), (51, .v (.int .i64 (((knownI l).toNat : Nat) : Int))), (52, .v (.int .i64 ((k2 : Nat) : Int))), (55, .v (.slice A l.length c)), (56, .v (.int .i64 ((l.length : Nat) : Int))), (57, .v (.int .i64 ((q : Nat) : Int))), (81, .v (.slice A3_ ((tagsK W l (Tree.mk n1 s2 b3 l4 u5) k2 ++ dm).length) c3_)), (83, .v (.int .u64 (IntKind.u64.wrap ((k2 : Nat) : Int))))] bK eP fun nC eQ => ?_
       clear eP
       have iS : IntKind.u64.wrap ((k2 : Nat) : Int) = ((k2 : Nat) : Int) := by simp only [wrap_u64, wrap_u32, wrap_u16, IntKind.wrap_i64, IntKind.wrap_i32]; omega
       have eR := EnvOk.pick eQ (ks := [0, 1, 2, 7, 9, 11, 14, 17, 51, 52, 55, 56, 57, 81, 83]) (env' := [(0, .v (.slice A l.length c)), (1, .v (.int .i64 v)), (2, .v (.bool flex)), (7, .p 0 0), (9, .v (.slice A_ ((bodyB W l v (Tree.mk n1 s2 b3 l4 u5) 0).length) c_)), (11, .v (.int .i64 ((tagsN W l (Tree.mk n1 s2 b3 l4 u5) k2 + cn : Nat) : Int))), (14, .v (.int .i64 ((k2 : Nat) : Int))), (17, .v (.slice av ((W (Fld.mk ab ac ae af aa ag ah ai) (Tree.at_ (Tree.mk n1 s2 b3 l4 u5) q)).length) aw)), (51, .v (.int .i64 (((knownI l).toNat : Nat) : Int))), (52, .v (.int .i64 ((k2 : Nat) : Int))), (55, .v (.slice A l.length c)), (56, .v (.int .i64 ((l.length : Nat) : Int))), (57, .v (.int .i64 ((q : Nat) : Int))), (81, .v (.slice A3_ ((tagsK W l (Tree.mk n1 s2 b3 l4 u5) k2 ++ dm).length) c3_)), (83, .v (.int .u64 (IntKind.u64.wrap ((k2 : Nat) : Int))))]) kz
       have eS := eR.cast (env' := [(0, .v (.slice A l.length c)), (1, .v (.int .i64 v)), (2, .v (.bool flex)), (7, .p 0 0), (9, .v (.slice A_ ((bodyB W l v (Tree.mk n1 s2 b3 l4 u5) 0).length) c_)), (11, .v (.int .i64 ((tagsN W l (Tree.mk n1 s2 b3 l4 u5) k2 + cn : Nat) : Int))), (14, .v (.int .i64 ((k2 : Nat) : Int))), (17, .v (.slice av ((W (Fld.mk ab ac ae af aa ag ah ai) (Tree.at_ (Tree.mk n1 s2 b3 l4 u5) q)).length) aw)), (51, .v (.int .i64 (((knownI l).toNat : Nat) : Int))), (52, .v (.int .i64 ((k2 : Nat) : Int))), (55, .v (.slice A l.length c)), (56, .v (.int .i64 ((l.length : Nat) : Int))), (57, .v (.int .i64 ((q : Nat) : Int))), (81, .v (.slice A3_ ((tagsK W l (Tree.mk n1 s2 b3 l4 u5) k2 ++ dm).length) c3_)), (83, .v (.int .u64 ((k2 : Nat) : Int)))]) (by rw [iS])
       clear eQ eR
       refine of_op (wpOp_call eS (f := 127) (vs := [.int .u64 ((k2 : Nat) : Int)]) (d := 84) kz Tryz.call127 (sUvarint k2 (by omega) _) ?_)
       rintro e_ nD ⟨bX, bY, rfl, iT, iU⟩
       refine ⟨_, rfl, fun nE eU => ?_⟩
       obtain ⟨cB, iV⟩ := bK.frFresh iU (brow bX bY 5 (uv k2)) (Nat.le_refl _) iT
       clear eS bK
       refine of_op (wpOp_append cB eU (k := 1) (d := 85) (t := 22) (e := 5) (size := 1) (bytes := 1) (A := A3_) (As := bX) (m0 := ((tagsK W l (Tree.mk n1 s2 b3 l4 u5) k2 ++ dm).length)) (c := c3_) (m := ((uv k2).length)) (cs := bY) (xs := (bc (tagsK W l (Tree.mk n1 s2 b3 l4 u5) k2 ++ dm))) (news := bc (uv k2)) kz kz rfl (own_src (cB.own 3 _ rfl) (bc_one _)) (own_cap (cB.own 3 _ rfl)) (by have h_ := congrArg List.length hB2; rw [tagB_pos ap (by omega) (by simpa using az)] at h_; simp only [List.length_append] at h_ ⊢; omega) fun aP aQ nF nG iW eV eW => ?_)
       clear eU cB
       have iX : (⟨aP, aQ, 5, 1, (tagsK W l (Tree.mk n1 s2 b3 l4 u5) k2 ++ dm).length + (uv k2).length, bc (tagsK W l (Tree.mk n1 s2 b3 l4 u5) k2 ++ dm) ++ bc (uv k2)⟩ : Rw) = brow aP aQ 5 (tagsK W l (Tree.mk n1 s2 b3 l4 u5) k2 ++ dm ++ (uv k2)) := brow_eq (rfl) rfl
       obtain ⟨dA, iY⟩ := eV.rowEq 1 [brow A_ c_ 5 (bodyB W l v (Tree.mk n1 s2 b3 l4 u5) 0), brow aP aQ 5 (tagsK W l (Tree.mk n1 s2 b3 l4 u5) k2 ++ dm ++ (uv k2)), brow av aw 5 (W (Fld.mk ab ac ae af aa ag ah ai) (Tree.at_ (Tree.mk n1 s2 b3 l4 u5) q)), brow bX bY 5 (uv k2)] iX
       clear eV
       have eX := EnvOk.pick eW (ks := [0, 1, 2, 7, 9, 11, 14, 17, 51, 52, 55, 56, 57, 81, 83, 84, 85]) (env' := [(0, .v (.slice A l.length c)), (1, .v (.int .i64 v)), (2, .v (.bool flex)), (7, .p 0 0), (9, .v (.slice A_ ((bodyB W l v (Tree.mk n1 s2 b3 l4 u5) 0).length) c_)), (11, .v (.int .i64 ((tagsN W l (Tree.mk n1 s2 b3 l4 u5) k2 + cn : Nat) : Int))), (14, .v (.int .i64 ((k2 : Nat) : Int))), (17, .v (.slice av ((W (Fld.mk ab ac ae af aa ag ah ai) (Tree.at_ (Tree.mk n1 s2 b3 l4 u5) q)).length) aw)), (51, .v (.int .i64 (((knownI l).toNat : Nat) : Int))), (52, .v (.int .i64 ((k2 : Nat) : Int))), (55, .v (.slice A l.length c)), (56, .v (.int .i64 ((l.length : Nat) : Int))), (57, .v (.int .i64 ((q : Nat) : Int))), (81, .v (.slice A3_ ((tagsK W l (Tree.mk n1 s2 b3 l4 u5) k2 ++ dm).length) c3_)), (83, .v (.int .u64 ((k2 : Nat) : Int))), (84, .v (.slice bX ((uv k2).length) bY)), (85, .v (.slice aP ((tagsK W l (Tree.mk n1 s2 b3 l4 u5) k2 ++ dm).length + (uv k2).length) aQ))]) kz
       have eY := eX.cast (env' := [(0, .v (.slice A l.length c)), (1, .v (.int .i64 v)), (2, .v (.bool flex)), (7, .p 0 0), (9, .v (.slice A_ ((bodyB W l v (Tree.mk n1 s2 b3 l4 u5) 0).length) c_)), (11, .v (.int .i64 ((tagsN W l (Tree.mk n1 s2 b3 l4 u5) k2 + cn : Nat) : Int))), (14, .v (.int .i64 ((k2 : Nat) : Int))), (17, .v (.slice av ((W (Fld.mk ab ac ae af aa ag ah ai) (Tree.at_ (Tree.mk n1 s2 b3 l4 u5) q)).length) aw)), (51, .v (.int .i64 (((knownI l).toNat : Nat) : Int))), (52, .v (.int .i64 ((k2 : Nat) : Int))), (55, .v (.slice A l.length c)), (56, .v (.int .i64 ((l.length : Nat) : Int))), (57, .v (.int .i64 ((q : Nat) : Int))), (81, .v (.slice A3_ ((tagsK W l (Tree.mk n1 s2 b3 l4 u5) k2 ++ dm).length) c3_)), (83, .v (.int .u64 ((k2 : Nat) : Int))), (84, .v (.slice bX ((uv k2).length) bY)), (85, .v (.slice aP ((tagsK W l (Tree.mk n1 s2 b3 l4 u5) k2 ++ dm ++ (uv k2)).length) aQ))]) (by simp only [List.length_append, List.length_cons, List.length_nil, Nat.zero_add])
       clear eW
       clear eX
       refine go_rn [5, 6, 7] [8, 9, 10, 11, 12] [(0, .v (.slice A l.length c)), (1, .v (.int .i64 v)), (2, .v (.bool flex)), (7, .p 0 0), (9, .v (.slice A_ ((bodyB W l v (Tree.mk n1 s2 b3 l4 u5) 0).length) c_)), (11, .v (.int .i64 ((tagsN W l (Tree.mk n1 s2 b3 l4 u5) k2 + cn : Nat) : Int))), (14, .v (.int .i64 ((k2 : Nat) : Int))), (17, .v (.slice av ((W (Fld.mk ab ac ae af aa ag ah ai) (Tree.at_ (Tree.mk n1 s2 b3 l4 u5) q)).length) aw)), (51, .v (.int .i64 (((knownI l).toNat : Nat) : Int))), (52, .v (.int .i64 ((k2 : Nat) : Int))), (55, .v (.slice A l.length c)), (56, .v (.int .i64 ((l.length : Nat) : Int))), (57, .v (.int .i64 ((q : Nat) : Int))), (85, .v (.slice aP ((tagsK W l (Tree.mk n1 s2 b3 l4 u5) k2 ++ dm ++ (uv k2)).length) aQ)), (88, .v (.int .u64 (IntKind.u64.wrap (((W (Fld.mk ab ac ae af aa ag ah ai) (Tree.at_ (Tree.mk n1 s2 b3 l4 u5) q)).length : Nat) : Int))))] dA eY fun nH eZ => ?_
       clear eY
       have iZ : IntKind.u64.wrap (((W (Fld.mk ab ac ae af aa ag ah ai) (Tree.at_ (Tree.mk n1 s2 b3 l4 u5) q)).length : Nat) : Int) = (((W (Fld.mk ab ac ae af aa ag ah ai) (Tree.at_ (Tree.mk n1 s2 b3 l4 u5) q)).length : Nat) : Int) := by simp only [wrap_u64, wrap_u32, wrap_u16, IntKind.wrap_i64, IntKind.wrap_i32]; omega
       have e9 := EnvOk.pick eZ (ks := [0, 1, 2, 7, 9, 11, 14, 17, 51, 52, 55, 56, 57, 85, 88]) (env' := [(0, .v (.slice A l.length c)), (1, .v (.int .i64 v)), (2, .v (.bool flex)), (7, .p 0 0), (9, .v (.slice A_ ((bodyB W l v (Tree.mk n1 s2 b3 l4 u5) 0).length) c_)), (11, .v (.int .i64 ((tagsN W l (Tree.mk n1 s2 b3 l4 u5) k2 + cn : Nat) : Int))), (14, .v (.int .i64 ((k2 : Nat) : Int))), (17, .v (.slice av ((W (Fld.mk ab ac ae af aa ag ah ai) (Tree.at_ (Tree.mk n1 s2 b3 l4 u5) q)).length) aw)), (51, .v (.int .i64 (((knownI l).toNat : Nat) : Int))), (52, .v (.int .i64 ((k2 : Nat) : Int))), (55, .v (.slice A l.length c)), (56, .v (.int .i64 ((l.length : Nat) : Int))), (57, .v (.int .i64 ((q : Nat) : Int))), (85, .v (.slice aP ((tagsK W l (Tree.mk n1 s2 b3 l4 u5) k2 ++ dm ++ (uv k2)).length) aQ)), (88, .v (.int .u64 (IntKind.u64.wrap (((W (Fld.mk ab ac ae af aa ag ah ai) (Tree.at_ (Tree.mk n1 s2 b3 l4 u5) q)).length : Nat) : Int))))]) kz
       have fa := e9.cast (env' := [(0, .v (.slice A l.length c)), (1, .v (.int .i64 v)), (2, .v (.bool flex)), (7, .p 0 0), (9, .v (.slice A_ ((bodyB W l v (Tree.mk n1 s2 b3 l4 u5) 0).length) c_)), (11, .v (.int .i64 ((tagsN W l (Tree.mk n1 s2 b3 l4 u5) k2 + cn : Nat) : Int))), (14, .v (.int .i64 ((k2 : Nat) : Int))), (17, .v (.slice av ((W (Fld.mk ab ac ae af aa ag ah ai) (Tree.at_ (Tree.mk n1 s2 b3 l4 u5) q)).length) aw)), (51, .v (.int .i64 (((knownI l).toNat : Nat) : Int))), (52, .v (.int .i64 ((k2 : Nat) : Int))), (55, .v (.slice A l.length c)), (56, .v (.int .i64 ((l.length : Nat) : Int))), (57, .v (.int .i64 ((q : Nat) : Int))), (85, .v (.slice aP ((tagsK W l (Tree.mk n1 s2 b3 l4 u5) k2 ++ dm ++ (uv k2)).length) aQ)), (88, .v (.int .u64 (((W (Fld.mk ab ac ae af aa ag ah ai) (Tree.at_ (Tree.mk n1 s2 b3 l4 u5) q)).length : Nat) : Int)))]) (by rw [iZ])
       clear eZ e9
       refine of_op (wpOp_call fa (f := 127) (vs := [.int .u64 (((W (Fld.mk ab ac ae af aa ag ah ai) (Tree.at_ (Tree.mk n1 s2 b3 l4 u5) q)).length : Nat) : Int)]) (d := 89) kz Tryz.call127 (sUvarint ((W (Fld.mk ab ac ae af aa ag ah ai) (Tree.at_ (Tree.mk n1 s2 b3 l4 u5) q)).length) (by omega) _) ?_)
       rintro e_ nI ⟨cO, cP, rfl, i6, i7⟩
       refine ⟨_, rfl, fun nJ fb => ?_⟩
       obtain ⟨cC, ja⟩ := dA.frFresh i7 (brow cO cP 5 (uv ((W (Fld.mk ab ac ae af aa ag ah ai) (Tree.at_ (Tree.mk n1 s2 b3 l4 u5) q)).length))) (Nat.le_refl _) i6
       clear fa dA
       refine of_op (wpOp_append cC fb (k := 1) (d := 90) (t := 22) (e := 5) (size := 1) (bytes := 1) (A := aP) (As := cO) (m0 := ((tagsK W l (Tree.mk n1 s2 b3 l4 u5) k2 ++ dm ++ (uv k2)).length)) (c := aQ) (m := ((uv ((W (Fld.mk ab ac ae af aa ag ah ai) (Tree.at_ (Tree.mk n1 s2 b3 l4 u5) q)).length)).length)) (cs := cP) (xs := (bc (tagsK W l (Tree.mk n1 s2 b3 l4 u5) k2 ++ dm ++ (uv k2)))) (news := bc (uv ((W (Fld.mk ab ac ae af aa ag ah ai) (Tree.at_ (Tree.mk n1 s2 b3 l4 u5) q)).length))) kz kz rfl (own_src (cC.own 4 _ rfl) (bc_one _)) (own_cap (cC.own 4 _ rfl)) (by have h_ := congrArg List.length hB2; rw [tagB_pos ap (by omega) (by simpa using az)] at h_; simp only [List.length_append] at h_ ⊢; omega) fun bd bf nK nL jb fe ff => ?_)
       clear fb cC
       have jc : (⟨bd, bf, 5, 1, (tagsK W l (Tree.mk n1 s2 b3 l4 u5) k2 ++ dm ++ (uv k2)).length + (uv ((W (Fld.mk ab ac ae af aa ag ah ai) (Tree.at_ (Tree.mk n1 s2 b3 l4 u5) q)).length)).length, bc (tagsK W l (Tree.mk n1 s2 b3 l4 u5) k2 ++ dm ++ (uv k2)) ++ bc (uv ((W (Fld.mk ab ac ae af aa ag ah ai) (Tree.at_ (Tree.mk n1 s2 b3 l4 u5) q)).length))⟩ : Rw) = brow bd bf 5 (tagsK W l (Tree.mk n1 s2 b3 l4 u5) k2 ++ dm ++ (uv k2) ++ (uv ((W (Fld.mk ab ac ae af aa ag ah ai) (Tree.at_ (Tree.mk n1 s2 b3 l4 u5) q)).length))) := brow_eq (rfl) rfl
       obtain ⟨bL, jd⟩ := fe.rowEq 1 [brow A_ c_ 5 (bodyB W l v (Tree.mk n1 s2 b3 l4 u5) 0), brow bd bf 5 (tagsK W l (Tree.mk n1 s2 b3 l4 u5) k2 ++ dm ++ (uv k2) ++ (uv ((W (Fld.mk ab ac ae af aa ag ah ai) (Tree.at_ (Tree.mk n1 s2 b3 l4 u5) q)).length))), brow av aw 5 (W (Fld.mk ab ac ae af aa ag ah ai) (Tree.at_ (Tree.mk n1 s2 b3 l4 u5) q)), brow bX bY 5 (uv k2), brow cO cP 5 (uv ((W (Fld.mk ab ac ae af aa ag ah ai) (Tree.at_ (Tree.mk n1 s2 b3 l4 u5) q)).length))] jc
       clear fe
       have fg := EnvOk.pick ff (ks := [0, 1, 2, 7, 9, 11, 14, 17, 51, 52, 55, 56, 57, 85, 88, 89, 90]) (env' := [(0, .v (.slice A l.length c)), (1, .v (.int .i64 v)), (2, .v (.bool flex)), (7, .p 0 0), (9, .v (.slice A_ ((bodyB W l v (Tree.mk n1 s2 b3 l4 u5) 0).length) c_)), (11, .v (.int .i64 ((tagsN W l (Tree.mk n1 s2 b3 l4 u5) k2 + cn : Nat) : Int))), (14, .v (.int .i64 ((k2 : Nat) : Int))), (17, .v (.slice av ((W (Fld.mk ab ac ae af aa ag ah ai) (Tree.at_ (Tree.mk n1 s2 b3 l4 u5) q)).length) aw)), (51, .v (.int .i64 (((knownI l).toNat : Nat) : Int))), (52, .v (.int .i64 ((k2 : Nat) : Int))), (55, .v (.slice A l.length c)), (56, .v (.int .i64 ((l.length : Nat) : Int))), (57, .v (.int .i64 ((q : Nat) : Int))), (85, .v (.slice aP ((tagsK W l (Tree.mk n1 s2 b3 l4 u5) k2 ++ dm ++ (uv k2)).length) aQ)), (88, .v (.int .u64 (((W (Fld.mk ab ac ae af aa ag ah ai) (Tree.at_ (Tree.mk n1 s2 b3 l4 u5) q)).length : Nat) : Int))), (89, .v (.slice cO ((uv ((W (Fld.mk ab ac ae af aa ag ah ai) (Tree.at_ (Tree.mk n1 s2 b3 l4 u5) q)).length)).length) cP)), (90, .v (.slice bd ((tagsK W l (Tree.mk n1 s2 b3 l4 u5) k2 ++ dm ++ (uv k2)).length + (uv ((W (Fld.mk ab ac ae af aa ag ah ai) (Tree.at_ (Tree.mk n1 s2 b3 l4 u5) q)).length)).length) bf))]) kz
       have fh := fg.cast (env' := [(0, .v (.slice A l.length c)), (1, .v (.int .i64 v)), (2, .v (.bool flex)), (7, .p 0 0), (9, .v (.slice A_ ((bodyB W l v (Tree.mk n1 s2 b3 l4 u5) 0).length) c_)), (11, .v (.int .i64 ((tagsN W l (Tree.mk n1 s2 b3 l4 u5) k2 + cn : Nat) : Int))), (14, .v (.int .i64 ((k2 : Nat) : Int))), (17, .v (.slice av ((W (Fld.mk ab ac ae af aa ag ah ai) (Tree.at_ (Tree.mk n1 s2 b3 l4 u5) q)).length) aw)), (51, .v (.int .i64 (((knownI l).toNat : Nat) : Int))), (52, .v (.int .i64 ((k2 : Nat) : Int))), (55, .v (.slice A l.length c)), (56, .v (.int .i64 ((l.length : Nat) : Int))), (57, .v (.int .i64 ((q : Nat) : Int))), (85, .v (.slice aP ((tagsK W l (Tree.mk n1 s2 b3 l4 u5) k2 ++ dm ++ (uv k2)).length) aQ)), (88, .v (.int .u64 (((W (Fld.mk ab ac ae af aa ag ah ai) (Tree.at_ (Tree.mk n1 s2 b3 l4 u5) q)).length : Nat) : Int))), (89, .v (.slice cO ((uv ((W (Fld.mk ab ac ae af aa ag ah ai) (Tree.at_ (Tree.mk n1 s2 b3 l4 u5) q)).length)).length) cP)), (90, .v (.slice bd ((tagsK W l (Tree.mk n1 s2 b3 l4 u5) k2 ++ dm ++ (uv k2) ++ (uv ((W (Fld.mk ab ac ae af aa ag ah ai) (Tree.at_ (Tree.mk n1 s2 b3 l4 u5) q)).length))).length) bf))]) (by simp only [List.length_append, List.length_cons, List.length_nil, Nat.zero_add])
       clear ff
       clear fg
       refine go_rn [10] [11, 12] [(0, .v (.slice A l.length c)), (1, .v (.int .i64 v)), (2, .v (.bool flex)), (7, .p 0 0), (9, .v (.slice A_ ((bodyB W l v (Tree.mk n1 s2 b3 l4 u5) 0).length) c_)), (11, .v (.int .i64 ((tagsN W l (Tree.mk n1 s2 b3 l4 u5) k2 + cn : Nat) : Int))), (14, .v (.int .i64 ((k2 : Nat) : Int))), (51, .v (.int .i64 (((knownI l).toNat : Nat) : Int))), (52, .v (.int .i64 ((k2 : Nat) : Int))), (55, .v (.slice A l.length c)), (56, .v (.int .i64 ((l.length : Nat) : Int))), (57, .v (.int .i64 ((q : Nat) : Int))), (90, .v (.slice bd ((tagsK W l (Tree.mk n1 s2 b3 l4 u5) k2 ++ dm ++ (uv k2) ++ (uv ((W (Fld.mk ab ac ae af aa ag ah ai) (Tree.at_ (Tree.mk n1 s2 b3 l4 u5) q)).length))).length) bf)), (91, .v (.slice av ((W (Fld.mk ab ac ae af aa ag ah ai) (Tree.at_ (Tree.mk n1 s2 b3 l4 u5) q)).length) aw))] bL fh fun nM fi => ?_
       clear fh
       refine of_op (wpOp_append bL fi (k := 1) (d := 92) (t := 22) (e := 5) (size := 1) (bytes := 1) (A := bd) (As := av) (m0 := ((tagsK W l (Tree.mk n1 s2 b3 l4 u5) k2 ++ dm ++ (uv k2) ++ (uv ((W (Fld.mk ab ac ae af aa ag ah ai) (Tree.at_ (Tree.mk n1 s2 b3 l4 u5) q)).length))).length)) (c := bf) (m := ((W (Fld.mk ab ac ae af aa ag ah ai) (Tree.at_ (Tree.mk n1 s2 b3 l4 u5) q)).length)) (cs := aw) (xs := (bc (tagsK W l (Tree.mk n1 s2 b3 l4 u5) k2 ++ dm ++ (uv k2) ++ (uv ((W (Fld.mk ab ac ae af aa ag ah ai) (Tree.at_ (Tree.mk n1 s2 b3 l4 u5) q)).length))))) (news := bc (W (Fld.mk ab ac ae af aa ag ah ai) (Tree.at_ (Tree.mk n1 s2 b3 l4 u5) q))) kz kz rfl (own_src (bL.own 2 _ rfl) (bc_one _)) (own_cap (bL.own 2 _ rfl)) (by have h_ := congrArg List.length hB2; rw [tagB_pos ap (by omega) (by simpa using az)] at h_; simp only [List.length_append] at h_ ⊢; omega) fun aI aJ nN nO je fj fk => ?_)
       clear fi bL
       have jf : (⟨aI, aJ, 5, 1, (tagsK W l (Tree.mk n1 s2 b3 l4 u5) k2 ++ dm ++ (uv k2) ++ (uv ((W (Fld.mk ab ac ae af aa ag ah ai) (Tree.at_ (Tree.mk n1 s2 b3 l4 u5) q)).length))).length + (W (Fld.mk ab ac ae af aa ag ah ai) (Tree.at_ (Tree.mk n1 s2 b3 l4 u5) q)).length, bc (tagsK W l (Tree.mk n1 s2 b3 l4 u5) k2 ++ dm ++ (uv k2) ++ (uv ((W (Fld.mk ab ac ae af aa ag ah ai) (Tree.at_ (Tree.mk n1 s2 b3 l4 u5) q)).length))) ++ bc (W (Fld.mk ab ac ae af aa ag ah ai) (Tree.at_ (Tree.mk n1 s2 b3 l4 u5) q))⟩ : Rw) = brow aI aJ 5 (tagsK W l (Tree.mk n1 s2 b3 l4 u5) k2 ++ dm ++ (uv k2) ++ (uv ((W (Fld.mk ab ac ae af aa ag ah ai) (Tree.at_ (Tree.mk n1 s2 b3 l4 u5) q)).length)) ++ (W (Fld.mk ab ac ae af aa ag ah ai) (Tree.at_ (Tree.mk n1 s2 b3 l4 u5) q))) := brow_eq (rfl) rfl
       obtain ⟨cD, jg⟩ := fj.rowEq 1 [brow A_ c_ 5 (bodyB W l v (Tree.mk n1 s2 b3 l4 u5) 0), brow aI aJ 5 (tagsK W l (Tree.mk n1 s2 b3 l4 u5) k2 ++ dm ++ (uv k2) ++ (uv ((W (Fld.mk ab ac ae af aa ag ah ai) (Tree.at_ (Tree.mk n1 s2 b3 l4 u5) q)).length)) ++ (W (Fld.mk ab ac ae af aa ag ah ai) (Tree.at_ (Tree.mk n1 s2 b3 l4 u5) q))), brow av aw 5 (W (Fld.mk ab ac ae af aa ag ah ai) (Tree.at_ (Tree.mk n1 s2 b3 l4 u5) q)), brow bX bY 5 (uv k2), brow cO cP 5 (uv ((W (Fld.mk ab ac ae af aa ag ah ai) (Tree.at_ (Tree.mk n1 s2 b3 l4 u5) q)).length))] jf
       clear fj
       have fm := EnvOk.pick fk (ks := [0, 1, 2, 7, 9, 11, 14, 51, 52, 55, 56, 57, 90, 91, 92]) (env' := [(0, .v (.slice A l.length c)), (1, .v (.int .i64 v)), (2, .v (.bool flex)), (7, .p 0 0), (9, .v (.slice A_ ((bodyB W l v (Tree.mk n1 s2 b3 l4 u5) 0).length) c_)), (11, .v (.int .i64 ((tagsN W l (Tree.mk n1 s2 b3 l4 u5) k2 + cn : Nat) : Int))), (14, .v (.int .i64 ((k2 : Nat) : Int))), (51, .v (.int .i64 (((knownI l).toNat : Nat) : Int))), (52, .v (.int .i64 ((k2 : Nat) : Int))), (55, .v (.slice A l.length c)), (56, .v (.int .i64 ((l.length : Nat) : Int))), (57, .v (.int .i64 ((q : Nat) : Int))), (90, .v (.slice bd ((tagsK W l (Tree.mk n1 s2 b3 l4 u5) k2 ++ dm ++ (uv k2) ++ (uv ((W (Fld.mk ab ac ae af aa ag ah ai) (Tree.at_ (Tree.mk n1 s2 b3 l4 u5) q)).length))).length) bf)), (91, .v (.slice av ((W (Fld.mk ab ac ae af aa ag ah ai) (Tree.at_ (Tree.mk n1 s2 b3 l4 u5) q)).length) aw)), (92, .v (.slice aI ((tagsK W l (Tree.mk n1 s2 b3 l4 u5) k2 ++ dm ++ (uv k2) ++ (uv ((W (Fld.mk ab ac ae af aa ag ah ai) (Tree.at_ (Tree.mk n1 s2 b3 l4 u5) q)).length))).length + (W (Fld.mk ab ac ae af aa ag ah ai) (Tree.at_ (Tree.mk n1 s2 b3 l4 u5) q)).length) aJ))]) kz
       have fo := fm.cast (env' := [(0, .v (.slice A l.length c)), (1, .v (.int .i64 v)), (2, .v (.bool flex)), (7, .p 0 0), (9, .v (.slice A_ ((bodyB W l v (Tree.mk n1 s2 b3 l4 u5) 0).length) c_)), (11, .v (.int .i64 ((tagsN W l (Tree.mk n1 s2 b3 l4 u5) k2 + cn : Nat) : Int))), (14, .v (.int .i64 ((k2 : Nat) : Int))), (51, .v (.int .i64 (((knownI l).toNat : Nat) : Int))), (52, .v (.int .i64 ((k2 : Nat) : Int))), (55, .v (.slice A l.length c)), (56, .v (.int .i64 ((l.length : Nat) : Int))), (57, .v (.int .i64 ((q : Nat) : Int))), (90, .v (.slice bd ((tagsK W l (Tree.mk n1 s2 b3 l4 u5) k2 ++ dm ++ (uv k2) ++ (uv ((W (Fld.mk ab ac ae af aa ag ah ai) (Tree.at_ (Tree.mk n1 s2 b3 l4 u5) q)).length))).length) bf)), (91, .v (.slice av ((W (Fld.mk ab ac ae af aa ag ah ai) (Tree.at_ (Tree.mk n1 s2 b3 l4 u5) q)).length) aw)), (92, .v (.slice aI ((tagsK W l (Tree.mk n1 s2 b3 l4 u5) k2 ++ dm ++ (uv k2) ++ (uv ((W (Fld.mk ab ac ae af aa ag ah ai) (Tree.at_ (Tree.mk n1 s2 b3 l4 u5) q)).length)) ++ (W (Fld.mk ab ac ae af aa ag ah ai) (Tree.at_ (Tree.mk n1 s2 b3 l4 u5) q))).length) aJ))]) (by simp only [List.length_append, List.length_cons, List.length_nil, Nat.zero_add])
       clear fk
       clear fm
       refine go_rn [12] [] [(0, .v (.slice A l.length c)), (1, .v (.int .i64 v)), (2, .v (.bool flex)), (7, .p 0 0), (9, .v (.slice A_ ((bodyB W l v (Tree.mk n1 s2 b3 l4 u5) 0).length) c_)), (10, .v (.slice aI ((tagsK W l (Tree.mk n1 s2 b3 l4 u5) k2 ++ dm ++ (uv k2) ++ (uv ((W (Fld.mk ab ac ae af aa ag ah ai) (Tree.at_ (Tree.mk n1 s2 b3 l4 u5) q)).length)) ++ (W (Fld.mk ab ac ae af aa ag ah ai) (Tree.at_ (Tree.mk n1 s2 b3 l4 u5) q))).length) aJ)), (11, .v (.int .i64 ((tagsN W l (Tree.mk n1 s2 b3 l4 u5) k2 + cn : Nat) : Int))), (14, .v (.int .i64 ((k2 : Nat) : Int))), (51, .v (.int .i64 (((knownI l).toNat : Nat) : Int))), (52, .v (.int .i64 ((k2 : Nat) : Int))), (55, .v (.slice A l.length c)), (56, .v (.int .i64 ((l.length : Nat) : Int))), (57, .v (.int .i64 ((q : Nat) : Int)))] cD fo fun nP fq => ?_
       clear fo
       refine wpOps_nil (then_normal ?_)
       refine go_region [0, 1, 2] kz ?_
       refine go_rn [0, 1, 2] [] [(0, .v (.slice A l.length c)), (1, .v (.int .i64 v)), (2, .v (.bool flex)), (7, .p 0 0), (9, .v (.slice A_ ((bodyB W l v (Tree.mk n1 s2 b3 l4 u5) 0).length) c_)), (10, .v (.slice aI ((tagsK W l (Tree.mk n1 s2 b3 l4 u5) k2 ++ dm ++ (uv k2) ++ (uv ((W (Fld.mk ab ac ae af aa ag ah ai) (Tree.at_ (Tree.mk n1 s2 b3 l4 u5) q)).length)) ++ (W (Fld.mk ab ac ae af aa ag ah ai) (Tree.at_ (Tree.mk n1 s2 b3 l4 u5) q))).length) aJ)), (11, .v (.int .i64 (IntKind.i64.wrap (((tagsN W l (Tree.mk n1 s2 b3 l4 u5) k2 + cn : Nat) : Int) + 1)))), (14, .v (.int .i64 ((k2 : Nat) : Int))), (51, .v (.int .i64 (((knownI l).toNat : Nat) : Int))), (52, .v (.int .i64 ((k2 : Nat) : Int))), (55, .v (.slice A l.length c)), (56, .v (.int .i64 ((l.length : Nat) : Int))), (57, .v (.int .i64 ((q : Nat) : Int)))] cD fq fun nQ fr => ?_
       clear fq
       refine wpOps_nil ?_
       refine block_normal ?_
       refine then_normal ?_
       refine go_region [0, 1] kz ?_
       refine go_rn [0, 1] [] [(0, .v (.slice A l.length c)), (1, .v (.int .i64 v)), (2, .v (.bool flex)), (7, .p 0 0), (9, .v (.slice A_ ((bodyB W l v (Tree.mk n1 s2 b3 l4 u5) 0).length) c_)), (10, .v (.slice aI ((tagsK W l (Tree.mk n1 s2 b3 l4 u5) k2 ++ dm ++ (uv k2) ++ (uv ((W (Fld.mk ab ac ae af aa ag ah ai) (Tree.at_ (Tree.mk n1 s2 b3 l4 u5) q)).length)) ++ (W (Fld.mk ab ac ae af aa ag ah ai) (Tree.at_ (Tree.mk n1 s2 b3 l4 u5) q))).length) aJ)), (11, .v (.int .i64 (IntKind.i64.wrap (((tagsN W l (Tree.mk n1 s2 b3 l4 u5) k2 + cn : Nat) : Int) + 1)))), (14, .v (.int .i64 ((k2 : Nat) : Int))), (51, .v (.int .i64 (((knownI l).toNat : Nat) : Int))), (52, .v (.int .i64 ((k2 : Nat) : Int))), (55, .v (.slice A l.length c)), (56, .v (.int .i64 ((l.length : Nat) : Int))), (57, .v (.int .i64 (IntKind.i64.wrap (((q : Nat) : Int) + 1))))] cD fr fun nR jh => ?_
       clear fr
       refine wpOps_nil (then_normal ?_)
       obtain ⟨cE, ji, jj⟩ := cD.cutB jh 1 [⟨cU, 0, [.int .i64 n1, .slice A6 s2.length c7, .bool b3, .slice A8 l4.length c9, .slice aV u5.length aW], true⟩] [(0, .v (.slice A l.length c)), (1, .v (.int .i64 v)), (2, .v (.bool flex)), (7, .p 0 0), (9, .v (.slice A_ ((bodyB W l v (Tree.mk n1 s2 b3 l4 u5) 0).length) c_)), (10, .v (.slice aI ((tagsK W l (Tree.mk n1 s2 b3 l4 u5) k2 ++ dm ++ (uv k2) ++ (uv ((W (Fld.mk ab ac ae af aa ag ah ai) (Tree.at_ (Tree.mk n1 s2 b3 l4 u5) q)).length)) ++ (W (Fld.mk ab ac ae af aa ag ah ai) (Tree.at_ (Tree.mk n1 s2 b3 l4 u5) q))).length) aJ)), (11, .v (.int .i64 (IntKind.i64.wrap (((tagsN W l (Tree.mk n1 s2 b3 l4 u5) k2 + cn : Nat) : Int) + 1)))), (14, .v (.int .i64 ((k2 : Nat) : Int))), (51, .v (.int .i64 (((knownI l).toNat : Nat) : Int))), (52, .v (.int .i64 ((k2 : Nat) : Int))), (55, .v (.slice A l.length c)), (56, .v (.int .i64 ((l.length : Nat) : Int))), (57, .v (.int .i64 (IntKind.i64.wrap (((q : Nat) : Int) + 1))))]
       obtain ⟨ft, jk⟩ := ji.cutR 2 [brow A_ c_ 5 (bodyB W l v (Tree.mk n1 s2 b3 l4 u5) 0), brow aI aJ 5 (tagsK W l (Tree.mk n1 s2 b3 l4 u5) k2 ++ dm ++ (uv k2) ++ (uv ((W (Fld.mk ab ac ae af aa ag ah ai) (Tree.at_ (Tree.mk n1 s2 b3 l4 u5) q)).length)) ++ (W (Fld.mk ab ac ae af aa ag ah ai) (Tree.at_ (Tree.mk n1 s2 b3 l4 u5) q)))]
       have fu : (tagsK W l (Tree.mk n1 s2 b3 l4 u5) k2 ++ dm ++ (uv k2) ++ (uv ((W (Fld.mk ab ac ae af aa ag ah ai) (Tree.at_ (Tree.mk n1 s2 b3 l4 u5) q)).length)) ++ (W (Fld.mk ab ac ae af aa ag ah ai) (Tree.at_ (Tree.mk n1 s2 b3 l4 u5) q))) = (tagsK W l (Tree.mk n1 s2 b3 l4 u5) k2 ++ (dm ++ (uv k2 ++ uv (W (Fld.mk ab ac ae af aa ag ah ai) (Tree.at_ (Tree.mk n1 s2 b3 l4 u5) q)).length ++ W (Fld.mk ab ac ae af aa ag ah ai) (Tree.at_ (Tree.mk n1 s2 b3 l4 u5) q)))) := by simp only [List.append_assoc]
       have jl := congrArg (brow aI aJ 5) fu
       obtain ⟨jm, jn⟩ := ft.rowEq 1 [brow A_ c_ 5 (bodyB W l v (Tree.mk n1 s2 b3 l4 u5) 0), brow aI aJ 5 (tagsK W l (Tree.mk n1 s2 b3 l4 u5) k2 ++ (dm ++ (uv k2 ++ uv (W (Fld.mk ab ac ae af aa ag ah ai) (Tree.at_ (Tree.mk n1 s2 b3 l4 u5) q)).length ++ W (Fld.mk ab ac ae af aa ag ah ai) (Tree.at_ (Tree.mk n1 s2 b3 l4 u5) q))))] jl
       clear ft
       rw [fu] at cE
       have jo : IntKind.i64.wrap (((q : Nat) : Int) + 1) = ((q + 1 : Nat) : Int) := wrap_succ (by omega)
       rw [jo] at cE
       have jp : IntKind.i64.wrap (((tagsN W l (Tree.mk n1 s2 b3 l4 u5) k2 + cn : Nat) : Int) + 1) = ((tagsN W l (Tree.mk n1 s2 b3 l4 u5) k2 + (cn + 1) : Nat) : Int) := by rw [wrap_i64 (by omega) (by omega)]; omega
       rw [jp] at cE
       exact ⟨l.length - (q + 1), by omega, q + 1, aI, aJ, (dm ++ (uv k2 ++ uv (W (Fld.mk ab ac ae af aa ag ah ai) (Tree.at_ (Tree.mk n1 s2 b3 l4 u5) q)).length ++ W (Fld.mk ab ac ae af aa ag ah ai) (Tree.at_ (Tree.mk n1 s2 b3 l4 u5) q))), (cn + 1), rfl, by omega, by rw [List.append_assoc, ← tagB_pos ap (by omega) (by simpa using az)]; exact hB2, by rw [Nat.add_assoc, ← tagN_pos ap (by omega) (by simpa using az)]; exact hN2, cE.pk, jm, (((((((((((((((((((cu.trans dl).trans dq).trans dr).trans cA).trans dw).trans iL).trans dz).trans eO).trans iV).trans iW).trans iY).trans ja).trans jb).trans jd).trans je).trans jg).trans jj).trans jk).trans jn)⟩
      ·
       refine wp_skip ?_
       refine block_normal ?_
       refine then_normal ?_
       refine go_region [0, 1] kz ?_
       refine go_rn [0, 1] [] [(0, .v (.slice A l.length c)), (1, .v (.int .i64 v)), (2, .v (.bool flex)), (7, .p 0 0), (9, .v (.slice A_ ((bodyB W l v (Tree.mk n1 s2 b3 l4 u5) 0).length) c_)), (10, .v (.slice A3_ ((tagsK W l (Tree.mk n1 s2 b3 l4 u5) k2 ++ dm).length) c3_)), (11, .v (.int .i64 ((tagsN W l (Tree.mk n1 s2 b3 l4 u5) k2 + cn : Nat) : Int))), (14, .v (.int .i64 ((k2 : Nat) : Int))), (51, .v (.int .i64 (((knownI l).toNat : Nat) : Int))), (52, .v (.int .i64 ((k2 : Nat) : Int))), (55, .v (.slice A l.length c)), (56, .v (.int .i64 ((l.length : Nat) : Int))), (57, .v (.int .i64 (IntKind.i64.wrap (((q : Nat) : Int) + 1))))] bF bG fun nS jq => ?_
       clear bG
       refine wpOps_nil (then_normal ?_)
       obtain ⟨fv, jr, js⟩ := bF.cutB jq 1 [⟨cU, 0, [.int .i64 n1, .slice A6 s2.length c7, .bool b3, .slice A8 l4.length c9, .slice aV u5.length aW], true⟩] [(0, .v (.slice A l.length c)), (1, .v (.int .i64 v)), (2, .v (.bool flex)), (7, .p 0 0), (9, .v (.slice A_ ((bodyB W l v (Tree.mk n1 s2 b3 l4 u5) 0).length) c_)), (10, .v (.slice A3_ ((tagsK W l (Tree.mk n1 s2 b3 l4 u5) k2 ++ dm).length) c3_)), (11, .v (.int .i64 ((tagsN W l (Tree.mk n1 s2 b3 l4 u5) k2 + cn : Nat) : Int))), (14, .v (.int .i64 ((k2 : Nat) : Int))), (51, .v (.int .i64 (((knownI l).toNat : Nat) : Int))), (52, .v (.int .i64 ((k2 : Nat) : Int))), (55, .v (.slice A l.length c)), (56, .v (.int .i64 ((l.length : Nat) : Int))), (57, .v (.int .i64 (IntKind.i64.wrap (((q : Nat) : Int) + 1))))]
       have jt : IntKind.i64.wrap (((q : Nat) : Int) + 1) = ((q + 1 : Nat) : Int) := wrap_succ (by omega)
       rw [jt] at fv
       exact ⟨l.length - (q + 1), by omega, q + 1, A3_, c3_, dm, cn, rfl, by omega, by rw [← tagB_neg2 ap (by simpa using az)]; exact hB2, by rw [← tagN_neg2 ap (by simpa using az)]; exact hN2, fv.pk, jr, ((((((cu.trans dl).trans dq).trans dr).trans cA).trans dw).trans js)⟩
     ·
      have lE : aa ≠ ((k2 : Nat) : Int) := by simpa using bD
      have fw := cz.cast (env' := [(0, .v (.slice A l.length c)), (1, .v (.int .i64 v)), (2, .v (.bool flex)), (7, .p 0 0), (9, .v (.slice A_ ((bodyB W l v (Tree.mk n1 s2 b3 l4 u5) 0).length) c_)), (10, .v (.slice A3_ ((tagsK W l (Tree.mk n1 s2 b3 l4 u5) k2 ++ dm).length) c3_)), (11, .v (.int .i64 ((tagsN W l (Tree.mk n1 s2 b3 l4 u5) k2 + cn : Nat) : Int))), (14, .v (.int .i64 ((k2 : Nat) : Int))), (15, .v (.int .i64 ((q : Nat) : Int))), (16, .p 1 0), (51, .v (.int .i64 (((knownI l).toNat : Nat) : Int))), (52, .v (.int .i64 ((k2 : Nat) : Int))), (55, .v (.slice A l.length c)), (56, .v (.int .i64 ((l.length : Nat) : Int))), (57, .v (.int .i64 ((q : Nat) : Int))), (66, .v (.bool false))]) (by rw [bD])
      clear cz
      refine go_rnD [5, 6, 7, 8, 9, 10, 11] [(0, .v (.slice A l.length c)), (1, .v (.int .i64 v)), (2, .v (.bool flex)), (7, .p 0 0), (9, .v (.slice A_ ((bodyB W l v (Tree.mk n1 s2 b3 l4 u5) 0).length) c_)), (10, .v (.slice A3_ ((tagsK W l (Tree.mk n1 s2 b3 l4 u5) k2 ++ dm).length) c3_)), (11, .v (.int .i64 ((tagsN W l (Tree.mk n1 s2 b3 l4 u5) k2 + cn : Nat) : Int))), (14, .v (.int .i64 ((k2 : Nat) : Int))), (15, .v (.int .i64 ((q : Nat) : Int))), (16, .p 1 0), (51, .v (.int .i64 (((knownI l).toNat : Nat) : Int))), (52, .v (.int .i64 ((k2 : Nat) : Int))), (55, .v (.slice A l.length c)), (56, .v (.int .i64 ((l.length : Nat) : Int))), (57, .v (.int .i64 ((q : Nat) : Int))), (73, .v (.bool false))] 0 (panicFree_then (panicFree_block (panicFree_then (panicFree_then (panicFree_block (panicFree_block (panicFree_then (panicFree_then (panicFree_block (panicFree_then panicFree_body)))))))))) (fun _ h => h.cells) dt fw fun nT dB => ?_
      clear fw
      refine anyC_done kz ?_ _
      refine then_normal ?_
      refine cond_false dB (b := false) kz rfl ?_
      refine wp_skip ?_
      refine block_normal ?_
      refine then_normal ?_
      refine go_region [0, 1] kz ?_
      refine go_rn [0, 1] [] [(0, .v (.slice A l.length c)), (1, .v (.int .i64 v)), (2, .v (.bool flex)), (7, .p 0 0), (9, .v (.slice A_ ((bodyB W l v (Tree.mk n1 s2 b3 l4 u5) 0).length) c_)), (10, .v (.slice A3_ ((tagsK W l (Tree.mk n1 s2 b3 l4 u5) k2 ++ dm).length) c3_)), (11, .v (.int .i64 ((tagsN W l (Tree.mk n1 s2 b3 l4 u5) k2 + cn : Nat) : Int))), (14, .v (.int .i64 ((k2 : Nat) : Int))), (51, .v (.int .i64 (((knownI l).toNat : Nat) : Int))), (52, .v (.int .i64 ((k2 : Nat) : Int))), (55, .v (.slice A l.length c)), (56, .v (.int .i64 ((l.length : Nat) : Int))), (57, .v (.int .i64 (IntKind.i64.wrap (((q : Nat) : Int) + 1))))] aO dB fun nU ju => ?_
      clear dB
      refine wpOps_nil (then_normal ?_)
      obtain ⟨fx, jv, jw⟩ := aO.cutB ju 1 [⟨cU, 0, [.int .i64 n1, .slice A6 s2.length c7, .bool b3, .slice A8 l4.length c9, .slice aV u5.length aW], true⟩] [(0, .v (.slice A l.length c)), (1, .v (.int .i64 v)), (2, .v (.bool flex)), (7, .p 0 0), (9, .v (.slice A_ ((bodyB W l v (Tree.mk n1 s2 b3 l4 u5) 0).length) c_)), (10, .v (.slice A3_ ((tagsK W l (Tree.mk n1 s2 b3 l4 u5) k2 ++ dm).length) c3_)), (11, .v (.int .i64 ((tagsN W l (Tree.mk n1 s2 b3 l4 u5) k2 + cn : Nat) : Int))), (14, .v (.int .i64 ((k2 : Nat) : Int))), (51, .v (.int .i64 (((knownI l).toNat : Nat) : Int))), (52, .v (.int .i64 ((k2 : Nat) : Int))), (55, .v (.slice A l.length c)), (56, .v (.int .i64 ((l.length : Nat) : Int))), (57, .v (.int .i64 (IntKind.i64.wrap (((q : Nat) : Int) + 1))))]
      have jx : IntKind.i64.wrap (((q : Nat) : Int) + 1) = ((q + 1 : Nat) : Int) := wrap_succ (by omega)
      rw [jx] at fx
      exact ⟨l.length - (q + 1), by omega, q + 1, A3_, c3_, dm, cn, rfl, by omega, by rw [← tagB_neg1 ap (by omega)]; exact hB2, by rw [← tagN_neg1 ap (by omega)]; exact hN2, fx.pk, jv, ((((cu.trans dl).trans dq).trans dr).trans jw)⟩
    ·
     have lF := of_decide_eq_false dh
     refine wp_exit ?_
     refine then_exit ?_
     refine then_exit ?_
     refine block_exit ?_
     refine block_normal ?_
     refine then_normal ?_
     refine go_region [0, 1] kz ?_
     refine go_rn [0, 1] [] [(0, .v (.slice A l.length c)), (1, .v (.int .i64 v)), (2, .v (.bool flex)), (7, .p 0 0), (9, .v (.slice A_ ((bodyB W l v (Tree.mk n1 s2 b3 l4 u5) 0).length) c_)), (10, .v (.slice A3_ ((tagsK W l (Tree.mk n1 s2 b3 l4 u5) k2 ++ dm).length) c3_)), (11, .v (.int .i64 ((tagsN W l (Tree.mk n1 s2 b3 l4 u5) k2 + cn : Nat) : Int))), (51, .v (.int .i64 (((knownI l).toNat : Nat) : Int))), (52, .v (.int .i64 (IntKind.i64.wrap (((k2 : Nat) : Int) + 1))))] aM bA fun nV cG => ?_
     clear bA
     refine wpOps_nil (then_normal ?_)
     have fy : (tagsK W l (Tree.mk n1 s2 b3 l4 u5) k2 ++ dm) = (tagsK W l (Tree.mk n1 s2 b3 l4 u5) (k2 + 1)) := by rw [tagsK, ← hB2, tagB_end (by omega), List.append_nil]
     have jy := congrArg (brow A3_ c3_ 5) fy
     obtain ⟨jz, jA⟩ := aM.rowEq 1 [brow A_ c_ 5 (bodyB W l v (Tree.mk n1 s2 b3 l4 u5) 0), brow A3_ c3_ 5 (tagsK W l (Tree.mk n1 s2 b3 l4 u5) (k2 + 1))] jy
     clear aM
     rw [fy] at cG
     have jB : IntKind.i64.wrap (((k2 : Nat) : Int) + 1) = ((k2 + 1 : Nat) : Int) := wrap_succ (by omega)
     rw [jB] at cG
     have jC : ((tagsN W l (Tree.mk n1 s2 b3 l4 u5) k2 + cn : Nat) : Int) = ((tagsN W l (Tree.mk n1 s2 b3 l4 u5) (k2 + 1) : Nat) : Int) := by rw [tagsN, ← hN2, tagN_end (by omega), Nat.add_zero]
     rw [jC] at cG
     exact ⟨(knownI l).toNat - (k2 + 1), by omega, k2 + 1, A3_, c3_, rfl, by omega, cG.pk, jz, (((iF.trans iH).trans cu).trans jA)⟩
   ·
    have lG := of_decide_eq_false df
    refine wp_exit ?_
    refine then_exit ?_
    refine then_exit ?_
    refine block_exit ?_
    refine then_normal ?_
    refine wp_seq ?_
    refine go_seq_region [0, 1, 2, 3, 4, 5] kz ?_
    refine go_rn [0, 1, 2] [3, 4, 5] [(9, .v (.slice A_ ((bodyB W l v (Tree.mk n1 s2 b3 l4 u5) 0).length) c_)), (10, .v (.slice A2_ ((tagsK W l (Tree.mk n1 s2 b3 l4 u5) k2).length) c2_)), (11, .v (.int .i64 ((tagsN W l (Tree.mk n1 s2 b3 l4 u5) k2 : Nat) : Int))), (97, .v (.slice A l.length c)), (99, .v (.slice aV u5.length aW))] al bz fun nW fz => ?_
    clear bz
    refine of_op (wpOp_call fz (f := 62) (vs := [.slice A l.length c, .slice aV u5.length aW]) (d := 100) kz Tryz.call62 (sUnknown _ _ l _ _ u5 _ _ ⟨xfs, (h1.move al.step nilM al.imm), (fun i_ x_ h_ => ((h2 i_ x_ h_).move al.step nilM al.imm))⟩ (lY.move al.step nilM al.imm)) ?_)
    rintro e_ nX ⟨am, ao, rfl, jD, dC⟩
    have jE := jD.move (Step.refl _ Nil) nilM (al.laid (G := F) dC)
    refine ⟨_, rfl, fun nY fA => ?_⟩
    have dD := al.next_nil dC
    have lH := al.frN dC
    clear fz
    refine go_rn [4, 5] [] [(9, .v (.slice A_ ((bodyB W l v (Tree.mk n1 s2 b3 l4 u5) 0).length) c_)), (10, .v (.slice A2_ ((tagsK W l (Tree.mk n1 s2 b3 l4 u5) k2).length) c2_)), (11, .v (.int .i64 ((tagsN W l (Tree.mk n1 s2 b3 l4 u5) k2 : Nat) : Int))), (100, .v (.slice am ((unknownT l u5).length) ao)), (101, .v (.int .i64 (((unknownT l u5).length : Nat) : Int))), (102, .v (.int .i64 0))] dD fA fun nZ dE => ?_
    clear fA
    refine wpOps_nil (then_normal ?_)
    refine wp_block ?_
    obtain ⟨lI, jF, kX⟩ := jE.ex
    have kY := jF.small
    have hkk2 : k2 = (knownI l).toNat := by omega
    have hc2 := hcnt k2
    have hm2 := hmono k2 (by omega)
    have fB : (tagsK W l (Tree.mk n1 s2 b3 l4 u5) k2) = (tagsK W l (Tree.mk n1 s2 b3 l4 u5) k2 ++ tagsB ((unknownT l u5).take 0)) := (List.append_nil _).symm
    have jG := congrArg (brow A2_ c2_ 5) fB
    obtain ⟨fC, aN⟩ := dD.rowEq 1 [brow A_ c_ 5 (bodyB W l v (Tree.mk n1 s2 b3 l4 u5) 0), brow A2_ c2_ 5 (tagsK W l (Tree.mk n1 s2 b3 l4 u5) k2 ++ tagsB ((unknownT l u5).take 0))] jG
    clear dD
    rw [fB] at dE
    refine wp_loop_ghost (fun n_ a_ w_ => ∃ (k : Nat) (A4_ : Option Addr) (c4_ : Nat), n_ = (unknownT l u5).length - k ∧ k ≤ (unknownT l u5).length ∧ LInv fC 132 [⟨cU, 0, [.int .i64 n1, .slice A6 s2.length c7, .bool b3, .slice A8 l4.length c9, .slice aV u5.length aW], true⟩] [brow A_ c_ 5 (bodyB W l v (Tree.mk n1 s2 b3 l4 u5) 0), brow A4_ c4_ 5 (tagsK W l (Tree.mk n1 s2 b3 l4 u5) k2 ++ tagsB ((unknownT l u5).take k))] [(9, .v (.slice A_ ((bodyB W l v (Tree.mk n1 s2 b3 l4 u5) 0).length) c_)), (10, .v (.slice A4_ ((tagsK W l (Tree.mk n1 s2 b3 l4 u5) k2 ++ tagsB ((unknownT l u5).take k)).length) c4_)), (11, .v (.int .i64 ((tagsN W l (Tree.mk n1 s2 b3 l4 u5) k2 + k : Nat) : Int))), (100, .v (.slice am ((unknownT l u5).length) ao)), (101, .v (.int .i64 (((unknownT l u5).length : Nat) : Int))), (102, .v (.int .i64 ((k : Nat) : Int)))] a_ w_) ((unknownT l u5).length) ⟨0, A2_, c2_, by omega, by omega, dE.pk, fC, Fr.refl _ _ _⟩ ?_
    clear dE
    rintro n4 n5 n8 ⟨k, A4_, c4_, lJ, lK, fD, ba, aH⟩
    refine go_sp [(9, .v (.slice A_ ((bodyB W l v (Tree.mk n1 s2 b3 l4 u5) 0).length) c_)), (10, .v (.slice A4_ ((tagsK W l (Tree.mk n1 s2 b3 l4 u5) k2 ++ tagsB ((unknownT l u5).take k)).length) c4_)), (11, .v (.int .i64 ((tagsN W l (Tree.mk n1 s2 b3 l4 u5) k2 + k : Nat) : Int))), (100, .v (.slice am ((unknownT l u5).length) ao)), (101, .v (.int .i64 (((unknownT l u5).length : Nat) : Int))), (102, .v (.int .i64 ((k : Nat) : Int))), (103, .v (.bool (decide (((k : Nat) : Int) < (((unknownT l u5).length : Nat) : Int)))))] ba fD fun oa bM => ?_
    clear fD
    refine wp_seq ?_
    refine cond_of bM (b := decide (((k : Nat) : Int) < (((unknownT l u5).length : Nat) : Int))) kz (fun dF => ?_) (fun dF => ?_)
    ·
     have lL := of_decide_eq_true dF
     refine wp_skip ?_
     refine then_normal ?_
     refine wp_seq ?_
     refine wp_block ?_
     refine go_seq_region [0, 1, 2, 3] kz ?_
     obtain ⟨kZ, k5, jH, lM, dG⟩ := Slots.get jF (i := k) (by omega)
     obtain ⟨⟨ak, aj⟩, bN⟩ : ∃ x, (unknownT l u5)[k]? = some x := ⟨_, List.getElem?_eq_getElem (by omega)⟩
     obtain ⟨⟨ar, au, gR, dH⟩, od, oe⟩ := kX k ak aj bN
     rw [gR] at dG
     refine of_op (wpOp_index bM (t := 24) (A := am) (m := ((unknownT l u5).length)) (q := ((k : Nat) : Int)) (d := 104) kz (e := 66) (size := 2) (bytes := 32) kz jH rfl (by omega) fun og fE => ?_)
     clear bM
     refine of_op (wpOp_load fE (t := 66) (b := kZ) (o := k5 + k * 2) (d := 105) kz (cs := [.int .u32 ak, .slice ar aj.length au]) (v := .agg #[.int .u32 ak, .slice ar aj.length au]) kz (AtF.move dG (aN.trans aH).step immM (aN.trans aH).to').at_ fun oh fF => ?_)
     clear fE
     refine of_op (wpOp_alloc ba fF (d := 19) (cs := [.int .u32 0, .slice none 0 0]) kz fun ol om oq lN lO aR fG fH => ?_)
     clear fF ba
     refine of_op (wpOp_store fG fH (oi := 1) (cs := [.int .u32 ak, .slice ar aj.length au]) kz fun ot aS cH fI => ?_)
     clear fH fG
     refine wpOps_nil (then_normal ?_)
     refine go_seq_region [0, 1, 2, 3] kz ?_
     refine go_rn [0, 1] [2, 3] [(9, .v (.slice A_ ((bodyB W l v (Tree.mk n1 s2 b3 l4 u5) 0).length) c_)), (10, .v (.slice A4_ ((tagsK W l (Tree.mk n1 s2 b3 l4 u5) k2 ++ tagsB ((unknownT l u5).take k)).length) c4_)), (11, .v (.int .i64 ((tagsN W l (Tree.mk n1 s2 b3 l4 u5) k2 + k : Nat) : Int))), (19, .p 1 0), (100, .v (.slice am ((unknownT l u5).length) ao)), (101, .v (.int .i64 (((unknownT l u5).length : Nat) : Int))), (102, .v (.int .i64 ((k : Nat) : Int))), (107, .v (.slice ar aj.length au))] cH fI fun ou fJ => ?_
     clear fI
     have k6 := whole_le aj
     refine of_op (wpOp_call fJ (f := 64) (vs := [.slice ar aj.length au]) (d := 108) kz Tryz.call64 (sWhole _ _ aj (dH.move (((aN.trans aH).trans aR).trans aS).step immM (((aN.trans aH).trans aR).trans aS).to').le _) ?_)
     rintro e_ ov ⟨rfl, fK⟩
     refine ⟨_, rfl, fun ow fL => ?_⟩
     have cI := cH.next_nil fK
     have bO := cH.frN fK
     clear fJ cH
     refine go_rn [3] [] [(9, .v (.slice A_ ((bodyB W l v (Tree.mk n1 s2 b3 l4 u5) 0).length) c_)), (10, .v (.slice A4_ ((tagsK W l (Tree.mk n1 s2 b3 l4 u5) k2 ++ tagsB ((unknownT l u5).take k)).length) c4_)), (11, .v (.int .i64 ((tagsN W l (Tree.mk n1 s2 b3 l4 u5) k2 + k : Nat) : Int))), (19, .p 1 0), (20, .v (.slice ar ((whole aj).length) au)), (100, .v (.slice am ((unknownT l u5).length) ao)), (101, .v (.int .i64 (((unknownT l u5).length : Nat) : Int))), (102, .v (.int .i64 ((k : Nat) : Int)))] cI fL fun ox fM => ?_
     clear fL
     refine wpOps_nil (then_normal ?_)
     refine go_seq_region [0, 1, 2, 3, 4, 5, 6, 7, 8, 9, 10, 11, 12, 13] kz ?_
     refine go_rn [0, 1, 2, 3] [4, 5, 6, 7, 8, 9, 10, 11, 12, 13] [(9, .v (.slice A_ ((bodyB W l v (Tree.mk n1 s2 b3 l4 u5) 0).length) c_)), (11, .v (.int .i64 ((tagsN W l (Tree.mk n1 s2 b3 l4 u5) k2 + k : Nat) : Int))), (20, .v (.slice ar ((whole aj).length) au)), (100, .v (.slice am ((unknownT l u5).length) ao)), (101, .v (.int .i64 (((unknownT l u5).length : Nat) : Int))), (102, .v (.int .i64 ((k : Nat) : Int))), (109, .v (.slice A4_ ((tagsK W l (Tree.mk n1 s2 b3 l4 u5) k2 ++ tagsB ((unknownT l u5).take k)).length) c4_)), (112, .v (.int .u64 (IntKind.u64.wrap ak)))] cI fM fun oy fN => ?_
     clear fM
     have jI : IntKind.u64.wrap ak = ((ak.toNat : Nat) : Int) := by simp only [wrap_u64, wrap_u32, wrap_u16, IntKind.wrap_i64, IntKind.wrap_i32]; omega
     have fO := EnvOk.pick fN (ks := [9, 11, 20, 100, 101, 102, 109, 112]) (env' := [(9, .v (.slice A_ ((bodyB W l v (Tree.mk n1 s2 b3 l4 u5) 0).length) c_)), (11, .v (.int .i64 ((tagsN W l (Tree.mk n1 s2 b3 l4 u5) k2 + k : Nat) : Int))), (20, .v (.slice ar ((whole aj).length) au)), (100, .v (.slice am ((unknownT l u5).length) ao)), (101, .v (.int .i64 (((unknownT l u5).length : Nat) : Int))), (102, .v (.int .i64 ((k : Nat) : Int))), (109, .v (.slice A4_ ((tagsK W l (Tree.mk n1 s2 b3 l4 u5) k2 ++ tagsB ((unknownT l u5).take k)).length) c4_)), (112, .v (.int .u64 (IntKind.u64.wrap ak)))]) kz
     have fP := fO.cast (env' := [(9, .v (.slice A_ ((bodyB W l v (Tree.mk n1 s2 b3 l4 u5) 0).length) c_)), (11, .v (.int .i64 ((tagsN W l (Tree.mk n1 s2 b3 l4 u5) k2 + k : Nat) : Int))), (20, .v (.slice ar ((whole aj).length) au)), (100, .v (.slice am ((unknownT l u5).length) ao)), (101, .v (.int .i64 (((unknownT l u5).length : Nat) : Int))), (102, .v (.int .i64 ((k : Nat) : Int))), (109, .v (.slice A4_ ((tagsK W l (Tree.mk n1 s2 b3 l4 u5) k2 ++ tagsB ((unknownT l u5).take k)).length) c4_)), (112, .v (.int .u64 ((ak.toNat : Nat) : Int)))]) (by rw [jI])
     clear fN fO
     refine of_op (wpOp_call fP (f := 127) (vs := [.int .u64 ((ak.toNat : Nat) : Int)]) (d := 113) kz Tryz.call127 (sUvarint ak.toNat (by omega) _) ?_)
     rintro e_ oz ⟨bZ, b8, rfl, jJ, jK⟩
     refine ⟨_, rfl, fun oA fQ => ?_⟩
     obtain ⟨cJ, bP⟩ := cI.frFresh jK (brow bZ b8 5 (uv ak.toNat)) (Nat.le_refl _) jJ
     clear fP cI
     refine of_op (wpOp_append cJ fQ (k := 1) (d := 114) (t := 22) (e := 5) (size := 1) (bytes := 1) (A := A4_) (As := bZ) (m0 := ((tagsK W l (Tree.mk n1 s2 b3 l4 u5) k2 ++ tagsB ((unknownT l u5).take k)).length)) (c := c4_) (m := ((uv ak.toNat).length)) (cs := b8) (xs := (bc (tagsK W l (Tree.mk n1 s2 b3 l4 u5) k2 ++ tagsB ((unknownT l u5).take k)))) (news := bc (uv ak.toNat)) kz kz rfl (own_src (cJ.own 2 _ rfl) (bc_one _)) (own_cap (cJ.own 2 _ rfl)) (by have h_ := tagsB_le (l := (unknownT l u5)) (k + 1); rw [tagsB_succ bN] at h_; simp only [List.length_append] at h_ ⊢; omega) fun aT aU oB oC bQ fR fS => ?_)
     clear fQ cJ
     have jL : (⟨aT, aU, 5, 1, (tagsK W l (Tree.mk n1 s2 b3 l4 u5) k2 ++ tagsB ((unknownT l u5).take k)).length + (uv ak.toNat).length, bc (tagsK W l (Tree.mk n1 s2 b3 l4 u5) k2 ++ tagsB ((unknownT l u5).take k)) ++ bc (uv ak.toNat)⟩ : Rw) = brow aT aU 5 (tagsK W l (Tree.mk n1 s2 b3 l4 u5) k2 ++ tagsB ((unknownT l u5).take k) ++ (uv ak.toNat)) := brow_eq (rfl) rfl
     obtain ⟨dI, bR⟩ := fR.rowEq 1 [brow A_ c_ 5 (bodyB W l v (Tree.mk n1 s2 b3 l4 u5) 0), brow aT aU 5 (tagsK W l (Tree.mk n1 s2 b3 l4 u5) k2 ++ tagsB ((unknownT l u5).take k) ++ (uv ak.toNat)), brow bZ b8 5 (uv ak.toNat)] jL
     clear fR
     have fT := EnvOk.pick fS (ks := [9, 11, 20, 100, 101, 102, 109, 112, 113, 114]) (env' := [(9, .v (.slice A_ ((bodyB W l v (Tree.mk n1 s2 b3 l4 u5) 0).length) c_)), (11, .v (.int .i64 ((tagsN W l (Tree.mk n1 s2 b3 l4 u5) k2 + k : Nat) : Int))), (20, .v (.slice ar ((whole aj).length) au)), (100, .v (.slice am ((unknownT l u5).length) ao)), (101, .v (.int .i64 (((unknownT l u5).length : Nat) : Int))), (102, .v (.int .i64 ((k : Nat) : Int))), (109, .v (.slice A4_ ((tagsK W l (Tree.mk n1 s2 b3 l4 u5) k2 ++ tagsB ((unknownT l u5).take k)).length) c4_)), (112, .v (.int .u64 ((ak.toNat : Nat) : Int))), (113, .v (.slice bZ ((uv ak.toNat).length) b8)), (114, .v (.slice aT ((tagsK W l (Tree.mk n1 s2 b3 l4 u5) k2 ++ tagsB ((unknownT l u5).take k)).length + (uv ak.toNat).length) aU))]) kz
     have fU := fT.cast (env' := [(9, .v (.slice A_ ((bodyB W l v (Tree.mk n1 s2 b3 l4 u5) 0).length) c_)), (11, .v (.int .i64 ((tagsN W l (Tree.mk n1 s2 b3 l4 u5) k2 + k : Nat) : Int))), (20, .v (.slice ar ((whole aj).length) au)), (100, .v (.slice am ((unknownT l u5).length) ao)), (101, .v (.int .i64 (((unknownT l u5).length : Nat) : Int))), (102, .v (.int .i64 ((k : Nat) : Int))), (109, .v (.slice A4_ ((tagsK W l (Tree.mk n1 s2 b3 l4 u5) k2 ++ tagsB ((unknownT l u5).take k)).length) c4_)), (112, .v (.int .u64 ((ak.toNat : Nat) : Int))), (113, .v (.slice bZ ((uv ak.toNat).length) b8)), (114, .v (.slice aT ((tagsK W l (Tree.mk n1 s2 b3 l4 u5) k2 ++ tagsB ((unknownT l u5).take k) ++ (uv ak.toNat)).length) aU))]) (by simp only [List.length_append, List.length_cons, List.length_nil, Nat.zero_add])
     clear fS
     clear fT
     refine go_rn [6, 7, 8] [9, 10, 11, 12, 13] [(9, .v (.slice A_ ((bodyB W l v (Tree.mk n1 s2 b3 l4 u5) 0).length) c_)), (11, .v (.int .i64 ((tagsN W l (Tree.mk n1 s2 b3 l4 u5) k2 + k : Nat) : Int))), (20, .v (.slice ar ((whole aj).length) au)), (100, .v (.slice am ((unknownT l u5).length) ao)), (101, .v (.int .i64 (((unknownT l u5).length : Nat) : Int))), (102, .v (.int .i64 ((k : Nat) : Int))), (114, .v (.slice aT ((tagsK W l (Tree.mk n1 s2 b3 l4 u5) k2 ++ tagsB ((unknownT l u5).take k) ++ (uv ak.toNat)).length) aU)), (117, .v (.int .u64 (IntKind.u64.wrap (((whole aj).length : Nat) : Int))))] dI fU fun oD fV => ?_
     clear fU
     have jM : IntKind.u64.wrap (((whole aj).length : Nat) : Int) = (((whole aj).length : Nat) : Int) := by simp only [wrap_u64, wrap_u32, wrap_u16, IntKind.wrap_i64, IntKind.wrap_i32]; omega
     have fW := EnvOk.pick fV (ks := [9, 11, 20, 100, 101, 102, 114, 117]) (env' := [(9, .v (.slice A_ ((bodyB W l v (Tree.mk n1 s2 b3 l4 u5) 0).length) c_)), (11, .v (.int .i64 ((tagsN W l (Tree.mk n1 s2 b3 l4 u5) k2 + k : Nat) : Int))), (20, .v (.slice ar ((whole aj).length) au)), (100, .v (.slice am ((unknownT l u5).length) ao)), (101, .v (.int .i64 (((unknownT l u5).length : Nat) : Int))), (102, .v (.int .i64 ((k : Nat) : Int))), (114, .v (.slice aT ((tagsK W l (Tree.mk n1 s2 b3 l4 u5) k2 ++ tagsB ((unknownT l u5).take k) ++ (uv ak.toNat)).length) aU)), (117, .v (.int .u64 (IntKind.u64.wrap (((whole aj).length : Nat) : Int))))]) kz
     have fX := fW.cast (env' := [(9, .v (.slice A_ ((bodyB W l v (Tree.mk n1 s2 b3 l4 u5) 0).length) c_)), (11, .v (.int .i64 ((tagsN W l (Tree.mk n1 s2 b3 l4 u5) k2 + k : Nat) : Int))), (20, .v (.slice ar ((whole aj).length) au)), (100, .v (.slice am ((unknownT l u5).length) ao)), (101, .v (.int .i64 (((unknownT l u5).length : Nat) : Int))), (102, .v (.int .i64 ((k : Nat) : Int))), (114, .v (.slice aT ((tagsK W l (Tree.mk n1 s2 b3 l4 u5) k2 ++ tagsB ((unknownT l u5).take k) ++ (uv ak.toNat)).length) aU)), (117, .v (.int .u64 (((whole aj).length : Nat) : Int)))]) (by rw [jM])
     clear fV fW
     refine of_op (wpOp_call fX (f := 127) (vs := [.int .u64 (((whole aj).length : Nat) : Int)]) (d := 118) kz Tryz.call127 (sUvarint ((whole aj).length) (by omega) _) ?_)
     rintro e_ oE ⟨cQ, cR, rfl, jN, jO⟩
     refine ⟨_, rfl, fun oF fY => ?_⟩
     obtain ⟨cK, bS⟩ := dI.frFresh jO (brow cQ cR 5 (uv ((whole aj).length))) (Nat.le_refl _) jN
     clear fX dI
     refine of_op (wpOp_append cK fY (k := 1) (d := 119) (t := 22) (e := 5) (size := 1) (bytes := 1) (A := aT) (As := cQ) (m0 := ((tagsK W l (Tree.mk n1 s2 b3 l4 u5) k2 ++ tagsB ((unknownT l u5).take k) ++ (uv ak.toNat)).length)) (c := aU) (m := ((uv ((whole aj).length)).length)) (cs := cR) (xs := (bc (tagsK W l (Tree.mk n1 s2 b3 l4 u5) k2 ++ tagsB ((unknownT l u5).take k) ++ (uv ak.toNat)))) (news := bc (uv ((whole aj).length))) kz kz rfl (own_src (cK.own 3 _ rfl) (bc_one _)) (own_cap (cK.own 3 _ rfl)) (by have h_ := tagsB_le (l := (unknownT l u5)) (k + 1); rw [tagsB_succ bN] at h_; simp only [List.length_append] at h_ ⊢; omega) fun bg bh oG oH bT fZ f5 => ?_)
     clear fY cK
     have jP : (⟨bg, bh, 5, 1, (tagsK W l (Tree.mk n1 s2 b3 l4 u5) k2 ++ tagsB ((unknownT l u5).take k) ++ (uv ak.toNat)).length + (uv ((whole aj).length)).length, bc (tagsK W l (Tree.mk n1 s2 b3 l4 u5) k2 ++ tagsB ((unknownT l u5).take k) ++ (uv ak.toNat)) ++ bc (uv ((whole aj).length))⟩ : Rw) = brow bg bh 5 (tagsK W l (Tree.mk n1 s2 b3 l4 u5) k2 ++ tagsB ((unknownT l u5).take k) ++ (uv ak.toNat) ++ (uv ((whole aj).length))) := brow_eq (rfl) rfl
     obtain ⟨dJ, bU⟩ := fZ.rowEq 1 [brow A_ c_ 5 (bodyB W l v (Tree.mk n1 s2 b3 l4 u5) 0), brow bg bh 5 (tagsK W l (Tree.mk n1 s2 b3 l4 u5) k2 ++ tagsB ((unknownT l u5).take k) ++ (uv ak.toNat) ++ (uv ((whole aj).length))), brow bZ b8 5 (uv ak.toNat), brow cQ cR 5 (uv ((whole aj).length))] jP
     clear fZ
     have f7 := EnvOk.pick f5 (ks := [9, 11, 20, 100, 101, 102, 114, 117, 118, 119]) (env' := [(9, .v (.slice A_ ((bodyB W l v (Tree.mk n1 s2 b3 l4 u5) 0).length) c_)), (11, .v (.int .i64 ((tagsN W l (Tree.mk n1 s2 b3 l4 u5) k2 + k : Nat) : Int))), (20, .v (.slice ar ((whole aj).length) au)), (100, .v (.slice am ((unknownT l u5).length) ao)), (101, .v (.int .i64 (((unknownT l u5).length : Nat) : Int))), (102, .v (.int .i64 ((k : Nat) : Int))), (114, .v (.slice aT ((tagsK W l (Tree.mk n1 s2 b3 l4 u5) k2 ++ tagsB ((unknownT l u5).take k) ++ (uv ak.toNat)).length) aU)), (117, .v (.int .u64 (((whole aj).length : Nat) : Int))), (118, .v (.slice cQ ((uv ((whole aj).length)).length) cR)), (119, .v (.slice bg ((tagsK W l (Tree.mk n1 s2 b3 l4 u5) k2 ++ tagsB ((unknownT l u5).take k) ++ (uv ak.toNat)).length + (uv ((whole aj).length)).length) bh))]) kz
     have f8 := f7.cast (env' := [(9, .v (.slice A_ ((bodyB W l v (Tree.mk n1 s2 b3 l4 u5) 0).length) c_)), (11, .v (.int .i64 ((tagsN W l (Tree.mk n1 s2 b3 l4 u5) k2 + k : Nat) : Int))), (20, .v (.slice ar ((whole aj).length) au)), (100, .v (.slice am ((unknownT l u5).length) ao)), (101, .v (.int .i64 (((unknownT l u5).length : Nat) : Int))), (102, .v (.int .i64 ((k : Nat) : Int))), (114, .v (.slice aT ((tagsK W l (Tree.mk n1 s2 b3 l4 u5) k2 ++ tagsB ((unknownT l u5).take k) ++ (uv ak.toNat)).length) aU)), (117, .v (.int .u64 (((whole aj).length : Nat) : Int))), (118, .v (.slice cQ ((uv ((whole aj).length)).length) cR)), (119, .v (.slice bg ((tagsK W l (Tree.mk n1 s2 b3 l4 u5) k2 ++ tagsB ((unknownT l u5).take k) ++ (uv ak.toNat) ++ (uv ((whole aj).length))).length) bh))]) (by simp only [List.length_append, List.length_cons, List.length_nil, Nat.zero_add])
     clear f5
     clear f7
     refine go_rn [11] [12, 13] [(9, .v (.slice A_ ((bodyB W l v (Tree.mk n1 s2 b3 l4 u5) 0).length) c_)), (11, .v (.int .i64 ((tagsN W l (Tree.mk n1 s2 b3 l4 u5) k2 + k : Nat) : Int))), (100, .v (.slice am ((unknownT l u5).length) ao)), (101, .v (.int .i64 (((unknownT l u5).length : Nat) : Int))), (102, .v (.int .i64 ((k : Nat) : Int))), (119, .v (.slice bg ((tagsK W l (Tree.mk n1 s2 b3 l4 u5) k2 ++ tagsB ((unknownT l u5).take k) ++ (uv ak.toNat) ++ (uv ((whole aj).length))).length) bh)), (120, .v (.slice ar ((whole aj).length) au))] dJ f8 fun oI f9 => ?_
     clear f8
     refine of_op (wpOp_append dJ f9 (k := 1) (d := 121) (t := 22) (e := 5) (size := 1) (bytes := 1) (A := bg) (As := ar) (m0 := ((tagsK W l (Tree.mk n1 s2 b3 l4 u5) k2 ++ tagsB ((unknownT l u5).take k) ++ (uv ak.toNat) ++ (uv ((whole aj).length))).length)) (c := bh) (m := ((whole aj).length)) (cs := au) (xs := (bc (tagsK W l (Tree.mk n1 s2 b3 l4 u5) k2 ++ tagsB ((unknownT l u5).take k) ++ (uv ak.toNat) ++ (uv ((whole aj).length))))) (news := bc (whole aj)) kz kz rfl ((dH.take 32767).move ((((((((((aN.trans aH).trans aR).trans aS).trans bO).trans bP).trans bQ).trans bR).trans bS).trans bT).trans bU).step immM ((((((((((aN.trans aH).trans aR).trans aS).trans bO).trans bP).trans bQ).trans bR).trans bS).trans bT).trans bU).to').src ((dH.take 32767).move ((((((((((aN.trans aH).trans aR).trans aS).trans bO).trans bP).trans bQ).trans bR).trans bS).trans bT).trans bU).step immM ((((((((((aN.trans aH).trans aR).trans aS).trans bO).trans bP).trans bQ).trans bR).trans bS).trans bT).trans bU).to').cap (by have h_ := tagsB_le (l := (unknownT l u5)) (k + 1); rw [tagsB_succ bN] at h_; simp only [List.length_append] at h_ ⊢; omega) fun aK aL oJ oK jQ ga gb => ?_)
     clear f9 dJ
     have jR : (⟨aK, aL, 5, 1, (tagsK W l (Tree.mk n1 s2 b3 l4 u5) k2 ++ tagsB ((unknownT l u5).take k) ++ (uv ak.toNat) ++ (uv ((whole aj).length))).length + (whole aj).length, bc (tagsK W l (Tree.mk n1 s2 b3 l4 u5) k2 ++ tagsB ((unknownT l u5).take k) ++ (uv ak.toNat) ++ (uv ((whole aj).length))) ++ bc (whole aj)⟩ : Rw) = brow aK aL 5 (tagsK W l (Tree.mk n1 s2 b3 l4 u5) k2 ++ tagsB ((unknownT l u5).take k) ++ (uv ak.toNat) ++ (uv ((whole aj).length)) ++ (whole aj)) := brow_eq (rfl) rfl
     obtain ⟨cL, jS⟩ := ga.rowEq 1 [brow A_ c_ 5 (bodyB W l v (Tree.mk n1 s2 b3 l4 u5) 0), brow aK aL 5 (tagsK W l (Tree.mk n1 s2 b3 l4 u5) k2 ++ tagsB ((unknownT l u5).take k) ++ (uv ak.toNat) ++ (uv ((whole aj).length)) ++ (whole aj)), brow bZ b8 5 (uv ak.toNat), brow cQ cR 5 (uv ((whole aj).length))] jR
     clear ga
     have gc := EnvOk.pick gb (ks := [9, 11, 100, 101, 102, 119, 120, 121]) (env' := [(9, .v (.slice A_ ((bodyB W l v (Tree.mk n1 s2 b3 l4 u5) 0).length) c_)), (11, .v (.int .i64 ((tagsN W l (Tree.mk n1 s2 b3 l4 u5) k2 + k : Nat) : Int))), (100, .v (.slice am ((unknownT l u5).length) ao)), (101, .v (.int .i64 (((unknownT l u5).length : Nat) : Int))), (102, .v (.int .i64 ((k : Nat) : Int))), (119, .v (.slice bg ((tagsK W l (Tree.mk n1 s2 b3 l4 u5) k2 ++ tagsB ((unknownT l u5).take k) ++ (uv ak.toNat) ++ (uv ((whole aj).length))).length) bh)), (120, .v (.slice ar ((whole aj).length) au)), (121, .v (.slice aK ((tagsK W l (Tree.mk n1 s2 b3 l4 u5) k2 ++ tagsB ((unknownT l u5).take k) ++ (uv ak.toNat) ++ (uv ((whole aj).length))).length + (whole aj).length) aL))]) kz
     have gd := gc.cast (env' := [(9, .v (.slice A_ ((bodyB W l v (Tree.mk n1 s2 b3 l4 u5) 0).length) c_)), (11, .v (.int .i64 ((tagsN W l (Tree.mk n1 s2 b3 l4 u5) k2 + k : Nat) : Int))), (100, .v (.slice am ((unknownT l u5).length) ao)), (101, .v (.int .i64 (((unknownT l u5).length : Nat) : Int))), (102, .v (.int .i64 ((k : Nat) : Int))), (119, .v (.slice bg ((tagsK W l (Tree.mk n1 s2 b3 l4 u5) k2 ++ tagsB ((unknownT l u5).take k) ++ (uv ak.toNat) ++ (uv ((whole aj).length))).length) bh)), (120, .v (.slice ar ((whole aj).length) au)), (121, .v (.slice aK ((tagsK W l (Tree.mk n1 s2 b3 l4 u5) k2 ++ tagsB ((unknownT l u5).take k) ++ (uv ak.toNat) ++ (uv ((whole aj).length)) ++ (whole aj)).length) aL))]) (by simp only [List.length_append, List.length_cons, List.length_nil, Nat.zero_add])
     clear gb
     clear gc
     refine go_rn [13] [] [(9, .v (.slice A_ ((bodyB W l v (Tree.mk n1 s2 b3 l4 u5) 0).length) c_)), (10, .v (.slice aK ((tagsK W l (Tree.mk n1 s2 b3 l4 u5) k2 ++ tagsB ((unknownT l u5).take k) ++ (uv ak.toNat) ++ (uv ((whole aj).length)) ++ (whole aj)).length) aL)), (11, .v (.int .i64 ((tagsN W l (Tree.mk n1 s2 b3 l4 u5) k2 + k : Nat) : Int))), (100, .v (.slice am ((unknownT l u5).length) ao)), (101, .v (.int .i64 (((unknownT l u5).length : Nat) : Int))), (102, .v (.int .i64 ((k : Nat) : Int)))] cL gd fun oL ge => ?_
     clear gd
     refine wpOps_nil (then_normal ?_)
     refine go_region [0, 1, 2] kz ?_
     refine go_rn [0, 1, 2] [] [(9, .v (.slice A_ ((bodyB W l v (Tree.mk n1 s2 b3 l4 u5) 0).length) c_)), (10, .v (.slice aK ((tagsK W l (Tree.mk n1 s2 b3 l4 u5) k2 ++ tagsB ((unknownT l u5).take k) ++ (uv ak.toNat) ++ (uv ((whole aj).length)) ++ (whole aj)).length) aL)), (11, .v (.int .i64 (IntKind.i64.wrap (((tagsN W l (Tree.mk n1 s2 b3 l4 u5) k2 + k : Nat) : Int) + 1)))), (100, .v (.slice am ((unknownT l u5).length) ao)), (101, .v (.int .i64 (((unknownT l u5).length : Nat) : Int))), (102, .v (.int .i64 ((k : Nat) : Int)))] cL ge fun oM gg => ?_
     clear ge
     refine wpOps_nil ?_
     refine block_normal ?_
     refine then_normal ?_
     refine go_region [0, 1] kz ?_
     refine go_rn [0, 1] [] [(9, .v (.slice A_ ((bodyB W l v (Tree.mk n1 s2 b3 l4 u5) 0).length) c_)), (10, .v (.slice aK ((tagsK W l (Tree.mk n1 s2 b3 l4 u5) k2 ++ tagsB ((unknownT l u5).take k) ++ (uv ak.toNat) ++ (uv ((whole aj).length)) ++ (whole aj)).length) aL)), (11, .v (.int .i64 (IntKind.i64.wrap (((tagsN W l (Tree.mk n1 s2 b3 l4 u5) k2 + k : Nat) : Int) + 1)))), (100, .v (.slice am ((unknownT l u5).length) ao)), (101, .v (.int .i64 (((unknownT l u5).length : Nat) : Int))), (102, .v (.int .i64 (IntKind.i64.wrap (((k : Nat) : Int) + 1))))] cL gg fun oN jT => ?_
     clear gg
     refine wpOps_nil (then_normal ?_)
     obtain ⟨cM, jU, jV⟩ := cL.cutB jT 1 [⟨cU, 0, [.int .i64 n1, .slice A6 s2.length c7, .bool b3, .slice A8 l4.length c9, .slice aV u5.length aW], true⟩] [(9, .v (.slice A_ ((bodyB W l v (Tree.mk n1 s2 b3 l4 u5) 0).length) c_)), (10, .v (.slice aK ((tagsK W l (Tree.mk n1 s2 b3 l4 u5) k2 ++ tagsB ((unknownT l u5).take k) ++ (uv ak.toNat) ++ (uv ((whole aj).length)) ++ (whole aj)).length) aL)), (11, .v (.int .i64 (IntKind.i64.wrap (((tagsN W l (Tree.mk n1 s2 b3 l4 u5) k2 + k : Nat) : Int) + 1)))), (100, .v (.slice am ((unknownT l u5).length) ao)), (101, .v (.int .i64 (((unknownT l u5).length : Nat) : Int))), (102, .v (.int .i64 (IntKind.i64.wrap (((k : Nat) : Int) + 1))))]
     obtain ⟨gh, jW⟩ := jU.cutR 2 [brow A_ c_ 5 (bodyB W l v (Tree.mk n1 s2 b3 l4 u5) 0), brow aK aL 5 (tagsK W l (Tree.mk n1 s2 b3 l4 u5) k2 ++ tagsB ((unknownT l u5).take k) ++ (uv ak.toNat) ++ (uv ((whole aj).length)) ++ (whole aj))]
     have gi : (tagsK W l (Tree.mk n1 s2 b3 l4 u5) k2 ++ tagsB ((unknownT l u5).take k) ++ (uv ak.toNat) ++ (uv ((whole aj).length)) ++ (whole aj)) = (tagsK W l (Tree.mk n1 s2 b3 l4 u5) k2 ++ tagsB ((unknownT l u5).take (k + 1))) := by rw [tagsB_succ bN]; simp only [List.append_assoc]
     have jX := congrArg (brow aK aL 5) gi
     obtain ⟨jY, jZ⟩ := gh.rowEq 1 [brow A_ c_ 5 (bodyB W l v (Tree.mk n1 s2 b3 l4 u5) 0), brow aK aL 5 (tagsK W l (Tree.mk n1 s2 b3 l4 u5) k2 ++ tagsB ((unknownT l u5).take (k + 1)))] jX
     clear gh
     rw [gi] at cM
     have j0 : IntKind.i64.wrap (((k : Nat) : Int) + 1) = ((k + 1 : Nat) : Int) := wrap_succ (by omega)
     rw [j0] at cM
     have j1 : IntKind.i64.wrap (((tagsN W l (Tree.mk n1 s2 b3 l4 u5) k2 + k : Nat) : Int) + 1) = ((tagsN W l (Tree.mk n1 s2 b3 l4 u5) k2 + (k + 1) : Nat) : Int) := by rw [wrap_i64 (by omega) (by omega)]; omega
     rw [j1] at cM
     exact ⟨(unknownT l u5).length - (k + 1), by omega, k + 1, aK, aL, rfl, by omega, cM.pk, jY, ((((((((((((((aH.trans aR).trans aS).trans bO).trans bP).trans bQ).trans bR).trans bS).trans bT).trans bU).trans jQ).trans jS).trans jV).trans jW).trans jZ)⟩
    ·
     have lP := of_decide_eq_false dF
     refine wp_exit ?_
     refine then_exit ?_
     refine then_exit ?_
     refine block_exit ?_
     refine then_normal ?_
     refine go_seq_region [0, 1, 2, 3, 4, 5, 6, 7] kz ?_
     refine go_rn [0, 1, 2] [3, 4, 5, 6, 7] [(10, .v (.slice A4_ ((tagsK W l (Tree.mk n1 s2 b3 l4 u5) k2 ++ tagsB ((unknownT l u5).take k)).length) c4_)), (125, .v (.slice A_ ((bodyB W l v (Tree.mk n1 s2 b3 l4 u5) 0).length) c_)), (127, .v (.int .u64 (IntKind.u64.wrap ((tagsN W l (Tree.mk n1 s2 b3 l4 u5) k2 + k : Nat) : Int))))] ba bM fun oO gj => ?_
     clear bM
     have j2 : IntKind.u64.wrap ((tagsN W l (Tree.mk n1 s2 b3 l4 u5) k2 + k : Nat) : Int) = ((tagsN W l (Tree.mk n1 s2 b3 l4 u5) k2 + k : Nat) : Int) := by simp only [wrap_u64, wrap_u32, wrap_u16, IntKind.wrap_i64, IntKind.wrap_i32]; omega
     have gk := EnvOk.pick gj (ks := [10, 125, 127]) (env' := [(10, .v (.slice A4_ ((tagsK W l (Tree.mk n1 s2 b3 l4 u5) k2 ++ tagsB ((unknownT l u5).take k)).length) c4_)), (125, .v (.slice A_ ((bodyB W l v (Tree.mk n1 s2 b3 l4 u5) 0).length) c_)), (127, .v (.int .u64 (IntKind.u64.wrap ((tagsN W l (Tree.mk n1 s2 b3 l4 u5) k2 + k : Nat) : Int))))]) kz
     have gl := gk.cast (env' := [(10, .v (.slice A4_ ((tagsK W l (Tree.mk n1 s2 b3 l4 u5) k2 ++ tagsB ((unknownT l u5).take k)).length) c4_)), (125, .v (.slice A_ ((bodyB W l v (Tree.mk n1 s2 b3 l4 u5) 0).length) c_)), (127, .v (.int .u64 ((tagsN W l (Tree.mk n1 s2 b3 l4 u5) k2 + k : Nat) : Int)))]) (by rw [j2])
     clear gj gk
     refine of_op (wpOp_call gl (f := 127) (vs := [.int .u64 ((tagsN W l (Tree.mk n1 s2 b3 l4 u5) k2 + k : Nat) : Int)]) (d := 128) kz Tryz.call127 (sUvarint (tagsN W l (Tree.mk n1 s2 b3 l4 u5) k2 + k) (by omega) _) ?_)
     rintro e_ oP ⟨cS, cT, rfl, j3, j4⟩
     refine ⟨_, rfl, fun oQ gm => ?_⟩
     obtain ⟨cN, lQ⟩ := ba.frFresh j4 (brow cS cT 5 (uv (tagsN W l (Tree.mk n1 s2 b3 l4 u5) k2 + k))) (Nat.le_refl _) j3
     clear gl ba
     refine of_op (wpOp_append cN gm (k := 0) (d := 129) (t := 22) (e := 5) (size := 1) (bytes := 1) (A := A_) (As := cS) (m0 := ((bodyB W l v (Tree.mk n1 s2 b3 l4 u5) 0).length)) (c := c_) (m := ((uv (tagsN W l (Tree.mk n1 s2 b3 l4 u5) k2 + k)).length)) (cs := cT) (xs := (bc (bodyB W l v (Tree.mk n1 s2 b3 l4 u5) 0))) (news := bc (uv (tagsN W l (Tree.mk n1 s2 b3 l4 u5) k2 + k))) kz kz rfl (own_src (cN.own 2 _ rfl) (bc_one _)) (own_cap (cN.own 2 _ rfl)) (by have hkk3 : k = (unknownT l u5).length := (by omega); subst hkk3; subst hkk2; simp only [List.length_append, List.take_length] at *; omega) fun bi bj oR oS lR gn gp => ?_)
     clear gm cN
     have j5 : (⟨bi, bj, 5, 1, (bodyB W l v (Tree.mk n1 s2 b3 l4 u5) 0).length + (uv (tagsN W l (Tree.mk n1 s2 b3 l4 u5) k2 + k)).length, bc (bodyB W l v (Tree.mk n1 s2 b3 l4 u5) 0) ++ bc (uv (tagsN W l (Tree.mk n1 s2 b3 l4 u5) k2 + k))⟩ : Rw) = brow bi bj 5 (bodyB W l v (Tree.mk n1 s2 b3 l4 u5) 0 ++ (uv (tagsN W l (Tree.mk n1 s2 b3 l4 u5) k2 + k))) := brow_eq (rfl) rfl
     obtain ⟨bV, lS⟩ := gn.rowEq 0 [brow bi bj 5 (bodyB W l v (Tree.mk n1 s2 b3 l4 u5) 0 ++ (uv (tagsN W l (Tree.mk n1 s2 b3 l4 u5) k2 + k))), brow A4_ c4_ 5 (tagsK W l (Tree.mk n1 s2 b3 l4 u5) k2 ++ tagsB ((unknownT l u5).take k)), brow cS cT 5 (uv (tagsN W l (Tree.mk n1 s2 b3 l4 u5) k2 + k))] j5
     clear gn
     have gq := EnvOk.pick gp (ks := [10, 125, 127, 128, 129]) (env' := [(10, .v (.slice A4_ ((tagsK W l (Tree.mk n1 s2 b3 l4 u5) k2 ++ tagsB ((unknownT l u5).take k)).length) c4_)), (125, .v (.slice A_ ((bodyB W l v (Tree.mk n1 s2 b3 l4 u5) 0).length) c_)), (127, .v (.int .u64 ((tagsN W l (Tree.mk n1 s2 b3 l4 u5) k2 + k : Nat) : Int))), (128, .v (.slice cS ((uv (tagsN W l (Tree.mk n1 s2 b3 l4 u5) k2 + k)).length) cT)), (129, .v (.slice bi ((bodyB W l v (Tree.mk n1 s2 b3 l4 u5) 0).length + (uv (tagsN W l (Tree.mk n1 s2 b3 l4 u5) k2 + k)).length) bj))]) kz
     have gt := gq.cast (env' := [(10, .v (.slice A4_ ((tagsK W l (Tree.mk n1 s2 b3 l4 u5) k2 ++ tagsB ((unknownT l u5).take k)).length) c4_)), (125, .v (.slice A_ ((bodyB W l v (Tree.mk n1 s2 b3 l4 u5) 0).length) c_)), (127, .v (.int .u64 ((tagsN W l (Tree.mk n1 s2 b3 l4 u5) k2 + k : Nat) : Int))), (128, .v (.slice cS ((uv (tagsN W l (Tree.mk n1 s2 b3 l4 u5) k2 + k)).length) cT)), (129, .v (.slice bi ((bodyB W l v (Tree.mk n1 s2 b3 l4 u5) 0 ++ (uv (tagsN W l (Tree.mk n1 s2 b3 l4 u5) k2 + k))).length) bj))]) (by simp only [List.length_append, List.length_cons, List.length_nil, Nat.zero_add])
     clear gp
     clear gq
     refine go_rn [5] [6, 7] [(129, .v (.slice bi ((bodyB W l v (Tree.mk n1 s2 b3 l4 u5) 0 ++ (uv (tagsN W l (Tree.mk n1 s2 b3 l4 u5) k2 + k))).length) bj)), (130, .v (.slice A4_ ((tagsK W l (Tree.mk n1 s2 b3 l4 u5) k2 ++ tagsB ((unknownT l u5).take k)).length) c4_))] bV gt fun oT gv => ?_
     clear gt
     refine of_op (wpOp_append bV gv (k := 0) (d := 131) (t := 22) (e := 5) (size := 1) (bytes := 1) (A := bi) (As := A4_) (m0 := ((bodyB W l v (Tree.mk n1 s2 b3 l4 u5) 0 ++ (uv (tagsN W l (Tree.mk n1 s2 b3 l4 u5) k2 + k))).length)) (c := bj) (m := ((tagsK W l (Tree.mk n1 s2 b3 l4 u5) k2 ++ tagsB ((unknownT l u5).take k)).length)) (cs := c4_) (xs := (bc (bodyB W l v (Tree.mk n1 s2 b3 l4 u5) 0 ++ (uv (tagsN W l (Tree.mk n1 s2 b3 l4 u5) k2 + k))))) (news := bc (tagsK W l (Tree.mk n1 s2 b3 l4 u5) k2 ++ tagsB ((unknownT l u5).take k))) kz kz rfl (own_src (bV.own 1 _ rfl) (bc_one _)) (own_cap (bV.own 1 _ rfl)) (by have hkk3 : k = (unknownT l u5).length := (by omega); subst hkk3; subst hkk2; simp only [List.length_append, List.take_length] at *; omega) fun cd ce oU oV lT gw gx => ?_)
     clear gv bV
     have j6 : (⟨cd, ce, 5, 1, (bodyB W l v (Tree.mk n1 s2 b3 l4 u5) 0 ++ (uv (tagsN W l (Tree.mk n1 s2 b3 l4 u5) k2 + k))).length + (tagsK W l (Tree.mk n1 s2 b3 l4 u5) k2 ++ tagsB ((unknownT l u5).take k)).length, bc (bodyB W l v (Tree.mk n1 s2 b3 l4 u5) 0 ++ (uv (tagsN W l (Tree.mk n1 s2 b3 l4 u5) k2 + k))) ++ bc (tagsK W l (Tree.mk n1 s2 b3 l4 u5) k2 ++ tagsB ((unknownT l u5).take k))⟩ : Rw) = brow cd ce 5 (bodyB W l v (Tree.mk n1 s2 b3 l4 u5) 0 ++ (uv (tagsN W l (Tree.mk n1 s2 b3 l4 u5) k2 + k)) ++ (tagsK W l (Tree.mk n1 s2 b3 l4 u5) k2 ++ tagsB ((unknownT l u5).take k))) := brow_eq (rfl) rfl
     obtain ⟨dK, lU⟩ := gw.rowEq 0 [brow cd ce 5 (bodyB W l v (Tree.mk n1 s2 b3 l4 u5) 0 ++ (uv (tagsN W l (Tree.mk n1 s2 b3 l4 u5) k2 + k)) ++ (tagsK W l (Tree.mk n1 s2 b3 l4 u5) k2 ++ tagsB ((unknownT l u5).take k))), brow A4_ c4_ 5 (tagsK W l (Tree.mk n1 s2 b3 l4 u5) k2 ++ tagsB ((unknownT l u5).take k)), brow cS cT 5 (uv (tagsN W l (Tree.mk n1 s2 b3 l4 u5) k2 + k))] j6
     clear gw
     have gy := EnvOk.pick gx (ks := [129, 130, 131]) (env' := [(129, .v (.slice bi ((bodyB W l v (Tree.mk n1 s2 b3 l4 u5) 0 ++ (uv (tagsN W l (Tree.mk n1 s2 b3 l4 u5) k2 + k))).length) bj)), (130, .v (.slice A4_ ((tagsK W l (Tree.mk n1 s2 b3 l4 u5) k2 ++ tagsB ((unknownT l u5).take k)).length) c4_)), (131, .v (.slice cd ((bodyB W l v (Tree.mk n1 s2 b3 l4 u5) 0 ++ (uv (tagsN W l (Tree.mk n1 s2 b3 l4 u5) k2 + k))).length + (tagsK W l (Tree.mk n1 s2 b3 l4 u5) k2 ++ tagsB ((unknownT l u5).take k)).length) ce))]) kz
     have gz := gy.cast (env' := [(129, .v (.slice bi ((bodyB W l v (Tree.mk n1 s2 b3 l4 u5) 0 ++ (uv (tagsN W l (Tree.mk n1 s2 b3 l4 u5) k2 + k))).length) bj)), (130, .v (.slice A4_ ((tagsK W l (Tree.mk n1 s2 b3 l4 u5) k2 ++ tagsB ((unknownT l u5).take k)).length) c4_)), (131, .v (.slice cd ((bodyB W l v (Tree.mk n1 s2 b3 l4 u5) 0 ++ (uv (tagsN W l (Tree.mk n1 s2 b3 l4 u5) k2 + k)) ++ (tagsK W l (Tree.mk n1 s2 b3 l4 u5) k2 ++ tagsB ((unknownT l u5).take k))).length) ce))]) (by simp only [List.length_append, List.length_cons, List.length_nil, Nat.zero_add])
     clear gx
     clear gy
     refine go_rn [7] [] [(8, .v (.slice cd ((bodyB W l v (Tree.mk n1 s2 b3 l4 u5) 0 ++ (uv (tagsN W l (Tree.mk n1 s2 b3 l4 u5) k2 + k)) ++ (tagsK W l (Tree.mk n1 s2 b3 l4 u5) k2 ++ tagsB ((unknownT l u5).take k))).length) ce))] dK gz fun oW j7 => ?_
     clear gz
     refine wpOps_nil (then_normal ?_)
     refine wp_ret ?_
     refine leave j7 dK.cells (v := .slice cd ((bodyB W l v (Tree.mk n1 s2 b3 l4 u5) 0 ++ (uv (tagsN W l (Tree.mk n1 s2 b3 l4 u5) k2 + k)) ++ (tagsK W l (Tree.mk n1 s2 b3 l4 u5) k2 ++ tagsB ((unknownT l u5).take k))).length) ce) kz ?_
     have hkk3 : k = (unknownT l u5).length := by omega
     exact fresh_end dK (k := 0) rfl (by rw [show flex = true by simpa using cr, partW_flex, hkk3, hkk2, List.take_length])
theorem sPartOK : ∀ d, PartOK d
 | 0 => fun A c l v flex ct t w F hl hd ht hr => sPart (fun _ _ => []) A c l v flex ct t w F (fun cf f ct t w F hm hf ht hr => by
   obtain ⟨i, hi⟩ := List.mem_iff_getElem?.1 hm
   have h := depths_get hi
   obtain ⟨k, x1, x2, x3, x4, x5, x6, l, A, c, xs, rfl, _⟩ := hf.open_
   rw [depth_mk] at h; omega) hl ht hr
 | d + 1 => fun A c l v flex ct t w F hl hd ht hr => sPart (fun f t => fieldD d f v flex t) A c l v flex ct t w F (fun cf f ct t w F hm hf ht hr => sField (sPartOK d) cf f v flex ct t w F hf (by
   obtain ⟨i, hi⟩ := List.mem_iff_getElem?.1 hm
   have h := depths_get hi
   obtain ⟨k, x1, x2, x3, x4, x5, x6, l, A, c, xs, rfl, _⟩ := hf.open_
   rw [depth_mk] at h
   show depths l ≤ d
   omega) ht hr) hl ht hr
theorem sWrite {d : Nat} (A : Option Addr) (c : Nat) (l : List Fld) (x v : Int) (ct : List Value) (t : Tree) (w : World) (F : Nat → Nat → Prop) (hl : FldsR w F A c l) (hd : depths l ≤ d) (ht : TreeR w F ct t) (hroom : (writeB d l x v t).length ≤ 1099511627776) :
  Calls Tryz.prog 18 #[.agg #[.slice A l.length c, .int .i64 x], .int .i64 v, .agg ct.toArray] w (FreshB w 5 (writeB d l x v t)) := by
 obtain ⟨xfs, h1, h2⟩ := hl.ex
 have hsm := h1.small
 obtain ⟨n1, s2, b3, l4, u5, A6, c7, A8, c9, ag, ah, aI, rfl, rfl, aJ, aK, aV, aW⟩ := ht.open_
 have aG := aJ.small
 have aH := aK.small
 refine enter (n := 21) Tryz.func18 rfl Tryz.ntmps18 kz fun a hE => ?_
 have hW := WOk.start w Nil
 refine go_seq_region [0, 1, 2] kz ?_
 refine of_op (wpOp_box hW hE (d := 3) (cs := [.slice A l.length c, .int .i64 x]) kz fun aX aY aZ aL aM aN ai aj => ?_)
 clear hE hW
 refine of_op (wpOp_box ai aj (d := 5) (cs := [.int .i64 n1, .slice A6 s2.length c7, .bool b3, .slice A8 l4.length c9, .slice ag u5.length ah]) kz fun ba bd bf aO aP aQ aa ak => ?_)
 clear aj ai
 refine go_rn [2] [] [(1, .v (.int .i64 v)), (3, .p 0 0), (5, .p 1 0)] aa ak fun bg al => ?_
 clear ak
 refine wpOps_nil (then_normal ?_)
 refine go_seq_region [0, 1, 2, 3, 4, 5, 6, 7, 8, 9, 10, 11, 12, 13, 14] kz ?_
 refine go_rn [0, 1, 2, 3, 4, 5, 6] [7, 8, 9, 10, 11, 12, 13, 14] [(1, .v (.int .i64 v)), (3, .p 0 0), (5, .p 1 0), (8, .v (.slice A l.length c)), (9, .v (.int .i64 v)), (13, .v (.bool (decide (x ≥ 0))))] aa al fun bh ac => ?_
 clear al
 refine (Bool.eq_false_or_eq_true (decide (x ≥ 0))).elim (fun ab => ?_) (fun ab => ?_)
 ·
  have aR := of_decide_eq_true ab
  have am := ac.cast (env' := [(1, .v (.int .i64 v)), (3, .p 0 0), (5, .p 1 0), (8, .v (.slice A l.length c)), (9, .v (.int .i64 v)), (13, .v (.bool true))]) (by rw [ab])
  clear ac
  refine go_rn [7, 8, 9, 10, 11, 12] [13, 14] [(8, .v (.slice A l.length c)), (9, .v (.int .i64 v)), (18, .v (.bool (decide (v ≥ x)))), (19, .v (.agg #[.int .i64 n1, .slice A6 s2.length c7, .bool b3, .slice A8 l4.length c9, .slice ag u5.length ah]))] aa am fun bi ao => ?_
  clear am
  refine of_op (wpOp_call ao (f := 56) (vs := [.slice A l.length c, .int .i64 v, .bool (decide (v ≥ x)), .agg #[.int .i64 n1, .slice A6 s2.length c7, .bool b3, .slice A8 l4.length c9, .slice ag u5.length ah]]) (d := 20) kz Tryz.call56 (sPartOK _ _ _ l v (decide (v ≥ x)) _ (Tree.mk n1 s2 b3 l4 u5) _ _ ⟨xfs, (h1.move aa.step nilM aa.imm), (fun i_ x_ h_ => ((h2 i_ x_ h_).move aa.step nilM aa.imm))⟩ hd (ht.move aa.step nilM aa.imm) (by simpa [writeB, ab] using hroom)) ?_)
  rintro e_ bj ⟨aw, ax, rfl, ay, az⟩
  refine ⟨_, rfl, fun bk ap => ?_⟩
  obtain ⟨ae, aS⟩ := aa.frFresh az (brow aw ax 5 (partB d l v (decide (v ≥ x)) (Tree.mk n1 s2 b3 l4 u5))) (Nat.le_refl _) ay
  clear ao aa
  refine go_rn [14] [] [(6, .v (.slice aw ((partB d l v (decide (v ≥ x)) (Tree.mk n1 s2 b3 l4 u5)).length) ax))] ae ap fun bn aA => ?_
  clear ap
  refine wpOps_nil (then_normal ?_)
  refine wp_ret ?_
  refine leave aA ae.cells (v := .slice aw ((partB d l v (decide (v ≥ x)) (Tree.mk n1 s2 b3 l4 u5)).length) ax) kz ?_
  exact fresh_end ae (k := 0) rfl (by simp [writeB, ab])
 ·
  have aT := of_decide_eq_false ab
  have ar := ac.cast (env' := [(1, .v (.int .i64 v)), (3, .p 0 0), (5, .p 1 0), (8, .v (.slice A l.length c)), (9, .v (.int .i64 v)), (13, .v (.bool false))]) (by rw [ab])
  clear ac
  refine go_rn [7, 8, 9, 10, 11, 12] [13, 14] [(8, .v (.slice A l.length c)), (9, .v (.int .i64 v)), (18, .v (.bool false)), (19, .v (.agg #[.int .i64 n1, .slice A6 s2.length c7, .bool b3, .slice A8 l4.length c9, .slice ag u5.length ah]))] aa ar fun bo au => ?_
  clear ar
  refine of_op (wpOp_call au (f := 56) (vs := [.slice A l.length c, .int .i64 v, .bool false, .agg #[.int .i64 n1, .slice A6 s2.length c7, .bool b3, .slice A8 l4.length c9, .slice ag u5.length ah]]) (d := 20) kz Tryz.call56 (sPartOK _ _ _ l v false _ (Tree.mk n1 s2 b3 l4 u5) _ _ ⟨xfs, (h1.move aa.step nilM aa.imm), (fun i_ x_ h_ => ((h2 i_ x_ h_).move aa.step nilM aa.imm))⟩ hd (ht.move aa.step nilM aa.imm) (by simpa [writeB, ab] using hroom)) ?_)
  rintro e_ bp ⟨aB, aC, rfl, aD, aE⟩
  refine ⟨_, rfl, fun bq av => ?_⟩
  obtain ⟨af, aU⟩ := aa.frFresh aE (brow aB aC 5 (partB d l v false (Tree.mk n1 s2 b3 l4 u5))) (Nat.le_refl _) aD
  clear au aa
  refine go_rn [14] [] [(6, .v (.slice aB ((partB d l v false (Tree.mk n1 s2 b3 l4 u5)).length) aC))] af av fun bt aF => ?_
  clear av
  refine wpOps_nil (then_normal ?_)
  refine wp_ret ?_
  refine leave aF af.cells (v := .slice aB ((partB d l v false (Tree.mk n1 s2 b3 l4 u5)).length) aC) kz ?_
  exact fresh_end af (k := 0) rfl (by simp [writeB, ab])
def sCreatePartitionsResponseF : List Fld := [(Fld.mk 3 0 (-1) (-1) (-1) 0 0 []), (Fld.mk 11 0 (-1) (-1) (-1) 0 10 [(Fld.mk 8 0 (-1) (-1) (-1) 0 0 []), (Fld.mk 2 0 (-1) (-1) (-1) 0 0 []), (Fld.mk 8 0 (-1) 0 (-1) 0 0 [])])]
def sCreatePartitionsResponseX : Int := 2
theorem sCreatePartitionsResponse (w : World) (F : Nat → Nat → Prop) : Calls Tryz.prog 29 #[] w (GivesM w F sCreatePartitionsResponseF sCreatePartitionsResponseX) := by
 refine enter (n := 6) Tryz.func29 rfl Tryz.ntmps29 kz fun a hE => ?_
 have hW := WOk.start w Nil
 refine go_seq_region [0] kz ?_
 refine of_op (wpOp_alloc hW hE (d := 0) (cs := [.slice none 0 0, .int .i64 0]) kz fun b1 a2 w3 hb4 hz5 hF6 hW7 hE8 => ?_)
 clear hE hW
 refine wpOps_nil (then_normal ?_)
 refine go_seq_region [0, 1, 2, 3, 4, 5] kz ?_
 refine go_rn [0] [1, 2, 3, 4, 5] [(0, .p 0 0), (1, .v (.agg #[.int .i64 3, .int .i64 0, .int .i64 (-1), .int .i64 (-1), .int .i64 (-1), .int .i64 0, .int .i64 0, .slice none 0 0]))] hW7 hE8 fun a9 au => ?_
 clear hE8
 refine of_op (wpOp_inline au (f := 78) (vs := []) (d := 2) (n' := 5) kz Tryz.call78 Tryz.func78 rfl Tryz.ntmps78 kz fun aG ai => ?_)
 refine go_sp [] hW7 ai fun aH aj => ?_
 clear ai
 refine go_seq_region [0, 1, 2, 3, 4] kz ?_
 refine go_rn [0, 1, 2] [3, 4] [(1, .v (.agg #[.int .i64 8, .int .i64 0, .int .i64 (-1), .int .i64 (-1), .int .i64 (-1), .int .i64 0, .int .i64 0, .slice none 0 0])), (2, .v (.agg #[.int .i64 2, .int .i64 0, .int .i64 (-1), .int .i64 (-1), .int .i64 (-1), .int .i64 0, .int .i64 0, .slice none 0 0])), (3, .v (.agg #[.int .i64 8, .int .i64 0, .int .i64 (-1), .int .i64 0, .int .i64 (-1), .int .i64 0, .int .i64 0, .slice none 0 0]))] hW7 aj fun aI ak => ?_
 clear aj
 refine of_op (wpOp_lit hW7 ak (e := 52) (size := 8) (len := 3) (cs := [.int .i64 8, .int .i64 0, .int .i64 (-1), .int .i64 (-1), .int .i64 (-1), .int .i64 0, .int .i64 0, .slice none 0 0, .int .i64 2, .int .i64 0, .int .i64 (-1), .int .i64 (-1), .int .i64 (-1), .int .i64 0, .int .i64 0, .slice none 0 0, .int .i64 8, .int .i64 0, .int .i64 (-1), .int .i64 0, .int .i64 (-1), .int .i64 0, .int .i64 0, .slice none 0 0]) (d := 4) kz kz fun ag aJ aK az aA aB aa al => ?_)
 clear ak hW7
 refine go_rn [4] [] [(0, .v (.slice (some ⟨ag, 0, none⟩) 3 3))] aa al fun aL av => ?_
 clear al
 refine wpOps_nil (then_normal ?_)
 refine wp_ret ?_
 refine leave av aa.cells (v := .slice (some ⟨ag, 0, none⟩) 3 3) kz ?_
 refine ⟨_, rfl, fun aM aw => ?_⟩
 have am : EnvOk 6 [⟨b1, 0, [.slice none 0 0, .int .i64 0], true⟩] [(2, .v (.slice (some ⟨ag, 0, none⟩) 3 3)), (0, .p 0 0), (1, .v (.agg #[.int .i64 3, .int .i64 0, .int .i64 (-1), .int .i64 (-1), .int .i64 (-1), .int .i64 0, .int .i64 0, .slice none 0 0]))] _ := aw.places (⟨rfl, rfl, trivial⟩)
 refine go_rn [2] [3, 4, 5] [(0, .p 0 0), (1, .v (.agg #[.int .i64 3, .int .i64 0, .int .i64 (-1), .int .i64 (-1), .int .i64 (-1), .int .i64 0, .int .i64 0, .slice none 0 0])), (3, .v (.agg #[.int .i64 11, .int .i64 0, .int .i64 (-1), .int .i64 (-1), .int .i64 (-1), .int .i64 0, .int .i64 10, .slice (some ⟨ag, 0, none⟩) 3 3]))] aa am fun aN ao => ?_
 clear am
 refine of_op (wpOp_lit aa ao (e := 52) (size := 8) (len := 2) (cs := [.int .i64 3, .int .i64 0, .int .i64 (-1), .int .i64 (-1), .int .i64 (-1), .int .i64 0, .int .i64 0, .slice none 0 0, .int .i64 11, .int .i64 0, .int .i64 (-1), .int .i64 (-1), .int .i64 (-1), .int .i64 0, .int .i64 10, .slice (some ⟨ag, 0, none⟩) 3 3]) (d := 4) kz kz fun ax aO aP aC aD aE ah ap => ?_)
 clear ao aa
 refine go_rn [4] [5] [(0, .p 0 0), (5, .v (.agg #[.slice (some ⟨ax, 0, none⟩) 2 2, .int .i64 2]))] ah ap fun aQ ar => ?_
 clear ap
 refine of_op (wpOp_store ah ar (oi := 0) (cs := [.slice (some ⟨ax, 0, none⟩) 2 2, .int .i64 2]) kz fun ac aF ab ay => ?_)
 clear ar ah
 refine wpOps_nil (then_normal ?_)
 refine wp_ret ?_
 refine leave ay ab.cells (v := .agg #[.slice (some ⟨ax, 0, none⟩) 2 2, .int .i64 2]) kz ?_
 have ae := Flds.slots (F := F) ab (k := 0) (n := 3) (xs := [.int .i64 8, .int .i64 0, .int .i64 (-1), .int .i64 (-1), .int .i64 (-1), .int .i64 0, .int .i64 0, .slice none 0 0, .int .i64 2, .int .i64 0, .int .i64 (-1), .int .i64 (-1), .int .i64 (-1), .int .i64 0, .int .i64 0, .slice none 0 0, .int .i64 8, .int .i64 0, .int .i64 (-1), .int .i64 0, .int .i64 (-1), .int .i64 0, .int .i64 0, .slice none 0 0]) rfl (Flds.snoc (Flds.snoc (Flds.snoc (Flds.nil _ _) (c := [.int .i64 8, .int .i64 0, .int .i64 (-1), .int .i64 (-1), .int .i64 (-1), .int .i64 0, .int .i64 0, .slice none 0 0]) (x := (Fld.mk 8 0 (-1) (-1) (-1) 0 0 [])) (FldR.mk (l := []) _ (noFlds ac (Fp F w)).1 (noFlds ac (Fp F w)).2)) (c := [.int .i64 2, .int .i64 0, .int .i64 (-1), .int .i64 (-1), .int .i64 (-1), .int .i64 0, .int .i64 0, .slice none 0 0]) (x := (Fld.mk 2 0 (-1) (-1) (-1) 0 0 [])) (FldR.mk (l := []) _ (noFlds ac (Fp F w)).1 (noFlds ac (Fp F w)).2)) (c := [.int .i64 8, .int .i64 0, .int .i64 (-1), .int .i64 0, .int .i64 (-1), .int .i64 0, .int .i64 0, .slice none 0 0]) (x := (Fld.mk 8 0 (-1) 0 (-1) 0 0 [])) (FldR.mk (l := []) _ (noFlds ac (Fp F w)).1 (noFlds ac (Fp F w)).2)) rfl (by decide)
 have af := Flds.slots (F := F) ab (k := 1) (n := 2) (xs := [.int .i64 3, .int .i64 0, .int .i64 (-1), .int .i64 (-1), .int .i64 (-1), .int .i64 0, .int .i64 0, .slice none 0 0, .int .i64 11, .int .i64 0, .int .i64 (-1), .int .i64 (-1), .int .i64 (-1), .int .i64 0, .int .i64 10, .slice (some ⟨ag, 0, none⟩) 3 3]) rfl (Flds.snoc (Flds.snoc (Flds.nil _ _) (c := [.int .i64 3, .int .i64 0, .int .i64 (-1), .int .i64 (-1), .int .i64 (-1), .int .i64 0, .int .i64 0, .slice none 0 0]) (x := (Fld.mk 3 0 (-1) (-1) (-1) 0 0 [])) (FldR.mk (l := []) _ (noFlds ac (Fp F w)).1 (noFlds ac (Fp F w)).2)) (c := [.int .i64 11, .int .i64 0, .int .i64 (-1), .int .i64 (-1), .int .i64 (-1), .int .i64 0, .int .i64 10, .slice (some ⟨ag, 0, none⟩) 3 3]) (x := (Fld.mk 11 0 (-1) (-1) (-1) 0 10 [(Fld.mk 8 0 (-1) (-1) (-1) 0 0 []), (Fld.mk 2 0 (-1) (-1) (-1) 0 0 []), (Fld.mk 8 0 (-1) 0 (-1) 0 0 [])])) (FldR.mk (l := [(Fld.mk 8 0 (-1) (-1) (-1) 0 0 []), (Fld.mk 2 0 (-1) (-1) (-1) 0 0 []), (Fld.mk 8 0 (-1) 0 (-1) 0 0 [])]) _ ae.1 ae.2)) rfl (by decide)
 exact ⟨_, _, rfl, ⟨_, af.1, af.2⟩, ab.step⟩
end Go.Proofs.YtgolpmkenmedoaaGreatDoor.ME
namespace Go.Proofs.YtgolpmkenmedoaaGreatDoor.ME
open Go
open Go.RowKit
set_option linter.unusedVariables false
set_option linter.unusedSimpArgs false
set_option maxRecDepth 20000
def canCreatePartitionsResponseTopic (T : Tree) : Prop := ((T.at_ 0).S.length ≤ 32767) ∧ (True) ∧ ((octOf (T.at_ 2)).length ≤ 32767) ∧ canU T.U ∧ True
def canCreatePartitionsResponse (T : Tree) : Prop := (True) ∧ ((lst (T.at_ 1)).length ≤ 32767 ∧ ∀ x ∈ lst (T.at_ 1), canCreatePartitionsResponseTopic x) ∧ canU T.U ∧ True
theorem canfitCreatePartitionsResponse (v : Int) (t : Tree) : canCreatePartitionsResponse (fitT v 8 sCreatePartitionsResponseF t) := by
 unfold canCreatePartitionsResponse
 exact ⟨(trivial), (⟨lst_le2 (d := 7) (show sCreatePartitionsResponseF[1]? = _ from rfl), lst_mem (d := 7) (Q := canCreatePartitionsResponseTopic) (show sCreatePartitionsResponseF[1]? = _ from rfl) fun y => by
   have h := fit_10 (v := v) (d := 7) (x1 := 0) (x2 := -1) (x5 := 0) (x6 := 10) (s := [(Fld.mk 8 0 (-1) (-1) (-1) 0 0 []), (Fld.mk 2 0 (-1) (-1) (-1) 0 0 []), (Fld.mk 8 0 (-1) 0 (-1) 0 0 [])]) (b := Fld.nul (Fld.mk 10 0 (-1) (-1) (-1) 0 10 [(Fld.mk 8 0 (-1) (-1) (-1) 0 0 []), (Fld.mk 2 0 (-1) (-1) (-1) 0 0 []), (Fld.mk 8 0 (-1) 0 (-1) 0 0 [])]) v y) (x := y)
   unfold canCreatePartitionsResponseTopic
   simp only [h.1, h.2]
   exact ⟨(by rw [fit_t (d := 6) (show [(Fld.mk 8 0 (-1) (-1) (-1) 0 0 []), (Fld.mk 2 0 (-1) (-1) (-1) 0 0 []), (Fld.mk 8 0 (-1) 0 (-1) 0 0 [])][0]? = _ from rfl) (by decide)]; exact Nat.le_trans (whole_le _) (by decide)), (trivial), (octs_le2 (d := 6) (show [(Fld.mk 8 0 (-1) (-1) (-1) 0 0 []), (Fld.mk 2 0 (-1) (-1) (-1) 0 0 []), (Fld.mk 8 0 (-1) 0 (-1) 0 0 [])][2]? = _ from rfl) (by decide)), (canU_fit), (trivial)⟩⟩), (canU_fit), (trivial)⟩
set_option maxHeartbeats 4000000 in
theorem pureCreatePartitionsResponse (v : Int) (h0 : 0 ≤ v) (h1 : v < 32768) (t : Tree) : tCreatePartitionsResponse v (fitT v 8 sCreatePartitionsResponseF t) = writeB 8 sCreatePartitionsResponseF sCreatePartitionsResponseX v t := by
 have ah : ((fitT v 8 sCreatePartitionsResponseF t).at_ 0).N = (t.at_ 0).N := fit_N (d := 7) (show sCreatePartitionsResponseF[0]? = _ from rfl) (by decide)
 obtain ⟨f51n, ai⟩ := fit_11 (v := v) (d := 7) (t := t) (l := sCreatePartitionsResponseF) (i := 1) (show sCreatePartitionsResponseF[1]? = _ from rfl)
 have ac : ∀ ab : Tree, (fun aa : Tree => (if (decide (v ≥ 2)) = true then (uv ((aa.at_ 0).S.length + 1) ++ (aa.at_ 0).S) else (be 2 (aa.at_ 0).S.length ++ (aa.at_ 0).S)) ++ ((be 2 ((IntKind.i16.wrap (aa.at_ 1).N))) ++ ((if (decide (v ≥ 2)) = true then (if (aa.at_ 2).null = true then uv 0 else uv ((octOf (aa.at_ 2)).length + 1) ++ (octOf (aa.at_ 2))) else (if (aa.at_ 2).null = true then be 2 (-1) else be 2 (octOf (aa.at_ 2)).length ++ (octOf (aa.at_ 2)))) ++ (if (decide (v ≥ 2)) = true then (uv aa.U.length) ++ (tagsR aa.U) else [])))) (fitted0 (fitT v 7) (Fld.mk 10 0 (-1) (-1) (-1) 0 10 [(Fld.mk 8 0 (-1) (-1) (-1) 0 0 []), (Fld.mk 2 0 (-1) (-1) (-1) 0 0 []), (Fld.mk 8 0 (-1) 0 (-1) 0 0 [])]) (Fld.nul (Fld.mk 10 0 (-1) (-1) (-1) 0 10 [(Fld.mk 8 0 (-1) (-1) (-1) 0 0 []), (Fld.mk 2 0 (-1) (-1) (-1) 0 0 []), (Fld.mk 8 0 (-1) 0 (-1) 0 0 [])]) v ab) ab) = partB 7 [(Fld.mk 8 0 (-1) (-1) (-1) 0 0 []), (Fld.mk 2 0 (-1) (-1) (-1) 0 0 []), (Fld.mk 8 0 (-1) 0 (-1) 0 0 [])] v (decide (v ≥ 2)) ab := by
  intro ab
  dsimp only
  obtain ⟨ae, af⟩ := fit_10 (v := v) (d := 7) (x1 := 0) (x2 := -1) (x5 := 0) (x6 := 10) (s := [(Fld.mk 8 0 (-1) (-1) (-1) 0 0 []), (Fld.mk 2 0 (-1) (-1) (-1) 0 0 []), (Fld.mk 8 0 (-1) 0 (-1) 0 0 [])]) (b := Fld.nul (Fld.mk 10 0 (-1) (-1) (-1) 0 10 [(Fld.mk 8 0 (-1) (-1) (-1) 0 0 []), (Fld.mk 2 0 (-1) (-1) (-1) 0 0 []), (Fld.mk 8 0 (-1) 0 (-1) 0 0 [])]) v ab) (x := ab)
  simp only [ae, af]
  have aj := fit_t (v := v) (d := 6) (t := ab) (l := [(Fld.mk 8 0 (-1) (-1) (-1) 0 0 []), (Fld.mk 2 0 (-1) (-1) (-1) 0 0 []), (Fld.mk 8 0 (-1) 0 (-1) 0 0 [])]) (i := 0) (show [(Fld.mk 8 0 (-1) (-1) (-1) 0 0 []), (Fld.mk 2 0 (-1) (-1) (-1) 0 0 []), (Fld.mk 8 0 (-1) 0 (-1) 0 0 [])][0]? = _ from rfl) (by decide)
  have ak : ((fitT v 7 [(Fld.mk 8 0 (-1) (-1) (-1) 0 0 []), (Fld.mk 2 0 (-1) (-1) (-1) 0 0 []), (Fld.mk 8 0 (-1) 0 (-1) 0 0 [])] ab).at_ 1).N = (ab.at_ 1).N := fit_N (d := 6) (show [(Fld.mk 8 0 (-1) (-1) (-1) 0 0 []), (Fld.mk 2 0 (-1) (-1) (-1) 0 0 []), (Fld.mk 8 0 (-1) 0 (-1) 0 0 [])][1]? = _ from rfl) (by decide)
  have ag := fit_o (v := v) (d := 6) (t := ab) (l := [(Fld.mk 8 0 (-1) (-1) (-1) 0 0 []), (Fld.mk 2 0 (-1) (-1) (-1) 0 0 []), (Fld.mk 8 0 (-1) 0 (-1) 0 0 [])]) (i := 2) (show [(Fld.mk 8 0 (-1) (-1) (-1) 0 0 []), (Fld.mk 2 0 (-1) (-1) (-1) 0 0 []), (Fld.mk 8 0 (-1) 0 (-1) 0 0 [])][2]? = _ from rfl) (by decide)
  simp only [fit_U, tagsR_whole, wholeU_len, List.flatMap_map, List.length_map, aj, ak, ag.1, ag.2]
  try simp only [be4_i32', be2_i16, be8_i64, be1_i8, be2_wrap, sixteenB_uuid, bool8, be8_f64]
  by_cases c0 : v ≥ 2 <;> by_cases n0 : Fld.nul (Fld.mk 8 0 (-1) 0 (-1) 0 0 []) v (ab.at_ 2) = true <;> (try have m0 := nul_ge n0) <;> first | (exfalso; omega) | simp [partB, partW, bodyB, Fld.tag, Fld.has, fieldB, Fld.kind, Fld.null, Fld.of, Fld.sub, valueB, widthI, tagsN, tagsK, knownI, countedB, uv0, nul_no, c0, n0, h0]
 unfold tCreatePartitionsResponse
 simp only [fit_U, tagsR_whole, wholeU_len, List.flatMap_map, List.length_map, ah, f51n, ai]
 simp only [ac]
 try simp only [be4_i32', be2_i16, be8_i64, be1_i8, be2_wrap, sixteenB_uuid, bool8, be8_f64]
 by_cases c0 : v ≥ 2 <;> first | (exfalso; omega) | simp [writeB, sCreatePartitionsResponseX, sCreatePartitionsResponseF, partB, partW, bodyB, Fld.tag, Fld.has, fieldB, Fld.kind, Fld.null, Fld.of, Fld.sub, valueB, widthI, tagsN, tagsK, knownI, countedB, uv0, nul_no, c0, h0]
end Go.Proofs.YtgolpmkenmedoaaGreatDoor.ME
namespace Go.Proofs.YtgolpmkenmedoaaGreatDoor.ME
open Go
set_option linter.unusedVariables false
set_option linter.unusedSimpArgs false
def dv0 : DV := .leaf
end Go.Proofs.YtgolpmkenmedoaaGreatDoor.ME
namespace Go.Proofs.YtgolpmkenmedoaaGreatDoor.ME
open Go
open Go.RowKit
set_option linter.unusedVariables false
set_option linter.unusedSimpArgs false
def Moves (ok : World → (Nat → Nat → Prop) → DV → Prop) : Prop := ∀ {w w' : World} {F F' M : Nat → Nat → Prop} (d : DV), Step w w' M → (∀ b o, F b o → b < w.heap.size → ¬ M b o) → (∀ b o, F b o → b < w.heap.size → F' b o) → ok w F d → ok w' F' d
section
variable {w w' w0 : World} {F F' M : Nat → Nat → Prop} {size : Nat} {cells : DV → List Value} {ok : World → (Nat → Nat → Prop) → DV → Prop} {rel : DV → Tree → Prop} {xs : List Value} {ds : List DV} {ts : List Tree} {A : Option Addr} {c : Nat} {f : Nat → DV} {tb : Tb} {rs rs' : List Rw}
end
theorem wp_join {P : Program} {c : Code} {Mid N : Act → World → Prop} {Q : Exit → Act → World → Prop} {a : Act} {w : World} (h1 : c.wp P (Exit.then Mid Q) a w) (h2 : ∀ a' w', Mid a' w' → N a' w') : c.wp P (Exit.then N Q) a w :=
 wp_mono h1 fun e a' w' h => by
  cases e <;> first | exact h2 a' w' h | exact h
def dvN (n : Int) : DV := .mk n false ByteArray.empty [] none 0 0 none [] (fun _ => .leaf)
def dvS (s : ByteArray) : DV := .mk 0 false s [] none 0 0 none [] (fun _ => .leaf)
def dvT (A : Option Addr) (s : ByteArray) : DV := .mk 0 false s [] A 0 0 none [] (fun _ => .leaf)
def dvL (A : Option Addr) (l c : Nat) (f : Nat → DV) : DV := .mk 0 false ByteArray.empty [] A l c none [] f
def dvP (m : Option Nat) (u : List (Int × Bs)) (fs : List DV) : DV := .mk 0 false ByteArray.empty [] none 0 0 m u (fun i => fs.getD i .leaf)
theorem EnvOk.retable {n : Nat} {env : Env} {a : Act} (tb : Tb) (h : EnvOk n [] env a) : EnvOk n tb env a := h.table fun i hi => absurd hi (Nat.not_lt_zero i)
def cutA (A : Option Addr) (cp j : Nat) : Option Addr := if cp = j then A else A.map (·.add j)
theorem getD_drop (s : Bs) (j i : Nat) : (s.drop j).getD i 0 = s.getD (j + i) 0 := by
 rw [List.getD_eq_getElem?_getD, List.getD_eq_getElem?_getD, List.getElem?_drop]
theorem Octs.drop {w : World} {F : Nat → Nat → Prop} {A : Option Addr} {c : Nat} {s : Bs} (h : Octs w F A c s) {j : Nat} (hj : j ≤ s.length) : Octs w F (cutA A c j) (c - j) (s.drop j) := by
 have hle := h.le
 have hsm := h.small
 unfold Octs
 rw [List.length_drop]
 refine ⟨by omega, by omega, fun hA => ?_, fun ad hA hn => ?_⟩
 ·have hn : A = none := by
   unfold cutA at hA
   split at hA
   ·exact hA
   ·cases A with
    | none => rfl
    | some _ => cases hA
  have := h.none_ hn
  omega
 ·have hA' : A.map (·.add j) = some ad := by
   unfold cutA at hA
   rwa [if_neg (by omega)] at hA
  cases hq : A with
  | none => rw [hq] at hA'; cases hA'
  | some ad0 =>
   rw [hq] at hA'
   obtain ⟨b, o, rfl, h2⟩ := h.some_ ad0 hq (by omega)
   simp only [Option.map_some, Option.some.injEq, add_none] at hA'
   subst hA'
   refine ⟨b, o + j, rfl, fun i hi => ?_⟩
   rw [getD_drop, show o + j + i * 1 = o + (j + i) * 1 by omega]
   exact h2 (j + i) (by omega)
theorem Octs.cutS {w : World} {F : Nat → Nat → Prop} {A : Option Addr} {c : Nat} {s : Bs} (h : Octs w F A c s) {j : Nat} (hj : j ≤ s.length) : Octs w F A j (s.take j) := by
 have h1 := h.take j
 refine ⟨by rw [List.length_take]; omega, h1.small, fun hA => ?_, h1.some_⟩
 have := h.none_ hA
 rw [List.length_take]; omega
section
variable {P : Program} {ops : Array Oper} {Q : Exit → Act → World → Prop} {n : Nat} {tb : Tb} {env : Env} {rs : List Rw} {w0 : World} {M : Nat → Nat → Prop} {a : Act} {w : World}
theorem run_cut_lo {t e : TypeId} {bytes : Nat} (ht : rowTy P t = some (e, 1, bytes)) {A : Option Addr} {m cp : Nat} {k : IntKind} {q : Int} (h0 : 0 ≤ q) (h1 : q ≤ m) :
  (Instr.sliceAt t (.slice A m cp) (some (.int k q)) none none).run P w = .ok (.slice (cutA A cp q.toNat) (m - q.toNat) (cp - q.toNat)) w := by
 obtain ⟨ht', inf, z, hi, hz, hzs, hs1, rfl, hsz, hbp⟩ := rowTy_ok ht
 unfold Instr.sliceAt
 simp only [Sem.run_bind, run_underlying ht', Result.andThen_ok]
 unfold Instr.slice
 have hb : (0 ≤ q ∧ q ≤ (m : Int)) := ⟨h0, h1⟩
 simp only [Sem.run_bind, run_underlying ht', Result.andThen_ok, Instr.sliceBounds, Instr.sliceBound, asIntOf, Sem.run_pure, if_pos hb, run_sizeOf' hi, hs1, Nat.mul_one]
 rfl
theorem run_cut_hm {t e : TypeId} {bytes : Nat} (ht : rowTy P t = some (e, 1, bytes)) {A : Option Addr} {m cp : Nat} {k : IntKind} {q : Int} (h0 : 0 ≤ q) (h1 : q ≤ cp) :
  (Instr.sliceAt t (.slice A m cp) none (some (.int k q)) (some (.int k q))).run P w = .ok (.slice A q.toNat q.toNat) w := by
 obtain ⟨ht', inf, z, hi, hz, hzs, hs1, rfl, hsz, hbp⟩ := rowTy_ok ht
 unfold Instr.sliceAt
 simp only [Sem.run_bind, run_underlying ht', Result.andThen_ok]
 unfold Instr.slice
 have hb : (0 ≤ q ∧ q ≤ (cp : Int)) := ⟨h0, h1⟩
 have hb2 : (0 ≤ q ∧ q ≤ ((q.toNat : Nat) : Int)) := ⟨h0, by omega⟩
 simp only [Sem.run_bind, run_underlying ht', Result.andThen_ok, Instr.sliceBounds, Instr.sliceBound, asIntOf, Sem.run_pure, if_pos hb, if_pos hb2, run_sizeOf' hi]
 cases A with
 | none => simp
 | some ad => simp [Addr.add]
theorem wpOp_cut_lo {i d j : Nat} {N : Act → World → Prop} {t e : TypeId} {bytes m cp : Nat} {A : Option Addr} {q : Int} (hE : EnvOk n tb env a) (h : cutE tb env ops n i = some (t, .slice A m cp, some q, none, d)) (ht : rowTy P t = some (e, 1, bytes)) (hq : q = (j : Int)) (hj : j ≤ m)
  (K : ∀ a', EnvOk n tb ((d, .v (.slice (cutA A cp j) (m - j) (cp - j))) :: env) a' → N a' w) : wpOp P ops Q i N a w := by
 have h0 : 0 ≤ q := by omega
 have h1 : q ≤ m := by omega
 obtain rfl : j = q.toNat := by omega
 unfold cutE at h
 split at h
 ·rename_i t' x lo hi d' ho
  have hd : d' < n := (opAt_ok hE ho).choose_spec.2.2.2.1
  split at h
  ·simp at h
  ·rename_i s l hs
   split at h
   ·rename_i k q' hs2
    simp only [Option.some.injEq, Prod.mk.injEq, true_and] at h
    obtain ⟨rfl, hsv, rfl, rfl⟩ := h
    have e1 := (opd_ok hE hs).1
    have e2 := (opd_ok hE hs2).1
    refine wpOp_value hE ho (v := .slice (cutA A cp q'.toNat) (m - q'.toNat) (cp - q'.toNat)) (w' := w) (fun o' hop => ?_) (K _ (hE.put hd (.v _) trivial))
    unfold execOp
    rw [hop]
    rw [hsv] at e1
    simp only [SV.val] at e2
    simp only [e1, e2, Option.map_none, Option.map_some, Sem.run_bind, run_cut_lo ht h0 h1, Result.andThen_ok, Sem.run_pure]
   ·cases h
  ·split at h <;> simp at h
  ·split at h <;> simp at h
  ·cases h
 ·cases h
def cutmE (tb : Tb) (env : Env) (ops : Array Oper) (n i : Nat) : Option (TypeId × Value × IntKind × Int × IntKind × Int × Nat) :=
 match opAt env ops n i with
 | some (.slice t x none (some h) (some m), d) => match opd env x, opd env h, opd env m with
  | some s, some (.v (.int k p)), some (.v (.int k' q)) => some (t, s.val tb, k, p, k', q, d)
  | _, _, _ => none
 | _ => none
theorem wpOp_cutm {i d j : Nat} {N : Act → World → Prop} {t e : TypeId} {bytes m cp : Nat} {A : Option Addr} {k : IntKind} {q : Int} (hE : EnvOk n tb env a) (h : cutmE tb env ops n i = some (t, .slice A m cp, k, q, k, q, d)) (ht : rowTy P t = some (e, 1, bytes)) (hq : q = (j : Int)) (hj : j ≤ cp)
  (K : ∀ a', EnvOk n tb ((d, .v (.slice A j j)) :: env) a' → N a' w) : wpOp P ops Q i N a w := by
 have h0 : 0 ≤ q := by omega
 have h1 : q ≤ cp := by omega
 obtain rfl : j = q.toNat := by omega
 unfold cutmE at h
 split at h
 ·rename_i t' x hh mm d' ho
  have hd : d' < n := (opAt_ok hE ho).choose_spec.2.2.2.1
  split at h
  ·rename_i s k1 p1 k2 q2 g1 g2 g3
   simp only [Option.some.injEq, Prod.mk.injEq] at h
   obtain ⟨rfl, hsv, rfl, rfl, rfl, rfl, rfl⟩ := h
   have f1 := (opd_ok hE g1).1
   have f2 := (opd_ok hE g2).1
   have f3 := (opd_ok hE g3).1
   rw [hsv] at f1
   simp only [SV.val] at f2 f3
   refine wpOp_value hE ho (v := .slice A q2.toNat q2.toNat) (w' := w) (fun o' hop => ?_) (K _ (hE.put hd (.v _) trivial))
   unfold execOp
   rw [hop]
   simp only [f1, f2, f3, Option.map_none, Option.map_some, Sem.run_bind, run_cut_hm ht h0 h1, Result.andThen_ok, Sem.run_pure]
  ·cases h
 ·cases h
end
structure RdS (w : World) (F : Nat → Nat → Prop) (A : Option Addr) (n c : Nat) (s : Bs) : Prop where
 len : n = s.length
 oct : Octs w F A c s
theorem RdS.move {w w' : World} {F F' M : Nat → Nat → Prop} {A : Option Addr} {n c : Nat} {s : Bs} (h : RdS w F A n c s) (hs : Step w w' M) (hM : ∀ b o, F b o → b < w.heap.size → ¬ M b o) (hF : ∀ b o, F b o → b < w.heap.size → F' b o) : RdS w' F' A n c s := ⟨h.len, Octs.move h.oct hs hM hF⟩
theorem RdS.cast {w : World} {F : Nat → Nat → Prop} {A : Option Addr} {n c : Nat} {s t : Bs} (h : RdS w F A n c s) (e : s = t) : RdS w F A n c t := e ▸ h
theorem RdS.drop {w : World} {F : Nat → Nat → Prop} {A : Option Addr} {n c j : Nat} {s t : Bs} (h : RdS w F A n c (s ++ t)) (hj : j = s.length) : RdS w F (cutA A c j) (n - j) (c - j) t := by
 subst hj
 have h1 := h.oct.drop (j := s.length) (by rw [List.length_append]; omega)
 rw [List.drop_left] at h1
 exact ⟨by rw [h.len, List.length_append]; omega, h1⟩
theorem RdS.front {w : World} {F : Nat → Nat → Prop} {A : Option Addr} {n c j : Nat} {s t : Bs} (h : RdS w F A n c (s ++ t)) (hj : j = s.length) : Octs w F A j s := by
 subst hj
 have h1 := h.oct.cutS (j := s.length) (by rw [List.length_append]; omega)
 rwa [List.take_left] at h1
def RdM (br : Nat) : Nat → Nat → Prop := fun b o => b = br ∧ o < 2
def RdPost (w : World) (br : Nat) (F : Nat → Nat → Prop) (rest : Bs) (Q : Value → World → Prop) : Ending → World → Prop := fun e w' =>
 ∃ v A' n' c', e = .returned v ∧ Str w' br [.slice A' n' c', .bool false] ∧ RdS w' F A' n' c' rest ∧ Step w w' (RdM br) ∧ Q v w'
theorem WOk.startStr {w : World} {p : Nat} {cs : List Value} (h : Str w p cs) (hn : Nat.blt 0 cs.length = true := by kernel_rfl) : WOk w (fun b o => b = p ∧ o < cs.length) w [⟨p, 0, cs, true⟩] [] := by
 have hn' : 0 < cs.length := by simpa [Nat.blt_eq] using hn
 exact (WOk.start w _).add ⟨p, 0, cs, true⟩ (World.lt_of_cell (h.at_ 0 _ (List.getElem?_eq_getElem hn'))) (fun j v hj => by rw [Nat.zero_add]; exact h.at_ j v hj) (fun _ j hj => ⟨.inr ⟨rfl, by rw [Nat.zero_add]; exact hj⟩, by rw [Nat.zero_add]; exact h.frz j hj⟩) (fun i o hi => by simp at hi) (fun i r hi => by simp at hi)
theorem WOk.wrote {w0 w w' : World} {M : Nat → Nat → Prop} {tb : Tb} {rs : List Rw} {p : Nat} {cs cs' : List Value} (hW : WOk w0 M w tb rs) (i : Nat) (tb' : Tb) (hi : tb[i]? = some ⟨p, 0, cs, true⟩) (hst : Step w w' (fun b o => b = p ∧ o < cs.length)) (hs : Str w' p cs') (ht : tb.set i ⟨p, 0, cs', true⟩ = tb' := by rfl) (hl : cs'.length = cs.length := by rfl) :
  WOk w0 M w' tb' rs ∧ Fr w tb rs w' tb' rs ∧ ∀ {G : Nat → Nat → Prop} (b o : Nat), Fp (Imm G w0 w tb rs) w b o → b < w'.heap.size → Imm G w0 w' tb' rs b o := by
 subst ht
 have key : ∀ (j : Nat) (o : Ob), (tb.set i ⟨p, 0, cs', true⟩)[j]? = some o → (j = i ∧ o = ⟨p, 0, cs', true⟩) ∨ (j ≠ i ∧ tb[j]? = some o) := fun j o hj => by
  rcases set_get hj with ⟨h1, h2, _⟩ | ⟨h1, h2⟩
  ·exact .inl ⟨h1, h2⟩
  ·exact .inr ⟨h1, h2⟩
 have far : ∀ (j : Nat) (o : Ob), j ≠ i → tb[j]? = some o → ∀ q, q < o.cells.length → ¬ (o.blk = p ∧ o.off + q < cs.length) := fun j o hne hj q hq e => by
  rcases hW.apart j i o _ hne hj hi (.inr rfl) with h1 | h1 | h1
  ·exact h1 e.1
  ·simp only [Nat.le_zero] at h1; omega
  ·simp only [Nat.zero_add] at h1; omega
 have act : ∀ b o, Act_ (tb.set i ⟨p, 0, cs', true⟩) rs b o → Act_ tb rs b o := fun b o ha => by
  rcases ha with ⟨j, ob, hj, h1, h2, h3, h4⟩ | ha
  ·rcases key j ob hj with ⟨rfl, rfl⟩ | ⟨_, hj⟩
   ·exact .inl ⟨j, _, hi, rfl, h2, h3, by simpa [hl] using h4⟩
   ·exact .inl ⟨j, ob, hj, h1, h2, h3, h4⟩
  ·exact .inr ha
 refine ⟨⟨hW.step.trans hst fun b o hb e => ?_, ?_, ?_, ?_, ?_, ?_, hW.ownM, ?_, hW.rr⟩, ⟨fun b o _ hn ha => hn (act b o ha), hst.mono fun b o _ e => .inl ⟨i, _, hi, rfl, e.1.symm, Nat.zero_le _, by simpa using e.2⟩⟩, fun b o hf hb => ?_⟩
 rotate_right
 ·rcases hf with hf | hf
  ·exact ⟨hf.1, hb, fun ha => hf.2.2 (act b o ha)⟩
  ·exact ⟨.inr (Nat.le_trans hW.step.size hf), hb, fun ha => by have := hW.act_live (act b o ha); omega⟩
 ·have h1 := (hW.rw_ i _ hi rfl o e.2).1
  simp only [Nat.zero_add] at h1
  rcases h1 with h1 | h1
  ·have := e.1; omega
  ·rw [e.1]; exact h1
 ·intro j o hj q v hv
  rcases key j o hj with ⟨rfl, rfl⟩ | ⟨hne, hj⟩
  ·dsimp only
   rw [Nat.zero_add]
   exact hs.at_ q v hv
  ·exact hst.cell (far j o hne hj q (List.getElem?_eq_some_iff.1 hv).1) (hW.cells j o hj q v hv)
 ·intro j o hj
  rcases key j o hj with ⟨rfl, rfl⟩ | ⟨_, hj⟩
  ·have h1 := hW.live j _ hi
   exact Nat.lt_of_lt_of_le h1 hst.size
  ·exact Nat.lt_of_lt_of_le (hW.live j o hj) hst.size
 ·intro j o hj hr q hq
  rcases key j o hj with ⟨rfl, rfl⟩ | ⟨hne, hj⟩
  ·dsimp only at hq ⊢
   refine ⟨(hW.rw_ j _ hi rfl q (by simpa [hl] using hq)).1, ?_⟩
   rw [Nat.zero_add]
   exact hs.frz q hq
  ·obtain ⟨h1, h2⟩ := hW.rw_ j o hj hr q hq
   exact ⟨h1, hst.frozen (far j o hne hj q hq) (hW.cells j o hj q _ (List.getElem?_eq_getElem hq)) h2⟩
 ·intro j k o o' hjk hj hk hw
  rcases key j o hj with ⟨rfl, rfl⟩ | ⟨hne, hj'⟩
  ·rcases key k o' hk with ⟨rfl, rfl⟩ | ⟨hne', hk'⟩
   ·exact absurd rfl hjk
   ·have := hW.apart j k _ o' hjk hi hk' (.inl rfl)
    simpa [hl] using this
  ·rcases key k o' hk with ⟨rfl, rfl⟩ | ⟨hne', hk'⟩
   ·have := hW.apart j k o _ hjk hj' hi (.inr rfl)
    simpa [hl] using this
   ·exact hW.apart j k o o' hjk hj' hk' hw
 ·intro j r hj
  refine own_keep (hW.own j r hj) fun g hg => (hst.keeps g (own_live (hW.own j r hj) hg)).1 fun o e => ?_
  exact hW.rtb j r hj g hg i _ hi e.1.symm
 ·intro j r hj g hg k o hk
  rcases key k o hk with ⟨rfl, rfl⟩ | ⟨_, hk⟩
  ·have h1 := hW.rtb j r hj g hg k _ hi
   exact h1
  ·exact hW.rtb j r hj g hg k o hk
theorem WOk.giveUp {G : Nat → Nat → Prop} {w0 w : World} {tb : Tb} {rs : List Rw} {A : Option Addr} {c e : Nat} {s : Bs} (hW : WOk w0 Nil w tb rs) (k : Nat) (rs' : List Rw) (hk : rs[k]? = some (brow A c e s)) (hsm : s.length ≤ 1099511627776) (hr : rs.take k = rs' := by rfl) : Octs w (Imm G w0 w tb rs') A c s := by
 subst hr
 refine octs_own (hW.own k _ hk) hsm fun g hg o => ?_
 have hb := own_live (hW.own k _ hk) (r := brow A c e s) hg
 refine ⟨?_, hb, fun ha => ?_⟩
 ·rcases hW.ownM k _ hk g hg with h2 | h2
  ·exact .inr h2
  ·exact (h2 0).elim
 ·rcases ha with ⟨i, ob, h2, _, h3, _⟩ | ⟨i, r, h2, h3⟩
  ·exact hW.rtb k _ hk g hg i ob h2 h3
  ·rw [List.getElem?_take] at h2
   split at h2
   ·rename_i hlt
    exact hW.rr k i _ r (by omega) hk h2 g hg h3
   ·cases h2
theorem imm_not {G : Nat → Nat → Prop} {w0 w : World} {tb : Tb} {rs : List Rw} {p : Nat} {cs : List Value} (i : Nat) (hi : tb[i]? = some ⟨p, 0, cs, true⟩) : ∀ b o, Imm G w0 w tb rs b o → ¬ (b = p ∧ o < cs.length) := fun b o h e => by
 obtain ⟨rfl, h2⟩ := e
 exact h.2.2 (.inl ⟨i, _, hi, rfl, rfl, Nat.zero_le _, by simpa using h2⟩)
end Go.Proofs.YtgolpmkenmedoaaGreatDoor.ME
namespace Go.Proofs.YtgolpmkenmedoaaGreatDoor.ME
open Go
set_option linter.unusedVariables false
set_option linter.unusedSimpArgs false
theorem scope_ret {Q : Exit → Act → World → Prop} {a : Act} {w : World} (h : Q .ret a w) : Exit.noGoto Q .ret a w := h
theorem or_join (k : IntKind) (n : Nat) (hn : n = k.bits) (hk : ∀ z : Int, 0 ≤ z → z < 2 ^ n → k.wrap z = z) (i : Nat) (y x : Int) (h0 : 0 ≤ y) (h1 : y < 2 ^ i) (h2 : y < 2 ^ n) (h3 : 0 ≤ x) (h4 : x % 2 ^ i = 0) (h5 : x < 2 ^ n) :
  k.wrap (BitVec.ofInt n y ||| BitVec.ofInt n x).toNat = y + x := by
 subst hn
 exact bits_join_low k k.bits (Nat.le_refl _) hk i y x h0 h1 h2 h3 h4 h5
theorem or16 (i : Nat) (y x : Int) (h0 : 0 ≤ y) (h1 : y < 2 ^ i) (h2 : y < 2 ^ 16) (h3 : 0 ≤ x) (h4 : x % 2 ^ i = 0) (h5 : x < 2 ^ 16) : IntKind.u16.wrap (BitVec.ofInt 16 y ||| BitVec.ofInt 16 x).toNat = y + x :=
 or_join .u16 16 rfl (fun z a b => by rw [wrap_u16]; omega) i y x h0 h1 h2 h3 h4 h5
theorem or32 (i : Nat) (y x : Int) (h0 : 0 ≤ y) (h1 : y < 2 ^ i) (h2 : y < 2 ^ 32) (h3 : 0 ≤ x) (h4 : x % 2 ^ i = 0) (h5 : x < 2 ^ 32) : IntKind.u32.wrap (BitVec.ofInt 32 y ||| BitVec.ofInt 32 x).toNat = y + x :=
 or_join .u32 32 rfl (fun z a b => by rw [wrap_u32]; omega) i y x h0 h1 h2 h3 h4 h5
theorem and128 (n : Nat) (h : n < 256) : (IntKind.u8.wrap (BitVec.ofInt 8 ((n : Nat) : Int) &&& BitVec.ofInt 8 128).toNat == 0) = decide (n < 128) := by
 have : ∀ m : Fin 256, (IntKind.u8.wrap (BitVec.ofInt 8 ((m.val : Nat) : Int) &&& BitVec.ofInt 8 128).toNat == 0) = decide (m.val < 128) := by decide +kernel
 exact this ⟨n, h⟩
theorem and127b (n : Nat) (h : n < 256) : IntKind.u8.wrap (BitVec.ofInt 8 ((n : Nat) : Int) &&& BitVec.ofInt 8 127).toNat = ((n % 128 : Nat) : Int) := by
 have : ∀ m : Fin 256, IntKind.u8.wrap (BitVec.ofInt 8 ((m.val : Nat) : Int) &&& BitVec.ofInt 8 127).toNat = ((m.val % 128 : Nat) : Int) := by decide +kernel
 exact this ⟨n, h⟩
def oc (s : Bs) (i : Nat) : Nat := (s.getD i 0).toNat
theorem oc_lt (s : Bs) (i : Nat) : oc s i < 256 := (s.getD i 0).toNat_lt
theorem oc_cons (b : UInt8) (s : Bs) (i : Nat) : oc (b :: s) (i + 1) = oc s i := rfl
theorem oc_zero (b : UInt8) (s : Bs) : oc (b :: s) 0 = b.toNat := rfl
theorem oc_by8 (x : Int) (s : Bs) : ((oc (by8 x :: s) 0 : Nat) : Int) = x % 256 := by rw [oc_zero, by8_toNat]
def be16 (s : Bs) : Int := ((oc s 0 : Nat) : Int) * 256 + oc s 1
def be32 (s : Bs) : Int := ((oc s 0 : Nat) : Int) * 16777216 + oc s 1 * 65536 + oc s 2 * 256 + oc s 3
theorem be16_be (x : Int) (s : Bs) : be16 (be 2 x ++ s) = IntKind.u16.wrap x := by
 rw [wrap_u16]
 simp only [be, List.cons_append, List.nil_append, be16, oc_cons, oc_by8, Int.reducePow]
 omega
theorem be32_be (x : Int) (s : Bs) : be32 (be 4 x ++ s) = IntKind.u32.wrap x := by
 rw [wrap_u32]
 simp only [be, List.cons_append, List.nil_append, be32, oc_cons, oc_by8, Int.reducePow]
 omega
theorem i16w (x : Int) : IntKind.i16.wrap x = (x + 32768) % 65536 - 32768 := by simp [IntKind.wrap, IntKind.signed, IntKind.bits]; omega
theorem i32w (x : Int) : IntKind.i32.wrap x = (x + 2147483648) % 4294967296 - 2147483648 := by simp [IntKind.wrap, IntKind.signed, IntKind.bits]; omega
theorem i64w (x : Int) : IntKind.i64.wrap x = (x + 9223372036854775808) % 18446744073709551616 - 9223372036854775808 := by simp [IntKind.wrap, IntKind.signed, IntKind.bits]; omega
theorem i16_u16 (x : Int) : IntKind.i16.wrap (IntKind.u16.wrap x) = IntKind.i16.wrap x := by rw [i16w, i16w, wrap_u16]; omega
theorem i32_u32 (x : Int) : IntKind.i32.wrap (IntKind.u32.wrap x) = IntKind.i32.wrap x := by rw [i32w, i32w, wrap_u32]; omega
theorem ww16 (x : Int) : IntKind.i16.wrap (IntKind.i16.wrap x) = IntKind.i16.wrap x := by rw [i16w, i16w]; omega
theorem ww32 (x : Int) : IntKind.i32.wrap (IntKind.i32.wrap x) = IntKind.i32.wrap x := by rw [i32w, i32w]; omega
theorem uv_oc {x : Nat} (s : Bs) : oc (uv x ++ s) 0 = if x < 128 then x else x % 128 + 128 := by
 by_cases h : x < 128
 ·rw [uv_small h, if_pos h]
  show (UInt8.ofNat x).toNat = x
  rw [UInt8.toNat_ofNat']; omega
 ·rw [uv_big (by omega), if_neg h]
  show (UInt8.ofNat (x % 128 + 128)).toNat = _
  rw [UInt8.toNat_ofNat']; omega
theorem uv_oc1 {x : Nat} (h : 128 ≤ x) (s : Bs) (i : Nat) : oc (uv x ++ s) (i + 1) = oc (uv (x / 128) ++ s) i := by
 rw [uv_big h]; rfl
theorem u16_le (b0 b1 : Nat) (h0 : b0 < 256) (h1 : b1 < 256) : IntKind.u16.wrap (BitVec.ofInt 16 (IntKind.u16.wrap (((b1 : Nat) : Int))) ||| BitVec.ofInt 16 (IntKind.u16.wrap (IntKind.u16.wrap (((b0 : Nat) : Int)) * 256))).toNat = ((b0 : Nat) : Int) * 256 + ((b1 : Nat) : Int) := by
 have e1 : IntKind.u16.wrap (BitVec.ofInt 16 (IntKind.u16.wrap (((b1 : Nat) : Int))) ||| BitVec.ofInt 16 (IntKind.u16.wrap (IntKind.u16.wrap (((b0 : Nat) : Int)) * 256))).toNat = ((b1 : Nat) : Int) + ((b0 : Nat) : Int) * 256 := by
  rw [or16 8 _ _ (by first | omega | (simp only [wrap_u16]; omega)) (by first | omega | (simp only [wrap_u16]; omega)) (by first | omega | (simp only [wrap_u16]; omega)) (by first | omega | (simp only [wrap_u16]; omega)) (by first | omega | (simp only [wrap_u16]; omega)) (by first | omega | (simp only [wrap_u16]; omega))]; first | omega | (simp only [wrap_u16]; omega)
 rw [e1]
 omega
theorem u32_le (b0 b1 b2 b3 : Nat) (h0 : b0 < 256) (h1 : b1 < 256) (h2 : b2 < 256) (h3 : b3 < 256) : IntKind.u32.wrap (BitVec.ofInt 32 (IntKind.u32.wrap (BitVec.ofInt 32 (IntKind.u32.wrap (BitVec.ofInt 32 (IntKind.u32.wrap (((b3 : Nat) : Int))) ||| BitVec.ofInt 32 (IntKind.u32.wrap (IntKind.u32.wrap (((b2 : Nat) : Int)) * 256))).toNat) ||| BitVec.ofInt 32 (IntKind.u32.wrap (IntKind.u32.wrap (((b1 : Nat) : Int)) * 65536))).toNat) ||| BitVec.ofInt 32 (IntKind.u32.wrap (IntKind.u32.wrap (((b0 : Nat) : Int)) * 16777216))).toNat = ((b0 : Nat) : Int) * 16777216 + ((b1 : Nat) : Int) * 65536 + ((b2 : Nat) : Int) * 256 + ((b3 : Nat) : Int) := by
 have e1 : IntKind.u32.wrap (BitVec.ofInt 32 (IntKind.u32.wrap (((b3 : Nat) : Int))) ||| BitVec.ofInt 32 (IntKind.u32.wrap (IntKind.u32.wrap (((b2 : Nat) : Int)) * 256))).toNat = ((b3 : Nat) : Int) + ((b2 : Nat) : Int) * 256 := by
  rw [or32 8 _ _ (by first | omega | (simp only [wrap_u32]; omega)) (by first | omega | (simp only [wrap_u32]; omega)) (by first | omega | (simp only [wrap_u32]; omega)) (by first | omega | (simp only [wrap_u32]; omega)) (by first | omega | (simp only [wrap_u32]; omega)) (by first | omega | (simp only [wrap_u32]; omega))]; first | omega | (simp only [wrap_u32]; omega)
 have e2 : IntKind.u32.wrap (BitVec.ofInt 32 (((b3 : Nat) : Int) + ((b2 : Nat) : Int) * 256) ||| BitVec.ofInt 32 (IntKind.u32.wrap (IntKind.u32.wrap (((b1 : Nat) : Int)) * 65536))).toNat = ((b3 : Nat) : Int) + ((b2 : Nat) : Int) * 256 + ((b1 : Nat) : Int) * 65536 := by
  rw [or32 16 _ _ (by first | omega | (simp only [wrap_u32]; omega)) (by first | omega | (simp only [wrap_u32]; omega)) (by first | omega | (simp only [wrap_u32]; omega)) (by first | omega | (simp only [wrap_u32]; omega)) (by first | omega | (simp only [wrap_u32]; omega)) (by first | omega | (simp only [wrap_u32]; omega))]; first | omega | (simp only [wrap_u32]; omega)
 have e3 : IntKind.u32.wrap (BitVec.ofInt 32 (((b3 : Nat) : Int) + ((b2 : Nat) : Int) * 256 + ((b1 : Nat) : Int) * 65536) ||| BitVec.ofInt 32 (IntKind.u32.wrap (IntKind.u32.wrap (((b0 : Nat) : Int)) * 16777216))).toNat = ((b3 : Nat) : Int) + ((b2 : Nat) : Int) * 256 + ((b1 : Nat) : Int) * 65536 + ((b0 : Nat) : Int) * 16777216 := by
  rw [or32 24 _ _ (by first | omega | (simp only [wrap_u32]; omega)) (by first | omega | (simp only [wrap_u32]; omega)) (by first | omega | (simp only [wrap_u32]; omega)) (by first | omega | (simp only [wrap_u32]; omega)) (by first | omega | (simp only [wrap_u32]; omega)) (by first | omega | (simp only [wrap_u32]; omega))]; first | omega | (simp only [wrap_u32]; omega)
 rw [e1, e2, e3]
 omega
theorem uv_1 (b0 : Nat) (h0 : b0 < 256) : IntKind.u32.wrap (IntKind.u8.wrap (BitVec.ofInt 8 ((b0 : Nat) : Int) &&& BitVec.ofInt 8 127).toNat) = ((b0 % 128 : Nat) : Int) := by
 rw [and127b b0 h0, wrap_u32]; omega
theorem uv_2 (b0 b1 : Nat) (h0 : b0 < 256) (h1 : b1 < 256) : IntKind.u32.wrap (BitVec.ofInt 32 (IntKind.u32.wrap (IntKind.u8.wrap (BitVec.ofInt 8 ((b0 : Nat) : Int) &&& BitVec.ofInt 8 127).toNat)) ||| BitVec.ofInt 32 (IntKind.u32.wrap (IntKind.u32.wrap (IntKind.u8.wrap (BitVec.ofInt 8 ((b1 : Nat) : Int) &&& BitVec.ofInt 8 127).toNat) * 128))).toNat = ((b0 % 128 : Nat) : Int) + ((b1 % 128 : Nat) : Int) * 128 := by
 have e1 : IntKind.u32.wrap (BitVec.ofInt 32 (IntKind.u32.wrap (IntKind.u8.wrap (BitVec.ofInt 8 ((b0 : Nat) : Int) &&& BitVec.ofInt 8 127).toNat)) ||| BitVec.ofInt 32 (IntKind.u32.wrap (IntKind.u32.wrap (IntKind.u8.wrap (BitVec.ofInt 8 ((b1 : Nat) : Int) &&& BitVec.ofInt 8 127).toNat) * 128))).toNat = ((b0 % 128 : Nat) : Int) + ((b1 % 128 : Nat) : Int) * 128 := by
  rw [and127b b1 h1, and127b b0 h0]; rw [or32 7 _ _ (by first | omega | (simp only [wrap_u32]; omega)) (by first | omega | (simp only [wrap_u32]; omega)) (by first | omega | (simp only [wrap_u32]; omega)) (by first | omega | (simp only [wrap_u32]; omega)) (by first | omega | (simp only [wrap_u32]; omega)) (by first | omega | (simp only [wrap_u32]; omega))]; first | omega | (simp only [wrap_u32]; omega)
 rw [e1]
theorem uv_3 (b0 b1 b2 : Nat) (h0 : b0 < 256) (h1 : b1 < 256) (h2 : b2 < 256) : IntKind.u32.wrap (BitVec.ofInt 32 (IntKind.u32.wrap (BitVec.ofInt 32 (IntKind.u32.wrap (IntKind.u8.wrap (BitVec.ofInt 8 ((b0 : Nat) : Int) &&& BitVec.ofInt 8 127).toNat)) ||| BitVec.ofInt 32 (IntKind.u32.wrap (IntKind.u32.wrap (IntKind.u8.wrap (BitVec.ofInt 8 ((b1 : Nat) : Int) &&& BitVec.ofInt 8 127).toNat) * 128))).toNat) ||| BitVec.ofInt 32 (IntKind.u32.wrap (IntKind.u32.wrap (IntKind.u8.wrap (BitVec.ofInt 8 ((b2 : Nat) : Int) &&& BitVec.ofInt 8 127).toNat) * 16384))).toNat = ((b0 % 128 : Nat) : Int) + ((b1 % 128 : Nat) : Int) * 128 + ((b2 % 128 : Nat) : Int) * 16384 := by
 have e1 : IntKind.u32.wrap (BitVec.ofInt 32 (IntKind.u32.wrap (IntKind.u8.wrap (BitVec.ofInt 8 ((b0 : Nat) : Int) &&& BitVec.ofInt 8 127).toNat)) ||| BitVec.ofInt 32 (IntKind.u32.wrap (IntKind.u32.wrap (IntKind.u8.wrap (BitVec.ofInt 8 ((b1 : Nat) : Int) &&& BitVec.ofInt 8 127).toNat) * 128))).toNat = ((b0 % 128 : Nat) : Int) + ((b1 % 128 : Nat) : Int) * 128 := by
  rw [and127b b1 h1, and127b b0 h0]; rw [or32 7 _ _ (by first | omega | (simp only [wrap_u32]; omega)) (by first | omega | (simp only [wrap_u32]; omega)) (by first | omega | (simp only [wrap_u32]; omega)) (by first | omega | (simp only [wrap_u32]; omega)) (by first | omega | (simp only [wrap_u32]; omega)) (by first | omega | (simp only [wrap_u32]; omega))]; first | omega | (simp only [wrap_u32]; omega)
 have e2 : IntKind.u32.wrap (BitVec.ofInt 32 (((b0 % 128 : Nat) : Int) + ((b1 % 128 : Nat) : Int) * 128) ||| BitVec.ofInt 32 (IntKind.u32.wrap (IntKind.u32.wrap (IntKind.u8.wrap (BitVec.ofInt 8 ((b2 : Nat) : Int) &&& BitVec.ofInt 8 127).toNat) * 16384))).toNat = ((b0 % 128 : Nat) : Int) + ((b1 % 128 : Nat) : Int) * 128 + ((b2 % 128 : Nat) : Int) * 16384 := by
  rw [and127b b2 h2]; rw [or32 14 _ _ (by first | omega | (simp only [wrap_u32]; omega)) (by first | omega | (simp only [wrap_u32]; omega)) (by first | omega | (simp only [wrap_u32]; omega)) (by first | omega | (simp only [wrap_u32]; omega)) (by first | omega | (simp only [wrap_u32]; omega)) (by first | omega | (simp only [wrap_u32]; omega))]; first | omega | (simp only [wrap_u32]; omega)
 rw [e1, e2]
theorem uv_4 (b0 b1 b2 b3 : Nat) (h0 : b0 < 256) (h1 : b1 < 256) (h2 : b2 < 256) (h3 : b3 < 256) : IntKind.u32.wrap (BitVec.ofInt 32 (IntKind.u32.wrap (BitVec.ofInt 32 (IntKind.u32.wrap (BitVec.ofInt 32 (IntKind.u32.wrap (IntKind.u8.wrap (BitVec.ofInt 8 ((b0 : Nat) : Int) &&& BitVec.ofInt 8 127).toNat)) ||| BitVec.ofInt 32 (IntKind.u32.wrap (IntKind.u32.wrap (IntKind.u8.wrap (BitVec.ofInt 8 ((b1 : Nat) : Int) &&& BitVec.ofInt 8 127).toNat) * 128))).toNat) ||| BitVec.ofInt 32 (IntKind.u32.wrap (IntKind.u32.wrap (IntKind.u8.wrap (BitVec.ofInt 8 ((b2 : Nat) : Int) &&& BitVec.ofInt 8 127).toNat) * 16384))).toNat) ||| BitVec.ofInt 32 (IntKind.u32.wrap (IntKind.u32.wrap (IntKind.u8.wrap (BitVec.ofInt 8 ((b3 : Nat) : Int) &&& BitVec.ofInt 8 127).toNat) * 2097152))).toNat = ((b0 % 128 : Nat) : Int) + ((b1 % 128 : Nat) : Int) * 128 + ((b2 % 128 : Nat) : Int) * 16384 + ((b3 % 128 : Nat) : Int) * 2097152 := by
 have e1 : IntKind.u32.wrap (BitVec.ofInt 32 (IntKind.u32.wrap (IntKind.u8.wrap (BitVec.ofInt 8 ((b0 : Nat) : Int) &&& BitVec.ofInt 8 127).toNat)) ||| BitVec.ofInt 32 (IntKind.u32.wrap (IntKind.u32.wrap (IntKind.u8.wrap (BitVec.ofInt 8 ((b1 : Nat) : Int) &&& BitVec.ofInt 8 127).toNat) * 128))).toNat = ((b0 % 128 : Nat) : Int) + ((b1 % 128 : Nat) : Int) * 128 := by
  rw [and127b b1 h1, and127b b0 h0]; rw [or32 7 _ _ (by first | omega | (simp only [wrap_u32]; omega)) (by first | omega | (simp only [wrap_u32]; omega)) (by first | omega | (simp only [wrap_u32]; omega)) (by first | omega | (simp only [wrap_u32]; omega)) (by first | omega | (simp only [wrap_u32]; omega)) (by first | omega | (simp only [wrap_u32]; omega))]; first | omega | (simp only [wrap_u32]; omega)
 have e2 : IntKind.u32.wrap (BitVec.ofInt 32 (((b0 % 128 : Nat) : Int) + ((b1 % 128 : Nat) : Int) * 128) ||| BitVec.ofInt 32 (IntKind.u32.wrap (IntKind.u32.wrap (IntKind.u8.wrap (BitVec.ofInt 8 ((b2 : Nat) : Int) &&& BitVec.ofInt 8 127).toNat) * 16384))).toNat = ((b0 % 128 : Nat) : Int) + ((b1 % 128 : Nat) : Int) * 128 + ((b2 % 128 : Nat) : Int) * 16384 := by
  rw [and127b b2 h2]; rw [or32 14 _ _ (by first | omega | (simp only [wrap_u32]; omega)) (by first | omega | (simp only [wrap_u32]; omega)) (by first | omega | (simp only [wrap_u32]; omega)) (by first | omega | (simp only [wrap_u32]; omega)) (by first | omega | (simp only [wrap_u32]; omega)) (by first | omega | (simp only [wrap_u32]; omega))]; first | omega | (simp only [wrap_u32]; omega)
 have e3 : IntKind.u32.wrap (BitVec.ofInt 32 (((b0 % 128 : Nat) : Int) + ((b1 % 128 : Nat) : Int) * 128 + ((b2 % 128 : Nat) : Int) * 16384) ||| BitVec.ofInt 32 (IntKind.u32.wrap (IntKind.u32.wrap (IntKind.u8.wrap (BitVec.ofInt 8 ((b3 : Nat) : Int) &&& BitVec.ofInt 8 127).toNat) * 2097152))).toNat = ((b0 % 128 : Nat) : Int) + ((b1 % 128 : Nat) : Int) * 128 + ((b2 % 128 : Nat) : Int) * 16384 + ((b3 % 128 : Nat) : Int) * 2097152 := by
  rw [and127b b3 h3]; rw [or32 21 _ _ (by first | omega | (simp only [wrap_u32]; omega)) (by first | omega | (simp only [wrap_u32]; omega)) (by first | omega | (simp only [wrap_u32]; omega)) (by first | omega | (simp only [wrap_u32]; omega)) (by first | omega | (simp only [wrap_u32]; omega)) (by first | omega | (simp only [wrap_u32]; omega))]; first | omega | (simp only [wrap_u32]; omega)
 rw [e1, e2, e3]
theorem uv_5 (b0 b1 b2 b3 b4 : Nat) (h0 : b0 < 256) (h1 : b1 < 256) (h2 : b2 < 256) (h3 : b3 < 256) (h4 : b4 < 16) : IntKind.u32.wrap (BitVec.ofInt 32 (IntKind.u32.wrap (BitVec.ofInt 32 (IntKind.u32.wrap (BitVec.ofInt 32 (IntKind.u32.wrap (BitVec.ofInt 32 (IntKind.u32.wrap (IntKind.u8.wrap (BitVec.ofInt 8 ((b0 : Nat) : Int) &&& BitVec.ofInt 8 127).toNat)) ||| BitVec.ofInt 32 (IntKind.u32.wrap (IntKind.u32.wrap (IntKind.u8.wrap (BitVec.ofInt 8 ((b1 : Nat) : Int) &&& BitVec.ofInt 8 127).toNat) * 128))).toNat) ||| BitVec.ofInt 32 (IntKind.u32.wrap (IntKind.u32.wrap (IntKind.u8.wrap (BitVec.ofInt 8 ((b2 : Nat) : Int) &&& BitVec.ofInt 8 127).toNat) * 16384))).toNat) ||| BitVec.ofInt 32 (IntKind.u32.wrap (IntKind.u32.wrap (IntKind.u8.wrap (BitVec.ofInt 8 ((b3 : Nat) : Int) &&& BitVec.ofInt 8 127).toNat) * 2097152))).toNat) ||| BitVec.ofInt 32 (IntKind.u32.wrap (IntKind.u32.wrap (((b4 : Nat) : Int)) * 268435456))).toNat = ((b0 % 128 : Nat) : Int) + ((b1 % 128 : Nat) : Int) * 128 + ((b2 % 128 : Nat) : Int) * 16384 + ((b3 % 128 : Nat) : Int) * 2097152 + ((b4 : Nat) : Int) * 268435456 := by
 have e1 : IntKind.u32.wrap (BitVec.ofInt 32 (IntKind.u32.wrap (IntKind.u8.wrap (BitVec.ofInt 8 ((b0 : Nat) : Int) &&& BitVec.ofInt 8 127).toNat)) ||| BitVec.ofInt 32 (IntKind.u32.wrap (IntKind.u32.wrap (IntKind.u8.wrap (BitVec.ofInt 8 ((b1 : Nat) : Int) &&& BitVec.ofInt 8 127).toNat) * 128))).toNat = ((b0 % 128 : Nat) : Int) + ((b1 % 128 : Nat) : Int) * 128 := by
  rw [and127b b1 h1, and127b b0 h0]; rw [or32 7 _ _ (by first | omega | (simp only [wrap_u32]; omega)) (by first | omega | (simp only [wrap_u32]; omega)) (by first | omega | (simp only [wrap_u32]; omega)) (by first | omega | (simp only [wrap_u32]; omega)) (by first | omega | (simp only [wrap_u32]; omega)) (by first | omega | (simp only [wrap_u32]; omega))]; first | omega | (simp only [wrap_u32]; omega)
 have e2 : IntKind.u32.wrap (BitVec.ofInt 32 (((b0 % 128 : Nat) : Int) + ((b1 % 128 : Nat) : Int) * 128) ||| BitVec.ofInt 32 (IntKind.u32.wrap (IntKind.u32.wrap (IntKind.u8.wrap (BitVec.ofInt 8 ((b2 : Nat) : Int) &&& BitVec.ofInt 8 127).toNat) * 16384))).toNat = ((b0 % 128 : Nat) : Int) + ((b1 % 128 : Nat) : Int) * 128 + ((b2 % 128 : Nat) : Int) * 16384 := by
  rw [and127b b2 h2]; rw [or32 14 _ _ (by first | omega | (simp only [wrap_u32]; omega)) (by first | omega | (simp only [wrap_u32]; omega)) (by first | omega | (simp only [wrap_u32]; omega)) (by first | omega | (simp only [wrap_u32]; omega)) (by first | omega | (simp only [wrap_u32]; omega)) (by first | omega | (simp only [wrap_u32]; omega))]; first | omega | (simp only [wrap_u32]; omega)
 have e3 : IntKind.u32.wrap (BitVec.ofInt 32 (((b0 % 128 : Nat) : Int) + ((b1 % 128 : Nat) : Int) * 128 + ((b2 % 128 : Nat) : Int) * 16384) ||| BitVec.ofInt 32 (IntKind.u32.wrap (IntKind.u32.wrap (IntKind.u8.wrap (BitVec.ofInt 8 ((b3 : Nat) : Int) &&& BitVec.ofInt 8 127).toNat) * 2097152))).toNat = ((b0 % 128 : Nat) : Int) + ((b1 % 128 : Nat) : Int) * 128 + ((b2 % 128 : Nat) : Int) * 16384 + ((b3 % 128 : Nat) : Int) * 2097152 := by
  rw [and127b b3 h3]; rw [or32 21 _ _ (by first | omega | (simp only [wrap_u32]; omega)) (by first | omega | (simp only [wrap_u32]; omega)) (by first | omega | (simp only [wrap_u32]; omega)) (by first | omega | (simp only [wrap_u32]; omega)) (by first | omega | (simp only [wrap_u32]; omega)) (by first | omega | (simp only [wrap_u32]; omega))]; first | omega | (simp only [wrap_u32]; omega)
 have e4 : IntKind.u32.wrap (BitVec.ofInt 32 (((b0 % 128 : Nat) : Int) + ((b1 % 128 : Nat) : Int) * 128 + ((b2 % 128 : Nat) : Int) * 16384 + ((b3 % 128 : Nat) : Int) * 2097152) ||| BitVec.ofInt 32 (IntKind.u32.wrap (IntKind.u32.wrap (((b4 : Nat) : Int)) * 268435456))).toNat = ((b0 % 128 : Nat) : Int) + ((b1 % 128 : Nat) : Int) * 128 + ((b2 % 128 : Nat) : Int) * 16384 + ((b3 % 128 : Nat) : Int) * 2097152 + ((b4 : Nat) : Int) * 268435456 := by
  rw [or32 28 _ _ (by first | omega | (simp only [wrap_u32]; omega)) (by first | omega | (simp only [wrap_u32]; omega)) (by first | omega | (simp only [wrap_u32]; omega)) (by first | omega | (simp only [wrap_u32]; omega)) (by first | omega | (simp only [wrap_u32]; omega)) (by first | omega | (simp only [wrap_u32]; omega))]; first | omega | (simp only [wrap_u32]; omega)
 rw [e1, e2, e3, e4]
theorem imm_n {G : Nat → Nat → Prop} {w0 w : World} {tb : Tb} {rs : List Rw} {p n : Nat} {cs : List Value} (i : Nat) (hi : tb[i]? = some ⟨p, 0, cs, true⟩) (hn : cs.length = n := by rfl) : ∀ b o, Imm G w0 w tb rs b o → ¬ (b = p ∧ o < n) := by
 subst hn
 exact imm_not i hi
theorem imm_rd {G : Nat → Nat → Prop} {w0 w : World} {tb : Tb} {rs : List Rw} {p : Nat} {x y : Value} (i : Nat) (hi : tb[i]? = some ⟨p, 0, [x, y], true⟩) : ∀ b o, Imm G w0 w tb rs b o → ¬ RdM p b o := imm_not i hi
theorem WOk.immM {G : Nat → Nat → Prop} {w0 w : World} {M : Nat → Nat → Prop} {tb : Tb} {rs : List Rw} (h : WOk w0 M w tb rs) (hd : ∀ b o, G b o → ¬ M b o) : ∀ b o, G b o → b < w0.heap.size → Imm G w0 w tb rs b o := by
 refine fun b o hg hb => ⟨.inl hg, Nat.lt_of_lt_of_le hb h.step.size, fun ha => hd b o hg ?_⟩
 rcases ha with ⟨i, ob, hi, hr, rfl, h1, h2⟩ | ⟨i, r, hi, hr⟩
 ·have := (h.rw_ i ob hi hr (o - ob.off) (by omega)).1
  rw [show ob.off + (o - ob.off) = o by omega] at this
  rcases this with h3 | h3
  ·omega
  ·exact h3
 ·rcases h.ownM i r hi b hr with h3 | h3
  ·omega
  ·exact h3 o
end Go.Proofs.YtgolpmkenmedoaaGreatDoor.ME
namespace Go.Proofs.YtgolpmkenmedoaaGreatDoor.ME
open Go
open Go.RowKit
set_option linter.unusedVariables false
set_option linter.unusedSimpArgs false
section
variable {w0 w : World} {M : Nat → Nat → Prop} {tb : Tb} {rs : List Rw}
theorem WOk.layRowM {g c e size n k : Nat} {xs : List Value} (hW : WOk w0 M w tb rs) (hk : rs[k]? = some ⟨some ⟨g, 0, none⟩, c, e, size, n, xs⟩) (hl : k + 1 = rs.length) (hm : w0.heap.size ≤ g) (rs' : List Rw) (tb' : Tb) (hr : rs.take k = rs' := by rfl) (ht : tb ++ [⟨g, 0, xs, true⟩] = tb' := by rfl) : WOk w0 M w tb' rs' ∧ Fr w tb rs w tb' rs' := by
 subst hr ht
 have ho := hW.own k _ hk
 have hlive := own_live ho (g := g) rfl
 have hfz : ∀ j, w.frozen? ⟨g, j, none⟩ = false := fun j => by
  rcases ho.2 with ⟨hv, _⟩ | ⟨g', cap, cur, hv, _, hg, _⟩
  ·cases hv
  ·simp only [Rw.v, Value.slice.injEq, Option.some.injEq, Addr.mk.injEq, and_true] at hv
   obtain ⟨rfl, _⟩ := hv
   unfold World.frozen?
   rw [hg]
   simp
 have hlt : ∀ (j : Nat) (r : Rw), (rs.take k)[j]? = some r → j ≠ k ∧ rs[j]? = some r := fun j r hj => by
  rw [List.getElem?_take] at hj
  split at hj
  ·exact ⟨by omega, hj⟩
  ·cases hj
 refine ⟨(hW.rows k).add ⟨g, 0, xs, true⟩ hlive (fun j v hj => ?_) (fun _ j _ => ⟨.inl hm, by dsimp only; rw [Nat.zero_add]; exact hfz j⟩) (fun i q hi _ => .inl (hW.rtb k _ hk g rfl i q hi)) (fun i r hi he => ?_), ⟨fun x y _ hn ha => hn ?_, Step.refl _ _⟩⟩
 ·have := ho.cells (g := g) rfl j v hj
  rw [add_none] at this
  dsimp only
  exact this
 ·obtain ⟨h1, h2⟩ := hlt i r hi
  exact hW.rr k i _ r (fun e => h1 e.symm) hk h2 g rfl he
 ·rcases ha with ⟨j, q, hj, h1, h2, h3, h4⟩ | ⟨j, r, hj, h1⟩
  ·by_cases hjt : j < tb.length
   ·rw [List.getElem?_append_left hjt] at hj
    exact .inl ⟨j, q, hj, h1, h2, h3, h4⟩
   ·rw [List.getElem?_append_right (Nat.not_lt.1 hjt)] at hj
    have hq : q = ⟨g, 0, xs, true⟩ := by
     rcases Nat.eq_zero_or_pos (j - tb.length) with h | h
     ·rw [h] at hj; exact (Option.some.inj hj).symm
     ·rw [List.getElem?_eq_none (by simp only [List.length_cons, List.length_nil]; omega)] at hj; cases hj
    subst hq
    exact .inr ⟨k, _, hk, by rw [← h2]; rfl⟩
  ·exact .inr ⟨j, r, (hlt j r hj).2, h1⟩
def zerosL (z : Value) (j : Nat) : List Value := (Builtin.zeroCells z.cells j).toList
variable {P : Program} {ops : Array Oper} {Q : Exit → Act → World → Prop} {n : Nat} {env : Env} {a : Act}
theorem wpOp_appendZ {i d j : Nat} {t tn e : TypeId} {size bytes : Nat} {k kn : IntKind} {q : Int} {z : Value} {N : Act → World → Prop} (hW : WOk w0 M w tb rs) (hE : EnvOk n tb env a)
  (h : appE tb env ops n i = some (t, tn, .slice none 0 0, .int k q, d)) (ht : rowTy P t = some (e, size, bytes)) (htn : P.underlying tn = some (.int kn)) (hz : (P.info? e).bind (·.zero) = some z)
  (hq : q = (j : Int)) (hj : 0 < j) (hb : j * bytes ≤ 140737488355328)
  (K : ∀ b c a' w', b = w.heap.size → w0.heap.size ≤ b → Fr w tb rs w' tb (rs ++ [⟨some ⟨b, 0, none⟩, c, e, size, j, zerosL z j⟩]) → WOk w0 M w' tb (rs ++ [⟨some ⟨b, 0, none⟩, c, e, size, j, zerosL z j⟩]) →
   EnvOk n tb ((d, .v (.slice (some ⟨b, 0, none⟩) j c)) :: env) a' → N a' w') : wpOp P ops Q i N a w := by
 subst hq
 obtain ⟨ht', inf, z', hi, hz', hzs, hs1, rfl, hsz, hbp⟩ := rowTy_ok ht
 have hzz : z' = z := by rw [hi] at hz; simpa [hz'] using hz
 subst hzz
 obtain ⟨op, ho, hd, hrun⟩ := appE_ok (P := P) (w := w) hE h
 obtain ⟨o, h1, h2, h3, h4, h5⟩ := opAt_ok hE ho
 have hjm : j ≤ maxLen := by
  have := Nat.le_mul_of_pos_right j hbp
  simp only [maxLen]; omega
 have hr := Lib.run_append_nil_zeros (P := P) w t tn o.type e inf z' k kn ht' htn hi hz' j hj (by omega) (by simp only [maxLen] at hjm; omega) (by omega)
 have hge := grownCap_ge w j 0 e
 have hcm := grownCap_le_maxLen w j 0 e hjm
 have hst : Step w (w.drew.alloc (.cells (Builtin.zeroCells z'.cells j ++ Builtin.zeroCells z'.cells (grownCap w j 0 e - j)) e)) Nil := (Step.drew w).trans (Step.alloc _ _) fun _ _ _ h => h
 have hown : (w.drew.alloc (.cells (Builtin.zeroCells z'.cells j ++ Builtin.zeroCells z'.cells (grownCap w j 0 e - j)) e)).ownsRow w.heap.size e size (.slice (some ⟨w.heap.size, 0, none⟩) j (grownCap w j 0 e)) j (zerosL z' j) := by
  refine ⟨by unfold zerosL; rw [Array.length_toList, size_zeroCells, hzs, hs1], .inr ⟨w.heap.size, grownCap w j 0 e, _, rfl, Nat.le_refl _, heap_new w.drew _, hge, hcm, ?_, ?_⟩⟩
  ·rw [Array.size_append, size_zeroCells, size_zeroCells, hzs, hs1, ← Nat.add_mul]
   congr 1
   omega
  ·unfold zerosL
   rw [Array.toList_append]
   exact List.take_left' (by rw [Array.length_toList, size_zeroCells, hzs, hs1])
 simp only [wpOp, h1]
 have : Region.wanted o (yielded ops a.tmps) = true := by first | exact h2 | simp [Region.wanted, h2]
 rw [this]
 simp only [if_true]
 refine .inl ?_
 unfold Oper.wp
 rw [hrun o _ _ h5 hr, Oper.upon, h3]
 exact K w.heap.size _ _ _ rfl hW.step.size (Fr.fresh tb rs hst ⟨some ⟨w.heap.size, 0, none⟩, grownCap w j 0 e, e, size, j, zerosL z' j⟩ (Nat.le_refl _) hown) (hW.fresh hst ⟨some ⟨w.heap.size, 0, none⟩, grownCap w j 0 e, e, size, j, zerosL z' j⟩ (Nat.le_refl _) hown) (hE.put hd (.v _) trivial)
theorem zerosL_succ (z : Value) (j : Nat) : zerosL z (j + 1) = z.cells.toList ++ zerosL z j := by
 refine List.ext_getElem? fun i => ?_
 unfold zerosL Builtin.zeroCells
 rw [List.getElem?_append]
 simp only [Array.toList_map, Array.toList_range, List.getElem?_map, Array.length_toList, Array.getElem?_toList]
 by_cases h : i < z.cells.size
 ·have h2 : i < (j + 1) * z.cells.size := Nat.lt_of_lt_of_le h (Nat.le_mul_of_pos_left _ (Nat.succ_pos j))
  rw [if_pos h, List.getElem?_range h2, Option.map_some, Nat.mod_eq_of_lt h, getElem!_pos z.cells i h, Array.getElem?_eq_getElem h]
 ·rw [if_neg h]
  by_cases h2 : i < (j + 1) * z.cells.size
  ·have h3 : i - z.cells.size < j * z.cells.size := by rw [Nat.succ_mul] at h2; omega
   rw [List.getElem?_range h2, List.getElem?_range h3, Option.map_some, Option.map_some, Nat.mod_eq_sub_mod (Nat.not_lt.1 h)]
  ·have h3 : ¬ i - z.cells.size < j * z.cells.size := by rw [Nat.succ_mul] at h2; omega
   rw [List.getElem?_eq_none (by simpa using h2), List.getElem?_eq_none (by simpa using h3)]
end
abbrev FactW := World → (Nat → Nat → Prop) → Prop
structure MvF (P : FactW) : Prop where
 move : ∀ {w w' : World} {F F' M : Nat → Nat → Prop}, Step w w' M → (∀ b o, F b o → b < w.heap.size → ¬ M b o) → (∀ b o, F b o → b < w.heap.size → F' b o) → P w F → P w' F'
def noF : FactW := fun _ _ => True
def andF (P Q : FactW) : FactW := fun w F => P w F ∧ Q w F
def isF (p : Prop) : FactW := fun _ _ => p
theorem MvF.no : MvF noF := ⟨fun _ _ _ _ => trivial⟩
theorem MvF.and {P Q : FactW} (h : MvF P) (h' : MvF Q) : MvF (andF P Q) := ⟨fun hs hM hF g => ⟨h.move hs hM hF g.1, h'.move hs hM hF g.2⟩⟩
theorem MvF.is (p : Prop) : MvF (isF p) := ⟨fun _ _ _ g => g⟩
theorem MvF.mono {P : FactW} (h : MvF P) {w : World} {F F' : Nat → Nat → Prop} (hF : ∀ b o, F b o → b < w.heap.size → F' b o) (g : P w F) : P w F' := h.move (Step.refl w Nil) nilM hF g
def textF (A : Option Addr) (X : Bs) : FactW := fun w F => ∀ ad, A = some ad → ∃ b o, ad = ⟨b, o, none⟩ ∧ AtF w F b o [.string (bs X)]
theorem MvF.text (A : Option Addr) (X : Bs) : MvF (textF A X) := ⟨fun hs hM hF g ad hA => by
 obtain ⟨b, o, h1, h2⟩ := g ad hA
 exact ⟨b, o, h1, h2.move hs hM hF⟩⟩
def tagsF (m : Option Nat) (u : List (Int × Bs)) : FactW := fun w F => MapR w F m u
theorem MvF.tags (m : Option Nat) (u : List (Int × Bs)) : MvF (tagsF m u) := ⟨fun hs hM hF g => MapR.move g hs hM hF⟩
def atF (b o : Nat) (cs : List Value) : FactW := fun w F => AtF w F b o cs
theorem MvF.at_ (b o : Nat) (cs : List Value) : MvF (atF b o cs) := ⟨fun hs hM hF g => AtF.move g hs hM hF⟩
abbrev rdo (br : Nat) (A : Option Addr) (m c : Nat) : Ob := ⟨br, 0, [.slice A m c, .bool false], true⟩
theorem act_rdo {br : Nat} {A A' : Option Addr} {m c m' c' : Nat} {tb : Tb} {rs : List Rw} {b o : Nat} (h : Act_ (rdo br A m c :: tb) rs b o) : Act_ (rdo br A' m' c' :: tb) rs b o := by
 rcases h with ⟨i, ob, hi, h1⟩ | h
 ·cases i with
  | zero =>
   simp only [List.getElem?_cons_zero, Option.some.injEq] at hi
   subst hi
   exact .inl ⟨0, _, rfl, h1⟩
  | succ i => exact .inl ⟨i + 1, ob, hi, h1⟩
 ·exact .inr h
theorem imm_rdo {G : Nat → Nat → Prop} {w0 w : World} {br : Nat} {A A' : Option Addr} {m c m' c' : Nat} {tb : Tb} {rs : List Rw} {b o : Nat} (h : Imm G w0 w (rdo br A m c :: tb) rs b o) : Imm G w0 w (rdo br A' m' c' :: tb) rs b o :=
 ⟨h.1, h.2.1, fun ha => h.2.2 (act_rdo ha)⟩
theorem EnvOk.rdo {n br : Nat} {A A' : Option Addr} {m c m' c' : Nat} {tb : Tb} {env : Env} {a : Act} (h : EnvOk n (rdo br A m c :: tb) env a) : EnvOk n (rdo br A' m' c' :: tb) env a := by
 refine h.table fun i hi => ?_
 cases i with
 | zero => exact ⟨by simp, rfl, rfl⟩
 | succ i => exact ⟨by simpa using hi, rfl, rfl⟩
structure RS (w0 : World) (M F : Nat → Nat → Prop) (n br : Nat) (tb : Tb) (env : Env) (P : FactW) (s : Bs) (a : Act) (w : World) : Prop where
 mv : MvF P
 ex : ∃ A m c, WOk w0 M w (rdo br A m c :: tb) [] ∧ RdS w (Imm F w0 w (rdo br none 0 0 :: tb) []) A m c s
 env_ : EnvOk n (rdo br none 0 0 :: tb) env a
 fact : P w (Imm F w0 w (rdo br none 0 0 :: tb) [])
section
variable {Pr : Program} {ops opsA opsB opsC : Array Oper} {Q : Exit → Act → World → Prop} {w0 : World} {M F : Nat → Nat → Prop} {n br : Nat} {tb : Tb} {env : Env} {P : FactW} {s : Bs} {a : Act} {w : World}
theorem RS.mk' {A : Option Addr} {m c : Nat} (hW : WOk w0 M w (rdo br A m c :: tb) []) (hr : RdS w (Imm F w0 w (rdo br A m c :: tb) []) A m c s) (hE : EnvOk n (rdo br A m c :: tb) env a) (mv : MvF P) (hP : P w (Imm F w0 w (rdo br A m c :: tb) [])) : RS w0 M F n br tb env P s a w :=
 ⟨mv, ⟨A, m, c, hW, hr.move (Step.refl w Nil) nilM fun b o h _ => imm_rdo h⟩, hE.rdo, mv.mono (fun b o h _ => imm_rdo h) hP⟩
theorem RS.open_ (h : RS w0 M F n br tb env P s a w) : ∃ A m c, WOk w0 M w (rdo br A m c :: tb) [] ∧ RdS w (Imm F w0 w (rdo br A m c :: tb) []) A m c s ∧ EnvOk n (rdo br A m c :: tb) env a ∧ P w (Imm F w0 w (rdo br A m c :: tb) []) := by
 obtain ⟨A, m, c, hW, hr⟩ := h.ex
 exact ⟨A, m, c, hW, hr.move (Step.refl w Nil) nilM fun b o h _ => imm_rdo h, h.env_.rdo, h.mv.mono (fun b o h _ => imm_rdo h) h.fact⟩
theorem RS.cast {t : Bs} (h : RS w0 M F n br tb env P s a w) (e : s = t) : RS w0 M F n br tb env P t a w := e ▸ h
theorem RS.weak {P' : FactW} (h : RS w0 M F n br tb env P s a w) (mv : MvF P') (hP : ∀ w F, P w F → P' w F) : RS w0 M F n br tb env P' s a w := ⟨mv, h.ex, h.env_, hP _ _ h.fact⟩
theorem RS.pk {env' : Env} (h : RS w0 M F n br tb env P s a w) (e : ME.pick env (keysOf env') = some env' := by kernel_rfl) : RS w0 M F n br tb env' P s a w := ⟨h.mv, h.ex, h.env_.pk e, h.fact⟩
theorem RS.envEq {env' : Env} (h : RS w0 M F n br tb env P s a w) (e : env = env') : RS w0 M F n br tb env' P s a w := e ▸ h
theorem RS.tbEq {tb' : Tb} (h : RS w0 M F n br tb env P s a w) (e : tb = tb') : RS w0 M F n br tb' env P s a w := e ▸ h
theorem RS.recast (h : RS w0 M F n br tb env P s a w) (k : Nat) (x y : SV) (hx : lk env k = some x) (hy : y.val (rdo br none 0 0 :: tb) = x.val (rdo br none 0 0 :: tb)) (ho : y.ok (rdo br none 0 0 :: tb)) : RS w0 M F n br tb ((k, y) :: env) P s a w := ⟨h.mv, h.ex, h.env_.recast k x y hx hy ho, h.fact⟩
theorem rs_rn {L : List Nat} (idxs rest : List Nat) (env' : Env) (h : RS w0 M F n br tb env P s a w) (k : ∀ a', RS w0 M F n br tb env' P s a' w → wpOps Pr ops Q rest a' w) (e : ∀ A m c, runsP Pr ops n (rdo br A m c :: tb) idxs (keysOf env') env = some env' := by intro _ _ _; kernel_rfl) (hl : L = idxs ++ rest := by rfl) : wpOps Pr ops Q L a w := by
 obtain ⟨A, m, c, hW, hr, hE, hP⟩ := h.open_
 exact go_runs idxs rest (keysOf env') hW hE (e A m c) hl fun a' hE' => k a' (RS.mk' hW hr hE' h.mv hP)
theorem rs_sr {id : Nat} (env' : Env) (h : RS w0 M F n br tb env P s a w) (k : ∀ a', RS w0 M F n br tb env' P s a' w → Q .normal a' w) (e : ∀ A m c, runsP Pr ops n (rdo br A m c :: tb) (List.range ops.size) (keysOf env') env = some env' := by intro _ _ _; kernel_rfl) : (Code.region id ops false).wp Pr Q a w :=
 go_region (List.range ops.size) rfl (rs_rn (List.range ops.size) [] env' h (fun a' h' => wpOps_nil (k a' h')) e (List.append_nil _).symm)
theorem rs_sp {id : Nat} {y : Code} (env' : Env) (h : RS w0 M F n br tb env P s a w) (k : ∀ a', RS w0 M F n br tb env' P s a' w → y.wp Pr Q a' w) (e : ∀ A m c, runsP Pr ops n (rdo br A m c :: tb) (List.range ops.size) (keysOf env') env = some env' := by intro _ _ _; kernel_rfl) : (Code.seq (.region id ops false) y).wp Pr Q a w :=
 wp_seq (rs_sr env' h (fun a' h' => then_normal (k a' h')) e)
def RPrim (Pr : Program) (f : FuncId) {τ : Type} (X rest : Bs) (val : τ → Value) (fact : τ → FactW) : Prop :=
 ∀ {br : Nat} {A : Option Addr} {m c : Nat} {w : World} {F : Nat → Nat → Prop}, Str w br [.slice A m c, .bool false] → RdS w F A m c (X ++ rest) → (∀ b o, F b o → ¬ RdM br b o) →
  Calls Pr f #[.pointer (some ⟨br, 0, none⟩)] w (RdPost w br (Fp F w) rest fun v w' => ∃ x, v = val x ∧ fact x w' (Fp F w))
def RPrim0 (Pr : Program) (f : FuncId) (X rest : Bs) (v0 : Value) : Prop :=
 ∀ {br : Nat} {A : Option Addr} {m c : Nat} {w : World} {F : Nat → Nat → Prop}, Str w br [.slice A m c, .bool false] → RdS w F A m c (X ++ rest) → (∀ b o, F b o → ¬ RdM br b o) →
  Calls Pr f #[.pointer (some ⟨br, 0, none⟩)] w (RdPost w br (Fp F w) rest fun v w' => v = v0)
theorem RdPost.fp {w : World} {br : Nat} {F : Nat → Nat → Prop} {rest : Bs} {Q Q' : Value → World → Prop} {e : Ending} {w' : World} (hq : ∀ v w', Q v w' → Q' v w') (h : RdPost w br F rest Q e w') : RdPost w br (Fp F w) rest Q' e w' := by
 obtain ⟨v, A', n', c', h1, h2, h3, h4, h5⟩ := h
 exact ⟨v, A', n', c', h1, h2, h3.move (Step.refl _ Nil) nilM fun b o g _ => .inl g, h4, hq _ _ h5⟩
theorem RdPost.q {w : World} {br : Nat} {F : Nat → Nat → Prop} {rest : Bs} {Q Q' : Value → World → Prop} {e : Ending} {w' : World} (hq : ∀ v w', Q v w' → Q' v w') (h : RdPost w br F rest Q e w') : RdPost w br F rest Q' e w' := by
 obtain ⟨v, A', n', c', h1, h2, h3, h4, h5⟩ := h
 exact ⟨v, A', n', c', h1, h2, h3, h4, hq _ _ h5⟩
theorem rs_call {i d : Nat} {f : FuncId} {τ : Type} {X rest : Bs} {val : τ → Value} {fact : τ → FactW} {N : Act → World → Prop} (h : RS w0 M F n br tb env P (X ++ rest) a w) (hc : RPrim Pr f X rest val fact) (hm : ∀ x, MvF (fact x))
  (hf : ∀ args w, (callFunc f args).run Pr w = .ok (.enter f args) w) (K : ∀ x P' a' w', (∀ w F, P' w F → P w F ∧ fact x w F) → RS w0 M F n br tb ((d, .v (val x)) :: env) P' rest a' w' → N a' w')
  (he : ∀ A m c, callE (rdo br A m c :: tb) env ops n i = some (f, [.pointer (some ⟨br, 0, none⟩)], d) := by intro _ _ _; kernel_rfl) : wpOp Pr ops Q i N a w := by
 obtain ⟨A, m, c, hW, hr, hE, hP⟩ := h.open_
 refine wpOp_call hE (he A m c) hf (hc (Str.of hW 0 rfl) hr (imm_rd 0 rfl)) ?_
 rintro e_ w1 ⟨_, A1, n1, c1, rfl, hs, hr1, hst, x, rfl, hx⟩
 refine ⟨_, rfl, fun a1 hE1 => ?_⟩
 obtain ⟨hW2, hF2, hL⟩ := hW.wrote 0 (rdo br A1 n1 c1 :: tb) rfl hst hs
 exact K x (andF P (fact x)) a1 w1 (fun _ _ g => g) (RS.mk' hW2 (hr1.move (Step.refl _ Nil) nilM hL) hE1.rdo (h.mv.and (hm x)) ⟨h.mv.move hF2.step immM hF2.to' hP, (hm x).mono hL hx⟩)
theorem rs_call0 {i d : Nat} {f : FuncId} {X rest : Bs} {v0 : Value} {N : Act → World → Prop} (h : RS w0 M F n br tb env P (X ++ rest) a w) (hc : RPrim0 Pr f X rest v0)
  (hf : ∀ args w, (callFunc f args).run Pr w = .ok (.enter f args) w) (K : ∀ a' w', RS w0 M F n br tb ((d, .v v0) :: env) P rest a' w' → N a' w')
  (he : ∀ A m c, callE (rdo br A m c :: tb) env ops n i = some (f, [.pointer (some ⟨br, 0, none⟩)], d) := by intro _ _ _; kernel_rfl) : wpOp Pr ops Q i N a w := by
 obtain ⟨A, m, c, hW, hr, hE, hP⟩ := h.open_
 refine wpOp_call hE (he A m c) hf (hc (Str.of hW 0 rfl) hr (imm_rd 0 rfl)) ?_
 rintro e_ w1 ⟨_, A1, n1, c1, rfl, hs, hr1, hst, rfl⟩
 refine ⟨_, rfl, fun a1 hE1 => ?_⟩
 obtain ⟨hW2, hF2, hL⟩ := hW.wrote 0 (rdo br A1 n1 c1 :: tb) rfl hst hs
 exact K a1 w1 (RS.mk' hW2 (hr1.move (Step.refl _ Nil) nilM hL) hE1.rdo h.mv (h.mv.move hF2.step immM hF2.to' hP))
theorem rs_complete {i d : Nat} {f : FuncId} {v0 : Value} {N : Act → World → Prop} (h : RS w0 M F n br tb env P s a w) (hc : ∀ {br : Nat} {A : Option Addr} {m c : Nat} {w : World}, Str w br [.slice A m c, .bool false] → Calls Pr f #[.pointer (some ⟨br, 0, none⟩)] w (fun e w' => e = .returned v0 ∧ w' = w))
  (hf : ∀ args w, (callFunc f args).run Pr w = .ok (.enter f args) w) (K : ∀ a', RS w0 M F n br tb ((d, .v v0) :: env) P s a' w → N a' w)
  (he : ∀ A m c, callE (rdo br A m c :: tb) env ops n i = some (f, [.pointer (some ⟨br, 0, none⟩)], d) := by intro _ _ _; kernel_rfl) : wpOp Pr ops Q i N a w := by
 obtain ⟨A, m, c, hW, hr, hE, hP⟩ := h.open_
 refine wpOp_call hE (he A m c) hf (hc (Str.of hW 0 rfl)) ?_
 rintro e_ _ ⟨rfl, rfl⟩
 exact ⟨_, rfl, fun a1 hE1 => K a1 (RS.mk' hW hr hE1 h.mv hP)⟩
theorem rs_store {i : Nat} (tb' : Tb) (j : Nat) {N : Act → World → Prop} (h : RS w0 M F n br tb env P s a w) (K : ∀ w', RS w0 M F n br tb' env P s a w' → N a w')
  (he : ∀ A m c, storeE Pr (rdo br A m c :: tb) env ops i = some (j + 1, (obAt tb' j).cells) := by intro _ _ _; kernel_rfl) (ht : Tb.put tb j (obAt tb' j).cells = tb' := by rfl) : wpOp Pr ops Q i N a w := by
 obtain ⟨A, m, c, hW, hr, hE, hP⟩ := h.open_
 refine wpOp_store hW hE (he A m c) fun w1 hF1 hW1 hE1 => K w1 ?_
 have e : Tb.put (rdo br A m c :: tb) (j + 1) (obAt tb' j).cells = rdo br A m c :: tb' := by
  show rdo br A m c :: Tb.put tb j (obAt tb' j).cells = _
  rw [ht]
 rw [e] at hF1 hW1 hE1
 exact RS.mk' hW1 (hr.move hF1.step immM hF1.to') hE1 h.mv (h.mv.move hF1.step immM hF1.to' hP)
theorem range_cons {k : Nat} (h : Nat.blt 0 k = true) : List.range k = [0] ++ (List.range k).drop 1 := by
 cases k with
 | zero => cases h
 | succ k => rw [List.range_succ_eq_map]; rfl
theorem rs_ca {id d : Nat} {f : FuncId} {τ : Type} {X rest : Bs} {val : τ → Value} {fact : τ → FactW} (env' : τ → Env) (h : RS w0 M F n br tb env P (X ++ rest) a w) (hc : RPrim Pr f X rest val fact) (hm : ∀ x, MvF (fact x))
  (hf : ∀ args w, (callFunc f args).run Pr w = .ok (.enter f args) w) (K : ∀ x P' a' w', (∀ w F, P' w F → P w F ∧ fact x w F) → RS w0 M F n br tb (env' x) P' rest a' w' → Q .normal a' w')
  (he : ∀ A m c, callE (rdo br A m c :: tb) env ops n 0 = some (f, [.pointer (some ⟨br, 0, none⟩)], d) := by intro _ _ _; kernel_rfl)
  (e : ∀ x A m c, runsP Pr ops n (rdo br A m c :: tb) ((List.range ops.size).drop 1) (keysOf (env' x)) ((d, .v (val x)) :: env) = some (env' x) := by intro _ _ _ _; kernel_rfl) (hs : Nat.blt 0 ops.size = true := by kernel_rfl) : (Code.region id ops false).wp Pr Q a w := by
 refine go_region _ (range_cons hs) (of_op (rs_call h hc hm hf (fun x P' a' w' hP hS => ?_) he))
 exact rs_rn ((List.range ops.size).drop 1) [] (env' x) hS (fun a2 h2 => wpOps_nil (K x P' a2 w' hP h2)) (e x) (List.append_nil _).symm
theorem rs_ca0 {id d : Nat} {f : FuncId} {X rest : Bs} {v0 : Value} (env' : Env) (h : RS w0 M F n br tb env P (X ++ rest) a w) (hc : RPrim0 Pr f X rest v0)
  (hf : ∀ args w, (callFunc f args).run Pr w = .ok (.enter f args) w) (K : ∀ a' w', RS w0 M F n br tb env' P rest a' w' → Q .normal a' w')
  (he : ∀ A m c, callE (rdo br A m c :: tb) env ops n 0 = some (f, [.pointer (some ⟨br, 0, none⟩)], d) := by intro _ _ _; kernel_rfl)
  (e : ∀ A m c, runsP Pr ops n (rdo br A m c :: tb) ((List.range ops.size).drop 1) (keysOf env') ((d, .v v0) :: env) = some env' := by intro _ _ _; kernel_rfl) (hs : Nat.blt 0 ops.size = true := by kernel_rfl) : (Code.region id ops false).wp Pr Q a w := by
 refine go_region _ (range_cons hs) (of_op (rs_call0 h hc hf (fun a' w' hS => ?_) he))
 exact rs_rn ((List.range ops.size).drop 1) [] env' hS (fun a2 h2 => wpOps_nil (K a2 w' h2)) e (List.append_nil _).symm
theorem rs_alt0 {idA idB idC d1 d2 : Nat} {o : Operand} {b : Bool} {f1 f2 : FuncId} {X1 X2 rest : Bs} {v0 : Value} (envA env' : Env) (h : RS w0 M F n br tb env P ((if b = true then X1 else X2) ++ rest) a w)
  (hc1 : RPrim0 Pr f1 X1 rest v0) (hf1 : ∀ args w, (callFunc f1 args).run Pr w = .ok (.enter f1 args) w) (hc2 : RPrim0 Pr f2 X2 rest v0) (hf2 : ∀ args w, (callFunc f2 args).run Pr w = .ok (.enter f2 args) w)
  (K : ∀ a' w', RS w0 M F n br tb env' P rest a' w' → Q .normal a' w')
  (eA : ∀ A m c, runsP Pr opsA n (rdo br A m c :: tb) (List.range opsA.size) (keysOf envA) env = some envA := by intro _ _ _; kernel_rfl) (ho : opd envA o = some (.v (.bool b)) := by kernel_rfl)
  (he1 : ∀ A m c, callE (rdo br A m c :: tb) envA opsB n 0 = some (f1, [.pointer (some ⟨br, 0, none⟩)], d1) := by intro _ _ _; kernel_rfl) (he2 : ∀ A m c, callE (rdo br A m c :: tb) envA opsC n 0 = some (f2, [.pointer (some ⟨br, 0, none⟩)], d2) := by intro _ _ _; kernel_rfl)
  (e1 : ∀ A m c, runsP Pr opsB n (rdo br A m c :: tb) ((List.range opsB.size).drop 1) (keysOf env') ((d1, .v v0) :: envA) = some env' := by intro _ _ _; kernel_rfl) (e2 : ∀ A m c, runsP Pr opsC n (rdo br A m c :: tb) ((List.range opsC.size).drop 1) (keysOf env') ((d2, .v v0) :: envA) = some env' := by intro _ _ _; kernel_rfl)
  (hs1 : Nat.blt 0 opsB.size = true := by kernel_rfl) (hs2 : Nat.blt 0 opsC.size = true := by kernel_rfl) : (Code.seq (.region idA opsA false) (.cond o (.region idB opsB false) (.region idC opsC false))).wp Pr Q a w :=
 rs_sp envA h (fun a1 h1 => cond_of h1.env_ ho (fun hb => rs_ca0 env' (h1.cast (by rw [if_pos hb])) hc1 hf1 K he1 e1 hs1) (fun hb => rs_ca0 env' (h1.cast (by rw [hb]; rfl)) hc2 hf2 K he2 e2 hs2)) eA
def stoE (P : Program) (ops : Array Oper) (n : Nat) (tb : Tb) (env : Env) (keys : List Nat) : Option (Nat × List Value × Env) :=
 match runs P ops n tb (List.range (ops.size - 1)) env with
 | some e => match storeE P tb e ops (ops.size - 1), pick e keys with
  | some (i, cs), some e' => some (i, cs, e')
  | _, _ => none
 | none => none
theorem rs_sto {id : Nat} (tb' : Tb) (j : Nat) (env' : Env) (h : RS w0 M F n br tb env P s a w) (K : ∀ a' w', RS w0 M F n br tb' env' P s a' w' → Q .normal a' w')
  (he : ∀ A m c, stoE Pr ops n (rdo br A m c :: tb) env (keysOf env') = some (j + 1, (obAt tb' j).cells, env') := by intro _ _ _; kernel_rfl) (ht : Tb.put tb j (obAt tb' j).cells = tb' := by rfl) (hs : Nat.blt 0 ops.size = true := by kernel_rfl) : (Code.region id ops false).wp Pr Q a w := by
 obtain ⟨A, m, c, hW, hr, hE, hP⟩ := h.open_
 have h1 := he A m c
 unfold stoE at h1
 split at h1
 ·rename_i e he'
  split at h1
  ·rename_i i cs e' g1 g2
   simp only [Option.some.injEq, Prod.mk.injEq] at h1
   obtain ⟨rfl, rfl, rfl⟩ := h1
   have hr0 : List.range ops.size = List.range (ops.size - 1) ++ [ops.size - 1] := by
    have : 0 < ops.size := by simpa [Nat.blt_eq] using hs
    rw [← List.range_succ]; congr 1; omega
   refine go_region _ hr0 (wpOps_runs hW.cells hE he' fun a1 hE1 => of_op (wpOp_store hW hE1 g1 fun w1 hF1 hW1 hE2 => wpOps_nil (K a1 w1 ?_)))
   have e : Tb.put (rdo br A m c :: tb) (j + 1) (obAt tb' j).cells = rdo br A m c :: tb' := by
    show rdo br A m c :: Tb.put tb j (obAt tb' j).cells = _
    rw [ht]
   rw [e] at hF1 hW1 hE2
   exact RS.mk' hW1 (hr.move hF1.step immM hF1.to') (hE2.pick g2) h.mv (h.mv.move hF1.step immM hF1.to' hP)
  ·cases h1
 ·cases h1
theorem rs_appendZ {i d j : Nat} {t tn e : TypeId} {size bytes : Nat} {k kn : IntKind} {q : Int} (z : Value) {N : Act → World → Prop} (h : RS w0 M F n br tb env P s a w)
  (K : ∀ g c a' w', w0.heap.size ≤ g → j ≤ c → RS w0 M F n br (tb ++ [⟨g, 0, zerosL z j, true⟩]) ((d, .v (.slice (some ⟨g, 0, none⟩) j c)) :: env) P s a' w' → N a' w')
  (hq : q = (j : Int)) (hj : 0 < j) (hb : j * bytes ≤ 140737488355328)
  (he : ∀ A m c, appE (rdo br A m c :: tb) env ops n i = some (t, tn, .slice none 0 0, .int k q, d) := by intro _ _ _; kernel_rfl) (ht : rowTy Pr t = some (e, size, bytes) := by kernel_rfl) (htn : Pr.underlying tn = some (.int kn) := by kernel_rfl) (hz : (Pr.info? e).bind (·.zero) = some z := by kernel_rfl) : wpOp Pr ops Q i N a w := by
 obtain ⟨A, m, c, hW, hr, hE, hP⟩ := h.open_
 refine wpOp_appendZ hW hE (he A m c) ht htn hz hq hj hb fun g c1 a1 w1 hg hg0 hF1 hW1 hE1 => ?_
 have hP1 := h.mv.move hF1.step immM hF1.to' hP
 have hr1 := hr.move hF1.step immM hF1.to'
 have hcap : j ≤ c1 := by
  obtain ⟨A', c', hv, _, _, h4⟩ := own_form (hW1.own 0 _ rfl)
  simp only [Rw.v, Value.slice.injEq, true_and] at hv
  rw [hv.2]; exact h4
 obtain ⟨hW2, hF2⟩ := hW1.layRowM (k := 0) rfl rfl hg0 [] (rdo br A m c :: (tb ++ [⟨g, 0, zerosL z j, true⟩])) rfl rfl
 exact K g c1 a1 w1 hg0 hcap (RS.mk' hW2 (hr1.move hF2.step immM hF2.to') (hE1.grow ⟨g, 0, zerosL z j, true⟩) h.mv (h.mv.move hF2.step immM hF2.to' hP1))
end
def swapE : Env → Env
 | [] => []
 | (k, .v x) :: r => (k, .v x) :: swapE r
 | (k, .p i j) :: r => (k, .p (match i with | 0 => 1 | 1 => 0 | i => i) j) :: swapE r
theorem swap_ok {n : Nat} {o1 o2 : Ob} {env : Env} {a : Act} (h : EnvOk n [o1, o2] env a) : EnvOk n [o2, o1] (swapE env) a := by
 have key : ∀ (env : Env) (k : Nat) (x : SV), lk (swapE env) k = some x → ∃ y, lk env k = some y ∧ (y.ok [o1, o2] → x.val [o2, o1] = y.val [o1, o2] ∧ x.ok [o2, o1]) := by
  intro env
  induction env with
  | nil => intro k x hx; cases hx
  | cons e r ih =>
   obtain ⟨k', sv⟩ := e
   intro k x hx
   cases sv with
   | v y =>
    simp only [swapE, lk] at hx ⊢
    split at hx
    ·rename_i hb
     simp only [Option.some.injEq] at hx
     subst hx
     exact ⟨_, rfl, fun _ => ⟨rfl, trivial⟩⟩
    ·exact ih k x hx
   | p i j =>
    simp only [swapE, lk] at hx ⊢
    split at hx
    ·rename_i hb
     simp only [Option.some.injEq] at hx
     subst hx
     refine ⟨_, rfl, fun hok => ?_⟩
     have hok' : i < 2 := hok
     match i, hok' with
     | 0, _ => exact ⟨rfl, show 1 < 2 by omega⟩
     | 1, _ => exact ⟨rfl, show 0 < 2 by omega⟩
    ·exact ih k x hx
 refine ⟨h.defers, h.size, fun k x hx => ?_⟩
 obtain ⟨y, hy, hv⟩ := key env k x hx
 obtain ⟨h1, h2⟩ := h.at_ k y hy
 obtain ⟨h3, h4⟩ := hv h2
 exact ⟨by rw [h3]; exact h1, h4⟩
theorem swap_get {α : Type} {x y o : α} {i : Nat} (h : [y, x][i]? = some o) : [x, y][1 - i]? = some o ∧ i < 2 := by
 match i, h with
 | 0, h => exact ⟨h, by omega⟩
 | 1, h => exact ⟨h, by omega⟩
 | i + 2, h => simp at h
theorem WOk.swap2 {w0 w : World} {M : Nat → Nat → Prop} {o1 o2 : Ob} (h : WOk w0 M w [o1, o2] []) : WOk w0 M w [o2, o1] [] :=
 ⟨h.step, fun i o hi => h.cells _ o (swap_get hi).1, fun i o hi => h.live _ o (swap_get hi).1, fun i o hi => h.rw_ _ o (swap_get hi).1, fun i j o o' hij hi hj hw => h.apart _ _ o o' (by have := (swap_get hi).2; have := (swap_get hj).2; omega) (swap_get hi).1 (swap_get hj).1 hw, h.own, h.ownM, fun i r hi => by simp at hi, h.rr⟩
theorem act_swap {o1 o2 : Ob} {b o : Nat} (h : Act_ [o2, o1] [] b o) : Act_ [o1, o2] [] b o := by
 rcases h with ⟨i, ob, hi, h1⟩ | ⟨i, r, hi, _⟩
 ·exact .inl ⟨_, ob, (swap_get hi).1, h1⟩
 ·simp at hi
theorem RS.start {w0 w : World} {M F : Nat → Nat → Prop} {n br c : Nat} {A : Option Addr} {o1 : Ob} {env : Env} {s : Bs} {a : Act} (hW : WOk w0 M w [o1, rdo br A s.length c] []) (hE : EnvOk n [o1, rdo br A s.length c] env a) (ho : Octs w (Imm F w0 w [o1, rdo br A s.length c] []) A c s) (env' : Env) (he : pick (swapE env) (keysOf env') = some env' := by kernel_rfl) : RS w0 M F n br [o1] env' noF s a w :=
 RS.mk' hW.swap2 ⟨rfl, ho.move (Step.refl w Nil) nilM fun b o h _ => ⟨h.1, h.2.1, fun ha => h.2.2 (act_swap ha)⟩⟩ ((swap_ok hE).pick he) MvF.no trivial
theorem get_two {α : Type} {l : List α} {x y o : α} {i : Nat} (h : (l ++ [x, y])[i]? = some o) : (i < l.length ∧ l[i]? = some o) ∨ (i = l.length ∧ o = x) ∨ (i = l.length + 1 ∧ o = y) := by
 rcases Nat.lt_or_ge i l.length with hl | hl
 ·rw [List.getElem?_append_left hl] at h; exact .inl ⟨hl, h⟩
 ·rw [List.getElem?_append_right hl] at h
  rcases hk : i - l.length with _ | _ | k
  ·rw [hk] at h; exact .inr (.inl ⟨by omega, (Option.some.inj h).symm⟩)
  ·rw [hk] at h; exact .inr (.inr ⟨by omega, (Option.some.inj h).symm⟩)
  ·rw [hk] at h; simp at h
theorem get_last {α : Type} {l : List α} {x : α} : (l ++ [x])[l.length]? = some x := by simp
section
variable {w0 w : World} {M : Nat → Nat → Prop} {tb : Tb} {rs : List Rw}
theorem WOk.splitL {b o o2 : Nat} {cs1 cs2 : List Value} (hW : WOk w0 M w (tb ++ [⟨b, o, cs1 ++ cs2, true⟩]) rs) (ho : o2 = o + cs1.length) :
  WOk w0 M w (tb ++ [⟨b, o2, cs2, true⟩, ⟨b, o, cs1, true⟩]) rs ∧ Fr w (tb ++ [⟨b, o, cs1 ++ cs2, true⟩]) rs w (tb ++ [⟨b, o2, cs2, true⟩, ⟨b, o, cs1, true⟩]) rs := by
 subst ho
 have hi : (tb ++ [(⟨b, o, cs1 ++ cs2, true⟩ : Ob)])[tb.length]? = some ⟨b, o, cs1 ++ cs2, true⟩ := get_last
 have old : ∀ {j : Nat} {q : Ob}, j < tb.length → tb[j]? = some q → (tb ++ [(⟨b, o, cs1 ++ cs2, true⟩ : Ob)])[j]? = some q := fun {j q} hj h => by rw [List.getElem?_append_left hj]; exact h
 have hlen : (cs1 ++ cs2).length = cs1.length + cs2.length := List.length_append
 have act : ∀ x y, Act_ (tb ++ [⟨b, o + cs1.length, cs2, true⟩, ⟨b, o, cs1, true⟩]) rs x y → Act_ (tb ++ [⟨b, o, cs1 ++ cs2, true⟩]) rs x y := fun x y ha => by
  rcases ha with ⟨j, q, hj, h1, h2, h3, h4⟩ | ha
  ·rcases get_two hj with ⟨hlt, hj⟩ | ⟨rfl, rfl⟩ | ⟨rfl, rfl⟩
   ·exact .inl ⟨j, q, old hlt hj, h1, h2, h3, h4⟩
   ·exact .inl ⟨_, _, hi, rfl, h2, by dsimp only at h3 ⊢; omega, by dsimp only at h4 ⊢; omega⟩
   ·exact .inl ⟨_, _, hi, rfl, h2, by dsimp only at h3 ⊢; omega, by dsimp only at h4 ⊢; omega⟩
  ·exact .inr ha
 refine ⟨⟨hW.step, ?_, ?_, ?_, ?_, hW.own, hW.ownM, ?_, hW.rr⟩, ⟨fun x y _ hn ha => hn (act x y ha), Step.refl _ _⟩⟩
 ·intro j q hj p v hv
  rcases get_two hj with ⟨hlt, hj⟩ | ⟨rfl, rfl⟩ | ⟨rfl, rfl⟩
  ·exact hW.cells j q (old hlt hj) p v hv
  ·have := hW.cells _ _ hi (cs1.length + p) v (by dsimp only at hv ⊢; rw [List.getElem?_append_right (by omega), Nat.add_sub_cancel_left]; exact hv)
   dsimp only at this ⊢
   rwa [Nat.add_assoc]
  ·exact hW.cells _ _ hi p v (by dsimp only at hv ⊢; rw [List.getElem?_append_left (List.getElem?_eq_some_iff.1 hv).1]; exact hv)
 ·intro j q hj
  rcases get_two hj with ⟨hlt, hj⟩ | ⟨rfl, rfl⟩ | ⟨rfl, rfl⟩
  ·exact hW.live j q (old hlt hj)
  ·have := hW.live _ _ hi; exact this
  ·have := hW.live _ _ hi; exact this
 ·intro j q hj hr p hp
  rcases get_two hj with ⟨hlt, hj⟩ | ⟨rfl, rfl⟩ | ⟨rfl, rfl⟩
  ·exact hW.rw_ j q (old hlt hj) hr p hp
  ·have := hW.rw_ _ _ hi rfl (cs1.length + p) (by dsimp only at hp ⊢; omega)
   dsimp only at this ⊢
   rwa [Nat.add_assoc]
  ·exact hW.rw_ _ _ hi rfl p (by dsimp only at hp ⊢; omega)
 ·intro j k q q' hjk hj hk hw
  rcases get_two hj with ⟨hlj, hj⟩ | ⟨rfl, rfl⟩ | ⟨rfl, rfl⟩ <;> rcases get_two hk with ⟨hlk, hk⟩ | ⟨rfl, rfl⟩ | ⟨rfl, rfl⟩
  ·exact hW.apart j k q q' hjk (old hlj hj) (old hlk hk) hw
  ·have := hW.apart j _ q _ (by omega) (old hlj hj) hi (.inr rfl)
   dsimp only at this ⊢; omega
  ·have := hW.apart j _ q _ (by omega) (old hlj hj) hi (.inr rfl)
   dsimp only at this ⊢; omega
  ·have := hW.apart _ k _ q' (by omega) hi (old hlk hk) (.inl rfl)
   dsimp only at this ⊢; omega
  ·exact absurd rfl hjk
  ·exact .inr (.inr (Nat.le_refl _))
  ·have := hW.apart _ k _ q' (by omega) hi (old hlk hk) (.inl rfl)
   dsimp only at this ⊢; omega
  ·exact .inr (.inl (Nat.le_refl _))
  ·exact absurd rfl hjk
 ·intro j r hj g hg k q hk
  rcases get_two hk with ⟨hlk, hk⟩ | ⟨rfl, rfl⟩ | ⟨rfl, rfl⟩
  ·exact hW.rtb j r hj g hg k q (old hlk hk)
  ·have := hW.rtb j r hj g hg _ _ hi; exact this
  ·have := hW.rtb j r hj g hg _ _ hi; exact this
theorem WOk.atLast {G : Nat → Nat → Prop} {b o : Nat} {cs : List Value} (hW : WOk w0 M w (tb ++ [⟨b, o, cs, true⟩]) []) (hb : w0.heap.size ≤ b) : AtF w (Imm G w0 w tb []) b o cs := fun j v hj => by
 have hlt : j < cs.length := (List.getElem?_eq_some_iff.1 hj).1
 refine ⟨⟨.inr hb, ?_, fun ha => ?_⟩, ?_⟩
 ·have := hW.live _ _ get_last; exact this
 ·rcases ha with ⟨i, q, hi, hr, h2, h3, h4⟩ | ⟨i, r, hi, _⟩
  ·have hil : i < tb.length := (List.getElem?_eq_some_iff.1 hi).1
   have := hW.apart i _ q _ (by omega) (by rw [List.getElem?_append_left hil]; exact hi) get_last (.inr rfl)
   dsimp only at this; omega
  ·simp at hi
 ·have := hW.cells _ _ get_last j v hj; exact this
end
def doneF (g size : Nat) (cl : DV → List Value) (ok : World → (Nat → Nat → Prop) → DV → Prop) (rel : DV → Tree → Prop) (L : List Tree) (k : Nat) : FactW := fun w F => ∃ ds : Nat → DV, ∀ i, i < k → (cl (ds i)).length = size ∧ AtF w F g (0 + i * size) (cl (ds i)) ∧ ok w F (ds i) ∧ rel (ds i) (L.getD i .zero)
theorem MvF.done {g size : Nat} {cl : DV → List Value} {ok : World → (Nat → Nat → Prop) → DV → Prop} {rel : DV → Tree → Prop} {L : List Tree} {k : Nat} (mv : Moves ok) : MvF (doneF g size cl ok rel L k) := ⟨fun hs hM hF h => by
 obtain ⟨ds, h⟩ := h
 refine ⟨ds, fun i hi => ?_⟩
 obtain ⟨h1, h2, h3, h4⟩ := h i hi
 exact ⟨h1, h2.move hs hM hF, mv _ hs hM hF h3, h4⟩⟩
abbrev restO (g size : Nat) (z : Value) (l k : Nat) : Ob := ⟨g, k * size, zerosL z (l - k), true⟩
def lstF (size : Nat) (cl : DV → List Value) (ok : World → (Nat → Nat → Prop) → DV → Prop) (rel : DV → Tree → Prop) (A : Option Addr) (c : Nat) (L : List Tree) (f : Nat → DV) : FactW := fun w F => Slots w F size A c L.length (fun i => cl (f i)) ∧ (∀ i, i < L.length → ok w F (f i)) ∧ ∀ i, i < L.length → rel (f i) (L.getD i .zero)
theorem MvF.lst {size : Nat} {cl : DV → List Value} {ok : World → (Nat → Nat → Prop) → DV → Prop} {rel : DV → Tree → Prop} {A : Option Addr} {c : Nat} {L : List Tree} {f : Nat → DV} (mv : Moves ok) : MvF (lstF size cl ok rel A c L f) := ⟨fun hs hM hF h =>
 ⟨h.1.move hs hM hF, fun i hi => mv _ hs hM hF (h.2.1 i hi), h.2.2⟩⟩
section
variable {Pr : Program} {ops : Array Oper} {Q : Exit → Act → World → Prop} {w0 : World} {M F : Nat → Nat → Prop} {n br : Nat} {tb : Tb} {env : Env} {P : FactW} {s : Bs} {a : Act} {w : World}
 {g size : Nat} {cl : DV → List Value} {ok : World → (Nat → Nat → Prop) → DV → Prop} {rel : DV → Tree → Prop} {L : List Tree} {z : Value}
theorem RS.pull {ι : Type} {Qf : ι → FactW} (h : RS w0 M F n br tb env (andF P (fun w F => ∃ x, Qf x w F)) s a w) (mP : MvF P) (mv : ∀ x, MvF (Qf x)) : ∃ x, RS w0 M F n br tb env (andF P (Qf x)) s a w := by
 obtain ⟨h1, x, hx⟩ := h.fact
 exact ⟨x, mP.and (mv x), h.ex, h.env_, h1, hx⟩
theorem RS.drop {b o : Nat} {cs : List Value} (h : RS w0 M F n br (tb ++ [⟨b, o, cs, true⟩]) env P s a w) (hb : w0.heap.size ≤ b) (hl : below (tb.length + 1) env = true) : RS w0 M F n br tb env (andF P (atF b o cs)) s a w := by
 obtain ⟨A, m, c, hW, hr, hE, hP⟩ := h.open_
 have hW' : WOk w0 M w ((rdo br A m c :: tb) ++ [⟨b, o, cs, true⟩]) [] := hW
 have h1 := hW'.cutTb (tb.length + 1)
 have hF := Fr.cutTb w ((rdo br A m c :: tb) ++ [⟨b, o, cs, true⟩]) [] (tb.length + 1)
 have e : ((rdo br A m c :: tb) ++ [(⟨b, o, cs, true⟩ : Ob)]).take (tb.length + 1) = rdo br A m c :: tb := by
  show List.take ((rdo br A m c :: tb).length) _ = _
  exact List.take_left
 have hE1 := hE.cutTb (tb.length + 1) hl
 have e2 : (rdo br A m c :: (tb ++ [(⟨b, o, cs, true⟩ : Ob)])).take (tb.length + 1) = rdo br A m c :: tb := e
 rw [e] at h1 hF
 rw [e2] at hE1
 exact RS.mk' h1 (hr.move hF.step immM hF.to') hE1 (h.mv.and (MvF.at_ _ _ _)) ⟨h.mv.move hF.step immM hF.to' hP, hW'.atLast hb⟩
theorem RS.next {l k : Nat} (h : RS w0 M F n br (tb ++ [restO g size z l k]) env P s a w) (hk : k < l) (hz : z.cells.size = size) (hl : below (tb.length + 1) env = true) : RS w0 M F n br (tb ++ [restO g size z l (k + 1), ⟨g, k * size, z.cells.toList, true⟩]) env P s a w := by
 obtain ⟨A, m, c, hW, hr, hE, hP⟩ := h.open_
 have e : zerosL z (l - k) = z.cells.toList ++ zerosL z (l - (k + 1)) := by rw [show l - k = (l - (k + 1)) + 1 by omega, zerosL_succ]
 have hW' : WOk w0 M w ((rdo br A m c :: tb) ++ [⟨g, k * size, z.cells.toList ++ zerosL z (l - (k + 1)), true⟩]) [] := by rw [← e]; exact hW
 obtain ⟨h1, hF⟩ := hW'.splitL (o2 := (k + 1) * size) (by rw [Array.length_toList, hz, Nat.add_mul, Nat.one_mul])
 rw [← e] at hF
 have hE1 := hE.cutTb (tb.length + 1) hl
 have e2 : (rdo br A m c :: (tb ++ [restO g size z l k])).take (tb.length + 1) = rdo br A m c :: tb := by
  show List.take ((rdo br A m c :: tb).length) ((rdo br A m c :: tb) ++ _) = _
  exact List.take_left
 rw [e2] at hE1
 have hE2 := (hE1.grow (restO g size z l (k + 1))).grow ⟨g, k * size, z.cells.toList, true⟩
 have e3 : ((rdo br A m c :: tb) ++ [restO g size z l (k + 1)]) ++ [(⟨g, k * size, z.cells.toList, true⟩ : Ob)] = rdo br A m c :: (tb ++ [restO g size z l (k + 1), ⟨g, k * size, z.cells.toList, true⟩]) := by simp
 rw [e3] at hE2
 exact RS.mk' h1 (hr.move hF.step immM hF.to') hE2 h.mv (h.mv.move hF.step immM hF.to' hP)
theorem RS.thing {k : Nat} {D : DV} {X : FactW} (h : RS w0 M F n br (tb ++ [restO g size z L.length (k + 1), ⟨g, k * size, cl D, true⟩]) env X s a w) (hg : w0.heap.size ≤ g) {t : Tree} (ht : L[k]? = some t) (mv : Moves ok) (mP : MvF P) (hcl : (cl D).length = size)
  (hx : ∀ w F, X w F → P w F ∧ doneF g size cl ok rel L k w F ∧ ok w F D ∧ rel D t) (hl : below (tb.length + 2) env = true) : RS w0 M F n br (tb ++ [restO g size z L.length (k + 1)]) env (andF P (doneF g size cl ok rel L (k + 1))) s a w := by
 have h' : RS w0 M F n br ((tb ++ [restO g size z L.length (k + 1)]) ++ [⟨g, k * size, cl D, true⟩]) env X s a w := by
  rw [List.append_assoc]; exact h
 refine (h'.drop hg (by simpa using hl)).weak (mP.and (MvF.done mv)) fun w F hf => ?_
 obtain ⟨hf, hat⟩ := hf
 obtain ⟨h1, ⟨ds, h2⟩, h3, h4⟩ := hx w F hf
 refine ⟨h1, fun i => if i = k then D else ds i, fun i hi => ?_⟩
 by_cases hik : i = k
 ·subst hik
  simp only [if_true]
  exact ⟨hcl, by rw [Nat.zero_add]; exact hat, h3, by rw [List.getD_eq_getElem?_getD, ht]; exact h4⟩
 ·simp only [if_neg hik]
  exact h2 i (by omega)
theorem RS.listEnd {c : Nat} (h : RS w0 M F n br (tb ++ [restO g size z L.length L.length]) env (andF P (doneF g size cl ok rel L L.length)) s a w) (hg : w0.heap.size ≤ g) (mv : Moves ok) (mP : MvF P) (hc : L.length ≤ c) (hsm : L.length ≤ 1099511627776) (h0 : 0 < L.length)
  (hl : below (tb.length + 1) env = true) : ∃ f : Nat → DV, RS w0 M F n br tb env (andF P (lstF size cl ok rel (some ⟨g, 0, none⟩) c L f)) s a w := by
 have mE : MvF (fun w F => ∃ f : Nat → DV, lstF size cl ok rel (some ⟨g, 0, none⟩) c L f w F) := ⟨fun hs hM hF hx => by
  obtain ⟨f, hx⟩ := hx
  exact ⟨f, (MvF.lst mv).move hs hM hF hx⟩⟩
 refine RS.pull (Qf := fun f => lstF size cl ok rel (some ⟨g, 0, none⟩) c L f) ((h.drop hg hl).weak (mP.and mE) fun w F hf => ?_) mP fun f => MvF.lst mv
 obtain ⟨⟨h1, ds, h2⟩, _⟩ := hf
 refine ⟨h1, ds, ⟨hc, hsm, fun h => by (cases h), fun ad hA _ => ?_⟩, fun i hi => (h2 i hi).2.2.1, fun i hi => (h2 i hi).2.2.2⟩
 obtain rfl := Option.some.inj hA
 exact ⟨g, 0, rfl, fun i hi => ⟨(h2 i hi).1, (h2 i hi).2.1⟩⟩
theorem rs_loop {c : Code} (gf : Tree → Bs) (rest : Bs) (envk : Nat → Env) (h : RS w0 M F n br (tb ++ [⟨g, 0, zerosL z L.length, true⟩]) (envk 0) P (L.flatMap gf ++ rest) a w) (mv : Moves ok)
  (body : ∀ k t a w, L[k]? = some t → k < L.length → RS w0 M F n br (tb ++ [restO g size z L.length k]) (envk k) (andF P (doneF g size cl ok rel L k)) (gf t ++ ((L.drop (k + 1)).flatMap gf ++ rest)) a w →
   c.wp Pr (Exit.then (fun a' w' => RS w0 M F n br (tb ++ [restO g size z L.length (k + 1)]) (envk (k + 1)) (andF P (doneF g size cl ok rel L (k + 1))) ((L.drop (k + 1)).flatMap gf ++ rest) a' w') Q) a w)
  (fin : ∀ a w, RS w0 M F n br (tb ++ [restO g size z L.length L.length]) (envk L.length) (andF P (doneF g size cl ok rel L L.length)) rest a w → c.wp Pr (Exit.then (fun _ _ => False) Q) a w) : (Code.loop c).wp Pr Q a w := by
 refine wp_loop_ghost (fun q a_ w_ => ∃ k, q = L.length - k ∧ k ≤ L.length ∧ RS w0 M F n br (tb ++ [restO g size z L.length k]) (envk k) (andF P (doneF g size cl ok rel L k)) ((L.drop k).flatMap gf ++ rest) a_ w_) L.length
  ⟨0, by omega, Nat.zero_le _, ?_⟩ ?_
 ·have e : restO g size z L.length 0 = ⟨g, 0, zerosL z L.length, true⟩ := by simp only [restO, Nat.zero_mul, Nat.sub_zero]
  rw [e, List.drop_zero]
  exact h.weak (h.mv.and (MvF.done mv)) fun w F hP => ⟨hP, fun _ => dv0, fun i hi => absurd hi (Nat.not_lt_zero i)⟩
 ·rintro q aq wq ⟨k, rfl, hk, hS⟩
  rcases Nat.lt_or_ge k L.length with hlt | hge
  ·obtain ⟨t, ht⟩ : ∃ t, L[k]? = some t := ⟨_, List.getElem?_eq_getElem hlt⟩
   have e : (L.drop k).flatMap gf ++ rest = gf t ++ ((L.drop (k + 1)).flatMap gf ++ rest) := by
    rw [drop_get ht, List.flatMap_cons, List.append_assoc]
   refine wp_mono (body k t aq wq ht hlt (hS.cast e)) fun e a' w' hq => ?_
   cases e <;> first | exact hq | exact ⟨L.length - (k + 1), by omega, k + 1, rfl, hlt, hq⟩
  ·obtain rfl : k = L.length := by omega
   rw [List.drop_length] at hS
   refine wp_mono (fin aq wq hS) fun e a' w' hq => ?_
   cases e <;> first | exact hq | exact hq.elim
theorem loop_out {c : Code} (h : c.wp Pr (Exit.then (fun _ _ => False) Q) a w) : (Code.loop c).wp Pr Q a w := by
 refine wp_loop_ghost (fun _ a_ w_ => a_ = a ∧ w_ = w) 0 ⟨rfl, rfl⟩ ?_
 rintro q _ _ ⟨rfl, rfl⟩
 refine wp_mono h fun e a' w' hq => ?_
 cases e <;> first | exact hq | exact hq.elim
theorem wp_join2 {x y z : Code} {Mid : Act → World → Prop} (h1 : x.wp Pr (Exit.then (fun a w => y.wp Pr (Exit.then Mid Q) a w) Q) a w) (h2 : ∀ a' w', Mid a' w' → z.wp Pr Q a' w') : (Code.seq x (.seq y z)).wp Pr Q a w :=
 wp_seq (wp_join h1 fun a' w' hy => wp_seq (wp_join hy h2))
end
end Go.Proofs.YtgolpmkenmedoaaGreatDoor.ME