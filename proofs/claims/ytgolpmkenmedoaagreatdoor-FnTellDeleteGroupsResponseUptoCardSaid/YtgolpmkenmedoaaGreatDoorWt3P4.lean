/- The texts of a claim, put together: the engine, the contracts, the law. Own work. -/
import Derived.Test.YtgolpmkenmedoaaGreatDoorWt3P3
namespace Go.Proofs.YtgolpmkenmedoaaGreatDoor.ME
open Go
open Go.RowKit
set_option linter.unusedVariables false
set_option linter.unusedSimpArgs false
set_option maxRecDepth 20000
def GotOK (m : Nat) : Prop := ∀ (ct : List Value) (t : Tree) (w : World) (F : Nat → Nat → Prop), TreeR w F ct t → t.depth ≤ m →
  Calls Tryz.prog 21 #[.agg ct.toArray] w (qdY w F t)
theorem lGot_step {m : Nat} (hg : GotOK m) (ct : List Value) (t : Tree) (w : World) (F : Nat → Nat → Prop) (ht : TreeR w F ct t) (hd : t.depth ≤ m + 1) :
  Calls Tryz.prog 21 #[.agg ct.toArray] w (qdY w F t) := by
 obtain ⟨n1, s2, b3, l4, u5, A6, c7, A8, c9, ap, ar, dT, rfl, rfl, dw, dx, dU, dV⟩ := ht.open_
 have dy := dw.small
 have dz := dx.small
 obtain ⟨dW, dA, dX⟩ := dV.ex
 have dB := dA.small
 refine enter (n := 49) Tryz.func21 rfl Tryz.ntmps21 kz fun a hE => ?_
 have hW := WOk.start w Nil
 refine qad [0, 1] kz ?_
 refine qaj (qa9 hW hE (d := 1) (cs := [.int .i64 n1, .slice A6 s2.length c7, .bool b3, .slice A8 l4.length c9, .slice ap u5.length ar]) kz fun bF fk fm dY dZ d5 cY cZ => ?_)
 refine qaj (qaK cY cZ (d := 2) (cs := [.int .i64 0, .slice none 0 0, .bool false, .slice none 0 0, .slice none 0 0]) kz fun bG fo fq d6 d7 d8 bI c5 => ?_)
 refine qae (qab ?_)
 refine qad [0, 1, 2, 3, 4, 5, 6, 7, 8] kz ?_
 refine qah [0, 1, 2, 3, 4, 5, 6] [7, 8] [(1, .p 0 0), (2, .p 1 0), (14, .v (.agg #[.int .i64 n1, .slice A6 s2.length c7, .bool b3, .slice none 0 0, .slice none 0 0]))] bI c5 fun fr c6 => ?_
 refine qaj (qaK bI c6 (d := 3) (cs := [.int .i64 0, .slice none 0 0, .bool false, .slice none 0 0, .slice none 0 0]) kz fun bH ft fu d9 ea eb da db => ?_)
 refine qaj (qaw da db (oi := 2) (cs := [.int .i64 n1, .slice A6 s2.length c7, .bool b3, .slice none 0 0, .slice none 0 0]) kz fun fv ec bz dc => ?_)
 refine qae (qab ?_)
 refine wp_seq ?_
 refine qan [(1, .p 0 0), (2, .p 1 0), (3, .p 2 0), (16, .v (.slice A8 l4.length c9)), (17, .v (.int .i64 ((l4.length : Nat) : Int))), (18, .v (.int .i64 0))] bz dc fun fw de => ?_
 refine wp_block ?_
 have bJ := bz.addNil 26 5
 have ee := bz.frNil 26 5
 refine wp_loop_ghost (fun n_ a_ w_ => ∃ (k : Nat) (A_ : Option Addr) (c_ : Nat) (xs : List Value) (css : List (List Value)), n_ = l4.length - k ∧ k ≤ l4.length ∧ (Trees w_ (Imm F w w_ [⟨bF, 0, [.int .i64 n1, .slice A6 s2.length c7, .bool b3, .slice A8 l4.length c9, .slice ap u5.length ar], true⟩, ⟨bG, 0, [.int .i64 0, .slice none 0 0, .bool false, .slice none 0 0, .slice none 0 0], true⟩, ⟨bH, 0, [.int .i64 n1, .slice A6 s2.length c7, .bool b3, .slice A_ k c_, .slice none 0 0], true⟩] [⟨A_, c_, 26, 5, k, xs⟩]) xs (l4.take k) css) ∧ LInv bJ 49 [⟨bF, 0, [.int .i64 n1, .slice A6 s2.length c7, .bool b3, .slice A8 l4.length c9, .slice ap u5.length ar], true⟩, ⟨bG, 0, [.int .i64 0, .slice none 0 0, .bool false, .slice none 0 0, .slice none 0 0], true⟩, ⟨bH, 0, [.int .i64 n1, .slice A6 s2.length c7, .bool b3, .slice A_ k c_, .slice none 0 0], true⟩] [⟨A_, c_, 26, 5, k, xs⟩] [(1, .p 0 0), (2, .p 1 0), (3, .p 2 0), (16, .v (.slice A8 l4.length c9)), (17, .v (.int .i64 ((l4.length : Nat) : Int))), (18, .v (.int .i64 ((k : Nat) : Int)))] a_ w_) (l4.length) ⟨0, none, 0, [], [], by omega, by omega, Trees.nil _ _, de.pk, bJ, Fr.refl _ _ _⟩ ?_
 rintro fx fy fz ⟨k, A_, c_, xs, css, ef, eg, hT, df, aw, dg⟩
 refine qan [(1, .p 0 0), (2, .p 1 0), (3, .p 2 0), (16, .v (.slice A8 l4.length c9)), (17, .v (.int .i64 ((l4.length : Nat) : Int))), (18, .v (.int .i64 ((k : Nat) : Int))), (19, .v (.bool (decide (((k : Nat) : Int) < ((l4.length : Nat) : Int)))))] aw df fun fA bA => ?_
 refine wp_seq ?_
 refine qat bA (b := decide (((k : Nat) : Int) < ((l4.length : Nat) : Int))) kz (fun bB => ?_) (fun bB => ?_)
 ·
  have eh := of_decide_eq_true bB
  refine wp_skip ?_
  refine qab ?_
  refine wp_seq ?_
  refine wp_block ?_
  refine qad [0, 1, 2, 3] kz ?_
  obtain ⟨ei, ej, dh, ek, bf⟩ := Slots.get dx (i := k) (by omega)
  obtain ⟨em, bC⟩ : ∃ x, l4[k]? = some x := ⟨_, List.getElem?_eq_getElem (by omega)⟩
  have bD := dU k em bC
  obtain ⟨bK, bL, bM, bN, bO, bP, bQ, bR, bS, bT, bU, eo, rfl, bg, ep, eu, fB, fC⟩ := bD.open_
  rw [bg] at bD
  have dC := ep.small
  have dD := eu.small
  rw [bg] at bf
  refine qaj (qaA bA (t := 34) (A := A8) (m := l4.length) (q := ((k : Nat) : Int)) (d := 20) kz (e := 37) (size := 5) (bytes := 88) kz dh rfl (by omega) fun fD bV => ?_)
  refine qaj (qaH bV (t := 37) (b := ei) (o := ej + k * 5) (d := 21) kz (cs := [.int .i64 bK, .slice bP bL.length bQ, .bool bM, .slice bR bN.length bS, .slice bT bO.length bU]) (v := .agg #[.int .i64 bK, .slice bP bL.length bQ, .bool bM, .slice bR bN.length bS, .slice bT bO.length bU]) kz (AtF.move bf aw.step nilM qaY).at_ fun ev bW => ?_)
  refine qaj (qaK aw bW (d := 5) (cs := [.int .i64 0, .slice none 0 0, .bool false, .slice none 0 0, .slice none 0 0]) kz fun ew ey ez dE dF ax bX bY => ?_)
  refine qaj (qaw bX bY (oi := 3) (cs := [.int .i64 bK, .slice bP bL.length bQ, .bool bM, .slice bR bN.length bS, .slice bT bO.length bU]) kz fun eB ay bZ b8 => ?_)
  refine qae (qab ?_)
  refine qcO 7 kz bZ fun eC az ag cd => ?_
  refine qaE [0, 1, 2] [(1, .p 0 0), (2, .p 1 0), (3, .p 2 0), (16, .v (.slice A8 l4.length c9)), (17, .v (.int .i64 ((l4.length : Nat) : Int))), (18, .v (.int .i64 ((k : Nat) : Int))), (23, .v (.slice A_ k c_)), (24, .v (.agg #[.int .i64 bK, .slice bP bL.length bQ, .bool bM, .slice bR bN.length bS, .slice bT bO.length bU]))] 5 (qac (qaa (qaa (qac (qaa qaf))))) (fun _ h => h.cells) cd b8 fun eD ce => ?_
  refine qay (i := 3) kz (qai ce (f := 21) (vs := [.agg #[.int .i64 bK, .slice bP bL.length bQ, .bool bM, .slice bR bN.length bS, .slice bT bO.length bU]]) (d := 25) kz Tryz.call21 ( hg _ _ _ _ (bD.move ag.step nilM ag.imm) (by have h_ := deep_get bC; rw [qga] at hd; omega)) ?_)
  rintro e_ eE ⟨dG, rfl, cm, aA⟩
  have aB := cm.move (Step.refl _ Nil) nilM (ag.laid (G := F) aA)
  obtain ⟨aC, aD, aE, aF, aG, aH, aI, aJ, aK, aL, aM, dH, dI, aN, di, dj, eF, eG⟩ := aB.open_
  rw [aN] at aB
  have dl := di.small
  have dp := dj.small
  rw [aN]
  refine ⟨_, rfl, fun eH cq => ?_⟩
  have bh := ag.next_nil aA
  have ae := ag.frN aA
  have cr := TT.ofW ae bh
  refine ⟨fun _ => cr, ?_⟩
  refine qay (i := 4) kz (qbA bh cq (e := 26) (size := 5) (len := 1) (cs := [.int .i64 aC, .slice aH aD.length aI, .bool aE, .slice aJ aF.length aK, .slice aL aG.length aM]) (d := 26) kz kz fun dq eI eJ dJ dK aa au cu => ?_)
  have cw := TT.ofW (ae.trans aa) au
  refine ⟨fun _ => cw, ?_⟩
  refine qay (i := 5) kz (qaQ au cu (k := 0) (d := 27) (t := 23) (e := 26) (size := 5) (bytes := 88) (A := A_) (As := (some ⟨dq, 0, none⟩)) (m0 := k) (c := c_) (m := 1) (cs := 1) (xs := xs) (news := [.int .i64 aC, .slice aH aD.length aI, .bool aE, .slice aJ aF.length aK, .slice aL aG.length aM]) kz kz rfl (qbz (au.own 1 _ rfl) (qbF kz)) (qbI (au.own 1 _ rfl)) (by omega) fun aO aP eK eL af bi cz => ?_)
  have bj := TT.ofW ((ae.trans aa).trans af) bi
  refine ⟨fun _ => bj, ?_⟩
  refine qaE [6] [(1, .p 0 0), (2, .p 1 0), (3, .p 2 0), (16, .v (.slice A8 l4.length c9)), (17, .v (.int .i64 ((l4.length : Nat) : Int))), (18, .v (.int .i64 ((k : Nat) : Int))), (27, .v (.slice aO (k + 1) aP)), (28, .p 2 3)] 1 (qac (qaa (qaa (qac (qaa qaf))))) (fun _ h => h.cells) bj cz fun eM cA => ?_
  refine qay (i := 7) kz (qaw bi cA (oi := 2) (cs := [.int .i64 n1, .slice A6 s2.length c7, .bool b3, .slice aO (k + 1) aP, .slice none 0 0]) kz fun eN ah bk cB => ?_)
  refine ⟨fun h => absurd rfl h, ?_⟩
  refine qaC kz ?_ _
  refine qaq ?_
  refine qab ?_
  refine qas [0, 1] kz ?_
  refine qah [0, 1] [] [(1, .p 0 0), (2, .p 1 0), (3, .p 2 0), (16, .v (.slice A8 l4.length c9)), (17, .v (.int .i64 ((l4.length : Nat) : Int))), (18, .v (.int .i64 (IntKind.i64.wrap (((k : Nat) : Int) + 1))))] bk cB fun eO cC => ?_
  refine qae (qab ?_)
  obtain ⟨bn, cD, ai⟩ := bk.cutB cC 3 [⟨bF, 0, [.int .i64 n1, .slice A6 s2.length c7, .bool b3, .slice A8 l4.length c9, .slice ap u5.length ar], true⟩, ⟨bG, 0, [.int .i64 0, .slice none 0 0, .bool false, .slice none 0 0, .slice none 0 0], true⟩, ⟨bH, 0, [.int .i64 n1, .slice A6 s2.length c7, .bool b3, .slice aO (k + 1) aP, .slice none 0 0], true⟩] [(1, .p 0 0), (2, .p 1 0), (3, .p 2 0), (16, .v (.slice A8 l4.length c9)), (17, .v (.int .i64 ((l4.length : Nat) : Int))), (18, .v (.int .i64 (IntKind.i64.wrap (((k : Nat) : Int) + 1))))]
  obtain ⟨cE, aj⟩ := cD.cutR 1 [⟨aO, aP, 26, 5, k + 1, xs ++ [.int .i64 aC, .slice aH aD.length aI, .bool aE, .slice aJ aF.length aK, .slice aL aG.length aM]⟩]
  have cG : IntKind.i64.wrap (((k : Nat) : Int) + 1) = ((k + 1 : Nat) : Int) := qaJ (by omega)
  rw [cG] at bn
  exact ⟨l4.length - (k + 1), by omega, k + 1, aO, aP, xs ++ [Value.int .i64 aC, .slice aH aD.length aI, .bool aE, .slice aJ aF.length aK, .slice aL aG.length aM], (css ++ [[Value.int .i64 aC, .slice aH aD.length aI, .bool aE, .slice aJ aF.length aK, .slice aL aG.length aM]]), rfl, by omega, by rw [qcv bC]; exact (hT.move ((((((((ax.trans ay).trans az).trans ae).trans aa).trans af).trans ah).trans ai).trans aj).step immM ((((((((ax.trans ay).trans az).trans ae).trans aa).trans af).trans ah).trans ai).trans aj).to').snoc (aB.move ((((aa.trans af).trans ah).trans ai).trans aj).step immM ((((aa.trans af).trans ah).trans ai).trans aj).to'), bn.pk, cE, (((((((((dg.trans ax).trans ay).trans az).trans ae).trans aa).trans af).trans ah).trans ai).trans aj)⟩
 have dL := of_decide_eq_false bB
 refine wp_exit ?_
 refine qaz ?_
 refine qaz ?_
 refine qaI ?_
 refine qab ?_
 refine wp_seq ?_
 refine qan [(2, .p 1 0), (3, .p 2 0), (31, .v (.slice ap u5.length ar)), (32, .v (.int .i64 ((u5.length : Nat) : Int))), (33, .v (.int .i64 0))] aw bA fun eP cH => ?_
 refine wp_block ?_
 have hk0 : k = l4.length := by omega
 have bo := aw.addNil 66 2
 have bp := aw.frNil 66 2
 refine wp_loop_ghost (fun n_ a_ w_ => ∃ (q : Nat) (A5_ : Option Addr) (c5_ : Nat) (ys : List Value) (dss : List (List Value)), n_ = u5.length - q ∧ q ≤ u5.length ∧ (Tags w_ (Imm F w w_ [⟨bF, 0, [.int .i64 n1, .slice A6 s2.length c7, .bool b3, .slice A8 l4.length c9, .slice ap u5.length ar], true⟩, ⟨bG, 0, [.int .i64 0, .slice none 0 0, .bool false, .slice none 0 0, .slice none 0 0], true⟩, ⟨bH, 0, [.int .i64 n1, .slice A6 s2.length c7, .bool b3, .slice A_ k c_, .slice A5_ q c5_], true⟩] [⟨A_, c_, 26, 5, k, xs⟩, ⟨A5_, c5_, 66, 2, q, ys⟩]) ys (u5.take q) dss) ∧ LInv bo 49 [⟨bF, 0, [.int .i64 n1, .slice A6 s2.length c7, .bool b3, .slice A8 l4.length c9, .slice ap u5.length ar], true⟩, ⟨bG, 0, [.int .i64 0, .slice none 0 0, .bool false, .slice none 0 0, .slice none 0 0], true⟩, ⟨bH, 0, [.int .i64 n1, .slice A6 s2.length c7, .bool b3, .slice A_ k c_, .slice A5_ q c5_], true⟩] [⟨A_, c_, 26, 5, k, xs⟩, ⟨A5_, c5_, 66, 2, q, ys⟩] [(2, .p 1 0), (3, .p 2 0), (31, .v (.slice ap u5.length ar)), (32, .v (.int .i64 ((u5.length : Nat) : Int))), (33, .v (.int .i64 ((q : Nat) : Int)))] a_ w_) (u5.length) ⟨0, none, 0, [], [], by omega, by omega, Tags.nil _ _, cH.pk, bo, Fr.refl _ _ _⟩ ?_
 rintro eQ eR eS ⟨q, A5_, c5_, ys, dss, dM, dN, hU, cI, ak, aQ⟩
 refine qan [(2, .p 1 0), (3, .p 2 0), (31, .v (.slice ap u5.length ar)), (32, .v (.int .i64 ((u5.length : Nat) : Int))), (33, .v (.int .i64 ((q : Nat) : Int))), (34, .v (.bool (decide (((q : Nat) : Int) < ((u5.length : Nat) : Int)))))] ak cI fun eU aR => ?_
 refine wp_seq ?_
 refine qat aR (b := decide (((q : Nat) : Int) < ((u5.length : Nat) : Int))) kz (fun aS => ?_) (fun aS => ?_)
 ·
  have dO := of_decide_eq_true aS
  refine wp_skip ?_
  refine qab ?_
  refine wp_seq ?_
  refine wp_block ?_
  refine qad [0, 1, 2, 3] kz ?_
  obtain ⟨dr, dt, cJ, dP, aT⟩ := Slots.get dA (i := q) (by omega)
  obtain ⟨⟨ab, ac⟩, bq⟩ : ∃ x, u5[q]? = some x := ⟨_, List.getElem?_eq_getElem (by omega)⟩
  obtain ⟨⟨al, am, bE, cK⟩, du, dv⟩ := dX q ab ac bq
  rw [bE] at aT
  refine qaj (qaA aR (t := 35) (A := ap) (m := u5.length) (q := ((q : Nat) : Int)) (d := 35) kz (e := 69) (size := 2) (bytes := 32) kz cJ rfl (by omega) fun eV cL => ?_)
  refine qaj (qaH cL (t := 69) (b := dr) (o := dt + q * 2) (d := 36) kz (cs := [.int .u32 ab, .slice al ac.length am]) (v := .agg #[.int .u32 ab, .slice al ac.length am]) kz (AtF.move aT ak.step nilM qaY).at_ fun eW cM => ?_)
  refine qaj (qaK ak cM (d := 7) (cs := [.int .u32 0, .slice none 0 0]) kz fun eX eY eZ dQ dR aU cN cO => ?_)
  refine qaj (qaw cN cO (oi := 3) (cs := [.int .u32 ab, .slice al ac.length am]) kz fun e9 aV bt cP => ?_)
  refine qae (qab ?_)
  refine qas [0, 1, 2, 3, 4, 5, 6, 7, 8, 9, 10] kz ?_
  refine qah [0, 1, 2, 3, 4, 5, 6] [7, 8, 9, 10] [(2, .p 1 0), (3, .p 2 0), (31, .v (.slice ap u5.length ar)), (32, .v (.int .i64 ((u5.length : Nat) : Int))), (33, .v (.int .i64 ((q : Nat) : Int))), (38, .v (.slice A5_ q c5_)), (43, .v (.agg #[.int .u32 ab, .slice al ac.length am]))] bt cP fun fa cQ => ?_
  refine qb7 bt cQ (k := 1) (e := 66) (size := 2) (len := 1) (cs := [.int .u32 ab, .slice al ac.length am]) (d1 := 44) (d := 45) kz (t := 24) (bytes := 32) kz (fun _ => by kernel_rfl) rfl kz (by omega) fun ba bd fb fe aW bu ⟨_, cR⟩ => ?_
  refine qah [9] [10] [(2, .p 1 0), (3, .p 2 0), (31, .v (.slice ap u5.length ar)), (32, .v (.int .i64 ((u5.length : Nat) : Int))), (33, .v (.int .i64 ((q : Nat) : Int))), (45, .v (.slice ba (q + 1) bd)), (46, .p 2 4)] bu cR fun ff cS => ?_
  refine qaj (qaw bu cS (oi := 2) (cs := [.int .i64 n1, .slice A6 s2.length c7, .bool b3, .slice A_ k c_, .slice ba (q + 1) bd]) kz fun fg aX bw cT => ?_)
  refine qae ?_
  refine qaq ?_
  refine qab ?_
  refine qas [0, 1] kz ?_
  refine qah [0, 1] [] [(2, .p 1 0), (3, .p 2 0), (31, .v (.slice ap u5.length ar)), (32, .v (.int .i64 ((u5.length : Nat) : Int))), (33, .v (.int .i64 (IntKind.i64.wrap (((q : Nat) : Int) + 1))))] bw cT fun fh cU => ?_
  refine qae (qab ?_)
  obtain ⟨bx, aY, aZ⟩ := bw.cutB cU 3 [⟨bF, 0, [.int .i64 n1, .slice A6 s2.length c7, .bool b3, .slice A8 l4.length c9, .slice ap u5.length ar], true⟩, ⟨bG, 0, [.int .i64 0, .slice none 0 0, .bool false, .slice none 0 0, .slice none 0 0], true⟩, ⟨bH, 0, [.int .i64 n1, .slice A6 s2.length c7, .bool b3, .slice A_ k c_, .slice ba (q + 1) bd], true⟩] [(2, .p 1 0), (3, .p 2 0), (31, .v (.slice ap u5.length ar)), (32, .v (.int .i64 ((u5.length : Nat) : Int))), (33, .v (.int .i64 (IntKind.i64.wrap (((q : Nat) : Int) + 1))))]
  have cV : IntKind.i64.wrap (((q : Nat) : Int) + 1) = ((q + 1 : Nat) : Int) := qaJ (by omega)
  rw [cV] at bx
  exact ⟨u5.length - (q + 1), by omega, q + 1, ba, bd, ys ++ [Value.int .u32 ab, .slice al ac.length am], (dss ++ [[Value.int .u32 ab, .slice al ac.length am]]), rfl, by omega, by rw [qcv bq]; exact (hU.move ((((aU.trans aV).trans aW).trans aX).trans aZ).step immM ((((aU.trans aV).trans aW).trans aX).trans aZ).to').snoc (c := [.int .u32 ab, .slice al ac.length am]) (x := (ab, ac)) ⟨⟨_, _, rfl, (cK.move aY.step nilM aY.imm)⟩, du, dv⟩, bx.pk, aY, (((((aQ.trans aU).trans aV).trans aW).trans aX).trans aZ)⟩
 have dS := of_decide_eq_false aS
 refine wp_exit ?_
 refine qaz ?_
 refine qaz ?_
 refine qaI ?_
 refine qab ?_
 refine qad [0, 1] kz ?_
 refine qah [0] [1] [(2, .p 1 0), (48, .v (.agg #[.int .i64 n1, .slice A6 s2.length c7, .bool b3, .slice A_ k c_, .slice A5_ q c5_]))] ak aR fun fi cW => ?_
 refine qaj (qaw ak cW (oi := 1) (cs := [.int .i64 n1, .slice A6 s2.length c7, .bool b3, .slice A_ k c_, .slice A5_ q c5_]) kz fun fj av ao cX => ?_)
 refine qae (qab ?_)
 refine wp_ret ?_
 refine qaD cX ao.cells (v := .agg #[.int .i64 n1, .slice A6 s2.length c7, .bool b3, .slice A_ k c_, .slice A5_ q c5_]) kz ?_
 have hq0 : q = u5.length := by omega
 have hT' := (hT.move ((bp.trans aQ).trans av).step immM ((bp.trans aQ).trans av).to')
 have hU' := (hU.move av.step immM av.to')
 rw [show l4.take k = l4 by rw [hk0, List.take_length]] at hT'
 rw [show u5.take q = u5 by rw [hq0, List.take_length]] at hU'
 exact tree_end ao rfl (dw.move ao.step nilM startFp) hk0 (trees_fp ao (k := 0) rfl hT' hk0 (by omega)) hq0 (tags_fp ao (k := 1) rfl hU' hq0 (by omega)) rfl
theorem lGot : ∀ m, GotOK m
 | 0 => fun ct t w F ht hd => by
  obtain ⟨n, s, b, l, u, A1, c1, A2, c2, A3, c3, xs, rfl, _⟩ := ht.open_
  rw [qga] at hd; omega
 | m + 1 => lGot_step (lGot m)
theorem tSorted {u : List (Int × Bs)} {A : Option Addr} {c : Nat} {w : World} {F : Nat → Nat → Prop} (hu : TagsR w F A c u) (hsrt : qcH u) : Calls Tryz.prog 124 #[.slice A u.length c] w (qbU w (.tuple #[])) := by
 obtain ⟨cs1, h2, h3⟩ := hu.ex
 have hsm4 := h2.small
 refine enter (n := 45) Tryz.func124 rfl Tryz.ntmps124 kz fun a hE => ?_
 have hW := WOk.start w Nil
 refine qan [(0, .v (.slice A u.length c)), (5, .v (.int .i64 ((u.length : Nat) : Int))), (6, .v (.int .i64 0))] hW hE fun a5 hE6 => ?_
 refine wp_block ?_
 refine wp_loop_ghost (fun n_ a_ w_ => ∃ (k : Nat), n_ = u.length - k ∧ k ≤ u.length ∧ LInv hW 45 [] [] [(0, .v (.slice A u.length c)), (5, .v (.int .i64 ((u.length : Nat) : Int))), (6, .v (.int .i64 ((k : Nat) : Int)))] a_ w_) (u.length) ⟨0, by omega, by omega, hE6.pk, hW, Fr.refl _ _ _⟩ ?_
 rintro n7 a8 w9 ⟨k, aW, aX, aB, ab, aj⟩
 refine qan [(0, .v (.slice A u.length c)), (5, .v (.int .i64 ((u.length : Nat) : Int))), (6, .v (.int .i64 ((k : Nat) : Int))), (7, .v (.bool (decide (((k : Nat) : Int) < ((u.length : Nat) : Int)))))] ab aB fun bn ah => ?_
 refine wp_seq ?_
 refine qat ah (b := decide (((k : Nat) : Int) < ((u.length : Nat) : Int))) kz (fun ai => ?_) (fun ai => ?_)
 ·
  have aY := of_decide_eq_true ai
  refine wp_skip ?_
  refine qab ?_
  refine wp_seq ?_
  refine wp_block ?_
  refine qan [(0, .v (.slice A u.length c)), (2, .v (.int .i64 ((k : Nat) : Int))), (5, .v (.int .i64 ((u.length : Nat) : Int))), (6, .v (.int .i64 ((k : Nat) : Int)))] ab ah fun bo aC => ?_
  refine qan [(0, .v (.slice A u.length c)), (3, .v (.int .i64 ((k : Nat) : Int))), (5, .v (.int .i64 ((u.length : Nat) : Int))), (6, .v (.int .i64 ((k : Nat) : Int)))] ab aC fun bp aD => ?_
  refine wp_block ?_
  refine loop_out ?_
  refine wp_seq ?_
  refine qbJ kz ab fun bq ak aa => ?_
  refine qaE [0, 1, 2] [(0, .v (.slice A u.length c)), (3, .v (.int .i64 ((k : Nat) : Int))), (5, .v (.int .i64 ((u.length : Nat) : Int))), (6, .v (.int .i64 ((k : Nat) : Int))), (12, .v (.bool (decide (((k : Nat) : Int) > 0))))] 13 (qaa (qaa (qaa (qac (qac (qaa (qaa (qac qaf)))))))) (fun _ h => h ▸ aa.cells) rfl aD fun bt al => ?_
  refine (Bool.eq_false_or_eq_true (decide (((k : Nat) : Int) > 0))).elim (fun ac => ?_) (fun ac => ?_)
  ·
   have aZ := of_decide_eq_true ac
   have aE := al.cast (env' := [(0, .v (.slice A u.length c)), (3, .v (.int .i64 ((k : Nat) : Int))), (5, .v (.int .i64 ((u.length : Nat) : Int))), (6, .v (.int .i64 ((k : Nat) : Int))), (12, .v (.bool true))]) (by rw [ac])
   refine qaE [3, 4, 8, 9, 10] [(0, .v (.slice A u.length c)), (3, .v (.int .i64 ((k : Nat) : Int))), (5, .v (.int .i64 ((u.length : Nat) : Int))), (6, .v (.int .i64 ((k : Nat) : Int))), (12, .v (.bool true)), (13, .v (.slice A u.length c)), (14, .v (.int .i64 ((k : Nat) : Int))), (18, .v (.slice A u.length c)), (20, .v (.int .i64 (IntKind.i64.wrap (((k : Nat) : Int) - 1))))] 8 (qaa (qaa (qaa (qac (qac (qaa (qaa (qac qaf)))))))) (fun _ h => h ▸ aa.cells) rfl aE fun bu aF => ?_
   obtain ⟨az, aA, aG, ba, ae⟩ := Slots.get h2 (i := k) (by omega)
   obtain ⟨⟨af, bd⟩, am⟩ : ∃ x, u[k]? = some x := ⟨_, List.getElem?_eq_getElem (by omega)⟩
   obtain ⟨⟨bw, bx, ao, bf⟩, bz, bA⟩ := h3 k af bd am
   rw [ao] at ae
   refine qaO aF (i := 5) (t := 35) (A := A) (m := u.length) (q := ((k : Nat) : Int)) (d := 15) kz (e := 69) (size := 2) (bytes := 32) kz aG rfl (by omega) kz kz (qaa (qaa (qaa (qac (qac (qaa (qaa (qac qaf)))))))) rfl fun bB aH => ?_
   refine qaE [6] [(0, .v (.slice A u.length c)), (3, .v (.int .i64 ((k : Nat) : Int))), (5, .v (.int .i64 ((u.length : Nat) : Int))), (6, .v (.int .i64 ((k : Nat) : Int))), (12, .v (.bool true)), (16, .v (.pointer (some ⟨az, aA + k * 2, none⟩))), (18, .v (.slice A u.length c)), (20, .v (.int .i64 (IntKind.i64.wrap (((k : Nat) : Int) - 1))))] 6 (qaa (qaa (qaa (qac (qac (qaa (qaa (qac qaf)))))))) (fun _ h => h ▸ aa.cells) rfl aH fun bC aI => ?_
   refine qaX aI (i := 7) (t := 64) (b := az) (o := aA + k * 2) (d := 17) kz (cs := [.int .u32 af]) (v := .int .u32 af) kz (fun w' h' => h' ▸ (At.drop (AtF.move ae aa.step nilM qaY).at_ 0 1)) kz kz (qaa (qaa (qaa (qac (qac (qaa (qaa (qac qaf)))))))) rfl fun bD aJ => ?_
   have aK : IntKind.i64.wrap (((k : Nat) : Int) - 1) = (((k - 1) : Nat) : Int) := by simp only [qcg, qav, qbm, IntKind.wrap_i64, IntKind.wrap_i32]; omega
   have aL := EnvOk.pick aJ (ks := [0, 3, 5, 6, 12, 16, 18, 20, 17]) (env' := [(0, .v (.slice A u.length c)), (3, .v (.int .i64 ((k : Nat) : Int))), (5, .v (.int .i64 ((u.length : Nat) : Int))), (6, .v (.int .i64 ((k : Nat) : Int))), (12, .v (.bool true)), (16, .v (.pointer (some ⟨az, aA + k * 2, none⟩))), (18, .v (.slice A u.length c)), (20, .v (.int .i64 (IntKind.i64.wrap (((k : Nat) : Int) - 1)))), (17, .v (.int .u32 af))]) kz
   have aM := aL.cast (env' := [(0, .v (.slice A u.length c)), (3, .v (.int .i64 ((k : Nat) : Int))), (5, .v (.int .i64 ((u.length : Nat) : Int))), (6, .v (.int .i64 ((k : Nat) : Int))), (12, .v (.bool true)), (16, .v (.pointer (some ⟨az, aA + k * 2, none⟩))), (18, .v (.slice A u.length c)), (20, .v (.int .i64 (((k - 1) : Nat) : Int))), (17, .v (.int .u32 af))]) (by rw [aK])
   obtain ⟨aU, aV, aN, bg, ag⟩ := Slots.get h2 (i := (k - 1)) (by omega)
   obtain ⟨⟨ap, bh⟩, ar⟩ : ∃ x, u[(k - 1)]? = some x := ⟨_, List.getElem?_eq_getElem (by omega)⟩
   obtain ⟨⟨bE, bF, au, bi⟩, bG, bH⟩ := h3 (k - 1) ap bh ar
   rw [au] at ag
   refine qaO aM (i := 11) (t := 35) (A := A) (m := u.length) (q := (((k - 1) : Nat) : Int)) (d := 21) kz (e := 69) (size := 2) (bytes := 32) kz aN rfl (by omega) kz kz (qaa (qaa (qaa (qac (qac (qaa (qaa (qac qaf)))))))) rfl fun bI aO => ?_
   refine qaE [12] [(0, .v (.slice A u.length c)), (3, .v (.int .i64 ((k : Nat) : Int))), (5, .v (.int .i64 ((u.length : Nat) : Int))), (6, .v (.int .i64 ((k : Nat) : Int))), (12, .v (.bool true)), (17, .v (.int .u32 af)), (22, .v (.pointer (some ⟨aU, aV + (k - 1) * 2, none⟩)))] 3 (qaa (qaa (qaa (qac (qac (qaa (qaa (qac qaf)))))))) (fun _ h => h ▸ aa.cells) rfl aO fun bJ aP => ?_
   refine qaX aP (i := 13) (t := 64) (b := aU) (o := aV + (k - 1) * 2) (d := 23) kz (cs := [.int .u32 ap]) (v := .int .u32 ap) kz (fun w' h' => h' ▸ (At.drop (AtF.move ag aa.step nilM qaY).at_ 0 1)) kz kz (qaa (qaa (qaa (qac (qac (qaa (qaa (qac qaf)))))))) rfl fun bK aQ => ?_
   refine qaE [14, 15] [(0, .v (.slice A u.length c)), (3, .v (.int .i64 ((k : Nat) : Int))), (5, .v (.int .i64 ((u.length : Nat) : Int))), (6, .v (.int .i64 ((k : Nat) : Int))), (25, .v (.bool (decide (af < ap))))] 0 (qaa (qaa (qaa (qac (qac (qaa (qaa (qac qaf)))))))) (fun _ h => h ▸ aa.cells) rfl aQ fun bL av => ?_
   refine qaC kz ?_ _
   refine qab ?_
   refine qap av (b := decide (af < ap)) kz (decide_eq_false (sorted_not hsrt am ar (by omega))) ?_
   refine wp_exit ?_
   refine qaz ?_
   refine qaz ?_
   refine qaI ?_
   refine qaq ?_
   refine qab ?_
   refine qas [0, 1] kz ?_
   refine qah [0, 1] [] [(0, .v (.slice A u.length c)), (5, .v (.int .i64 ((u.length : Nat) : Int))), (6, .v (.int .i64 (IntKind.i64.wrap (((k : Nat) : Int) + 1))))] aa av fun bM aw => ?_
   refine qae (qab ?_)
   have aR : IntKind.i64.wrap (((k : Nat) : Int) + 1) = ((k + 1 : Nat) : Int) := qaJ (by omega)
   rw [aR] at aw
   exact ⟨u.length - (k + 1), by omega, k + 1, rfl, by omega, aw.pk, aa, (aj.trans ak)⟩
  have bj := of_decide_eq_false ac
  have aS := al.cast (env' := [(0, .v (.slice A u.length c)), (3, .v (.int .i64 ((k : Nat) : Int))), (5, .v (.int .i64 ((u.length : Nat) : Int))), (6, .v (.int .i64 ((k : Nat) : Int))), (12, .v (.bool false))]) (by rw [ac])
  refine qaE [3, 4, 5, 6, 7, 8, 9, 10, 11, 12, 13, 14, 15] [(0, .v (.slice A u.length c)), (3, .v (.int .i64 ((k : Nat) : Int))), (5, .v (.int .i64 ((u.length : Nat) : Int))), (6, .v (.int .i64 ((k : Nat) : Int))), (25, .v (.bool false))] 0 (qaa (qaa (qaa (qac (qac (qaa (qaa (qac qaf)))))))) (fun _ h => h ▸ aa.cells) rfl aS fun bN ax => ?_
  refine qaC kz ?_ _
  refine qab ?_
  refine qap ax (b := false) kz rfl ?_
  refine wp_exit ?_
  refine qaz ?_
  refine qaz ?_
  refine qaI ?_
  refine qaq ?_
  refine qab ?_
  refine qas [0, 1] kz ?_
  refine qah [0, 1] [] [(0, .v (.slice A u.length c)), (5, .v (.int .i64 ((u.length : Nat) : Int))), (6, .v (.int .i64 (IntKind.i64.wrap (((k : Nat) : Int) + 1))))] aa ax fun bO ay => ?_
  refine qae (qab ?_)
  have aT : IntKind.i64.wrap (((k : Nat) : Int) + 1) = ((k + 1 : Nat) : Int) := qaJ (by omega)
  rw [aT] at ay
  exact ⟨u.length - (k + 1), by omega, k + 1, rfl, by omega, ay.pk, aa, (aj.trans ak)⟩
 have bk := of_decide_eq_false ai
 refine wp_exit ?_
 refine qaz ?_
 refine qaz ?_
 refine qaI ?_
 refine qbG ah ab.cells (v := .tuple #[]) kz ?_
 exact ⟨rfl, ab.step⟩
theorem tTextN (s : ByteArray) (w : World) (F : Nat → Nat → Prop) : Calls Tryz.prog 139 #[.pointer none] w (qdY w F (.mk 0 [] true [] [])) := by
 refine enter (n := 11) Tryz.func139 rfl Tryz.ntmps139 kz fun a hE => ?_
 have hW := WOk.start w Nil
 refine qad [0] kz ?_
 refine qaj (qaK hW hE (d := 2) (cs := [.int .i64 0, .slice none 0 0, .bool false, .slice none 0 0, .slice none 0 0]) kz fun b1 a2 w3 hb4 hz5 hF6 hW7 hE8 => ?_)
 refine qae (qab ?_)
 refine wp_seq ?_
 refine qan [(0, .v (.pointer none)), (2, .p 0 0), (4, .v (.bool true))] hW7 hE8 fun a9 aa => ?_
 refine qaW aa (b := true) kz rfl ?_
 refine qad [0, 1] kz ?_
 refine qah [0] [1] [(2, .p 0 0), (5, .v (.agg #[.int .i64 0, .slice none 0 0, .bool true, .slice none 0 0, .slice none 0 0]))] hW7 aa fun ah ac => ?_
 refine qaj (qaw hW7 ac (oi := 0) (cs := [.int .i64 0, .slice none 0 0, .bool true, .slice none 0 0, .slice none 0 0]) kz fun af ag ab ae => ?_)
 refine qae (qab ?_)
 refine wp_ret ?_
 refine qam ?_
 refine qaD ae ab.cells (v := .agg #[.int .i64 0, .slice none 0 0, .bool true, .slice none 0 0, .slice none 0 0]) kz ?_
 exact ⟨_, rfl, (show TreeR _ (Imm F w af [⟨b1, 0, [.int .i64 0, .slice none 0 0, .bool true, .slice none 0 0, .slice none 0 0], true⟩] []) _ (Tree.mk 0 [] true [] []) from (TreeR.mk (n := 0) (b := true) (s := []) (l := []) (u := []) (fun _ => []) (Octs.nil _ _) (Slots.nil _ _ _ _) (fun i_ x_ h_ => by simp at h_) (TagsR.nil _ _))).move (Step.refl _ Nil) nilM qbR, ab.step⟩
theorem tTextS (b o : Nat) (s : ByteArray) (w : World) (F : Nat → Nat → Prop) (hat : AtF w F b o [.string s]) (hs : s.size ≤ 1000000) : Calls Tryz.prog 139 #[.pointer (some ⟨b, o, none⟩)] w (qdY w F (.mk 0 (sb s) false [] [])) := by
 refine enter (n := 11) Tryz.func139 rfl Tryz.ntmps139 kz fun a hE => ?_
 have hW := WOk.start w Nil
 refine qad [0] kz ?_
 refine qaj (qaK hW hE (d := 2) (cs := [.int .i64 0, .slice none 0 0, .bool false, .slice none 0 0, .slice none 0 0]) kz fun b1 a2 w3 hb4 hz5 hF6 hW7 hE8 => ?_)
 refine qae (qab ?_)
 refine wp_seq ?_
 refine qan [(0, .v (.pointer (some ⟨b, o, none⟩))), (2, .p 0 0), (4, .v (.bool false))] hW7 hE8 fun a9 aa => ?_
 refine qap aa (b := false) kz rfl ?_
 refine wp_skip ?_
 refine qab ?_
 refine qad [0, 1, 2, 3, 4, 5] kz ?_
 refine qah [0, 1] [2, 3, 4, 5] [(2, .p 0 0), (7, .v (.pointer (some ⟨b, o, none⟩)))] hW7 aa fun au ah => ?_
 refine qaj (qaH ah (t := 9) (b := b) (o := o) (d := 8) kz (cs := [.string s]) (v := .string s) kz (AtF.move hat hW7.step nilM qaY).at_ fun av ai => ?_)
 refine qaj (qfp (d := 9) (src := 9) (dst := 22) (e := 5) (s := s) hW7 ai (by omega) fun af ag aw ax ap ab aj ak => ?_)
 have al := aj F
 refine qah [4] [5] [(2, .p 0 0), (10, .v (.agg #[.int .i64 0, .slice (some ⟨af, 0, none⟩) ((sb s).length) ag, .bool false, .slice none 0 0, .slice none 0 0]))] ab ak fun ay am => ?_
 refine qaj (qaw ab am (oi := 0) (cs := [.int .i64 0, .slice (some ⟨af, 0, none⟩) ((sb s).length) ag, .bool false, .slice none 0 0, .slice none 0 0]) kz fun ar ac ae ao => ?_)
 refine qae (qab ?_)
 refine wp_ret ?_
 refine qaD ao ae.cells (v := .agg #[.int .i64 0, .slice (some ⟨af, 0, none⟩) ((sb s).length) ag, .bool false, .slice none 0 0, .slice none 0 0]) kz ?_
 exact ⟨_, rfl, (show TreeR _ (Imm F w ar [⟨b1, 0, [.int .i64 0, .slice (some ⟨af, 0, none⟩) ((sb s).length) ag, .bool false, .slice none 0 0, .slice none 0 0], true⟩] []) _ (Tree.mk 0 (sb s) false [] []) from (TreeR.mk (n := 0) (b := false) (s := (sb s)) (l := []) (u := []) (fun _ => []) (al.move ac.step immM ac.to') (Slots.nil _ _ _ _) (fun i_ x_ h_ => by simp at h_) (TagsR.nil _ _))).move (Step.refl _ Nil) nilM qbR, ae.step⟩
theorem tText (A : Option Addr) (s : ByteArray) (w : World) (F : Nat → Nat → Prop) (hO : ∀ ad, A = some ad → ∃ b o, ad = ⟨b, o, none⟩ ∧ AtF w F b o [.string s]) (hs : s.size ≤ 1000000) : Calls Tryz.prog 139 #[.pointer A] w (qdY w F (textT A s)) := by
 cases A with
 | none => exact tTextN s w F
 | some ad =>
  obtain ⟨b, o, rfl, h⟩ := hO ad rfl
  exact tTextS b o s w F h hs
theorem qeo : qfL Tryz.prog 153 69 := by
 intro w B cp c n k A Av x x0 x1 x2 x3 xs G hbx ho hG hn
 refine enter (n := 14) Tryz.func153 rfl Tryz.ntmps153 kz fun a hE => ?_
 have hW := hbx.wok
 have hE0 := (hE.grow ⟨B, 0, [x0, x1, x2, x3, .slice A n cp], true⟩).recast 2 (.v (.pointer (some ⟨B, 0, none⟩))) (.p 0 0) rfl rfl (by simp [SV.ok])
 have hsm := Slots.small ho
 have ap := hE0.pk (env' := [(0, .v (.int .u32 k)), (1, .v (.slice Av x.length c)), (2, .p 0 0)])
 refine qcO 9 kz hW fun w1 hF2 hW3 hT4 => ?_
 refine qaE [0, 1, 2, 3] [(2, .p 0 0), (6, .v (.slice A n cp)), (7, .v (.int .u32 k)), (8, .v (.slice Av x.length c))] 6 qaf (fun _ h => h.cells) hT4 ap fun a5 hE6 => ?_
 have hW7 := hW3.addNil 5 1
 have hF8 := hW3.frNil 5 1
 refine qay (i := 4) kz (qaQ hW7 hE6 (k := 1) (d := 9) (t := 22) (e := 5) (size := 1) (bytes := 1) (A := none) (As := Av) (m0 := 0) (c := 0) (m := x.length) (cs := c) (xs := []) (news := bc x) kz kz rfl (ho.move hW7.step (fun b o h _ => hG b o h) qaY).src (ho.move hW7.step (fun b o h _ => hG b o h) qaY).cap (by first | omega | (simp only [List.length_nil]; omega) | (simp; omega)) fun A9 aa aK aL ac ar au => ?_)
 have av : (⟨A9, aa, 5, 1, 0 + x.length, [] ++ bc x⟩ : Rw) = brow A9 aa 5 x := by rw [List.nil_append, Nat.zero_add]
 obtain ⟨af, ae⟩ := ar.rowEq 1 [⟨A, cp, 69, 2, n, xs⟩, brow A9 aa 5 x] av
 have aw := EnvOk.pick au (ks := [2, 6, 7, 8, 9]) (env' := [(2, .p 0 0), (6, .v (.slice A n cp)), (7, .v (.int .u32 k)), (8, .v (.slice Av x.length c)), (9, .v (.slice A9 (0 + x.length) aa))]) kz
 have ax := aw.cast (env' := [(2, .p 0 0), (6, .v (.slice A n cp)), (7, .v (.int .u32 k)), (8, .v (.slice Av x.length c)), (9, .v (.slice A9 x.length aa))]) (by simp only [List.length_append, List.length_cons, List.length_nil, Nat.zero_add])
 have ag := TT.ofW ((hF8.trans ac).trans ae) af
 refine ⟨fun _ => ag, ?_⟩
 refine qaE [5] [(2, .p 0 0), (6, .v (.slice A n cp)), (10, .v (.agg #[.int .u32 k, .slice A9 x.length aa]))] 4 qaf (fun _ h => h.cells) ag ax fun aM ay => ?_
 refine qay (i := 6) kz (qbA af ay (e := 69) (size := 2) (len := 1) (cs := [.int .u32 k, .slice A9 x.length aa]) (d := 11) kz kz fun aF aN aO aG aH ah ab az => ?_)
 have aA := TT.ofW (((hF8.trans ac).trans ae).trans ah) ab
 refine ⟨fun _ => aA, ?_⟩
 refine qay (i := 7) kz (qaQ ab az (k := 0) (d := 12) (t := 35) (e := 69) (size := 2) (bytes := 32) (A := A) (As := (some ⟨aF, 0, none⟩)) (m0 := n) (c := cp) (m := 1) (cs := 1) (xs := xs) (news := [.int .u32 k, .slice A9 x.length aa]) kz kz rfl (qbz (ab.own 2 _ rfl) (qbF kz)) (qbI (ab.own 2 _ rfl)) (by first | omega | (simp only [List.length_nil]; omega) | (simp; omega)) fun am ao aP aQ aB ai aC => ?_)
 have aj := TT.ofW ((((hF8.trans ac).trans ae).trans ah).trans aB) ai
 refine ⟨fun _ => aj, ?_⟩
 refine qaE [8] [(12, .v (.slice am (n + 1) ao)), (13, .p 0 4)] 1 qaf (fun _ h => h.cells) aj aC fun aR aD => ?_
 refine qay (i := 9) kz (qaw ai aD (oi := 0) (cs := [x0, x1, x2, x3, .slice am (n + 1) ao]) kz fun aS aI ak aE => ?_)
 refine ⟨fun h => absurd rfl h, ?_⟩
 refine qaC kz ?_ _
 refine qbG aE ak.cells (v := .tuple #[]) kz ?_
 obtain ⟨al, aJ⟩ := ak.cutR 2 [⟨am, ao, 69, 2, n + 1, xs ++ [.int .u32 k, .slice A9 x.length aa]⟩, brow A9 aa 5 x]
 have hoo := qe2 (s := x) (Av := A9) (c := aa) (e8 := 5) rfl al (by omega)
 obtain ⟨hb1, hb2, hb3⟩ := tbox_of al (World.lt_of_cell (hbx.str.at_ 0 _ rfl))
 exact ⟨rfl, am, ao, A9, aa, hb1, hoo, hb2, hb3⟩
theorem qcU : qfL Tryz.prog 148 69 := by
 intro w B cp c n k A Av x x0 x1 x2 x3 xs G hbx ho hG hn
 refine enter (n := 14) Tryz.func148 rfl Tryz.ntmps148 kz fun a hE => ?_
 have hW := hbx.wok
 have hE0 := (hE.grow ⟨B, 0, [x0, x1, x2, x3, .slice A n cp], true⟩).recast 2 (.v (.pointer (some ⟨B, 0, none⟩))) (.p 0 0) rfl rfl (by simp [SV.ok])
 have hsm := Slots.small ho
 have ap := hE0.pk (env' := [(0, .v (.int .u32 k)), (1, .v (.slice Av x.length c)), (2, .p 0 0)])
 refine qcO 9 kz hW fun w1 hF2 hW3 hT4 => ?_
 refine qaE [0, 1, 2, 3] [(2, .p 0 0), (6, .v (.slice A n cp)), (7, .v (.int .u32 k)), (8, .v (.slice Av x.length c))] 6 qaf (fun _ h => h.cells) hT4 ap fun a5 hE6 => ?_
 have hW7 := hW3.addNil 5 1
 have hF8 := hW3.frNil 5 1
 refine qay (i := 4) kz (qaQ hW7 hE6 (k := 1) (d := 9) (t := 22) (e := 5) (size := 1) (bytes := 1) (A := none) (As := Av) (m0 := 0) (c := 0) (m := x.length) (cs := c) (xs := []) (news := bc x) kz kz rfl (ho.move hW7.step (fun b o h _ => hG b o h) qaY).src (ho.move hW7.step (fun b o h _ => hG b o h) qaY).cap (by first | omega | (simp only [List.length_nil]; omega) | (simp; omega)) fun A9 aa aK aL ac ar au => ?_)
 have av : (⟨A9, aa, 5, 1, 0 + x.length, [] ++ bc x⟩ : Rw) = brow A9 aa 5 x := by rw [List.nil_append, Nat.zero_add]
 obtain ⟨af, ae⟩ := ar.rowEq 1 [⟨A, cp, 69, 2, n, xs⟩, brow A9 aa 5 x] av
 have aw := EnvOk.pick au (ks := [2, 6, 7, 8, 9]) (env' := [(2, .p 0 0), (6, .v (.slice A n cp)), (7, .v (.int .u32 k)), (8, .v (.slice Av x.length c)), (9, .v (.slice A9 (0 + x.length) aa))]) kz
 have ax := aw.cast (env' := [(2, .p 0 0), (6, .v (.slice A n cp)), (7, .v (.int .u32 k)), (8, .v (.slice Av x.length c)), (9, .v (.slice A9 x.length aa))]) (by simp only [List.length_append, List.length_cons, List.length_nil, Nat.zero_add])
 have ag := TT.ofW ((hF8.trans ac).trans ae) af
 refine ⟨fun _ => ag, ?_⟩
 refine qaE [5] [(2, .p 0 0), (6, .v (.slice A n cp)), (10, .v (.agg #[.int .u32 k, .slice A9 x.length aa]))] 4 qaf (fun _ h => h.cells) ag ax fun aM ay => ?_
 refine qay (i := 6) kz (qbA af ay (e := 69) (size := 2) (len := 1) (cs := [.int .u32 k, .slice A9 x.length aa]) (d := 11) kz kz fun aF aN aO aG aH ah ab az => ?_)
 have aA := TT.ofW (((hF8.trans ac).trans ae).trans ah) ab
 refine ⟨fun _ => aA, ?_⟩
 refine qay (i := 7) kz (qaQ ab az (k := 0) (d := 12) (t := 35) (e := 69) (size := 2) (bytes := 32) (A := A) (As := (some ⟨aF, 0, none⟩)) (m0 := n) (c := cp) (m := 1) (cs := 1) (xs := xs) (news := [.int .u32 k, .slice A9 x.length aa]) kz kz rfl (qbz (ab.own 2 _ rfl) (qbF kz)) (qbI (ab.own 2 _ rfl)) (by first | omega | (simp only [List.length_nil]; omega) | (simp; omega)) fun am ao aP aQ aB ai aC => ?_)
 have aj := TT.ofW ((((hF8.trans ac).trans ae).trans ah).trans aB) ai
 refine ⟨fun _ => aj, ?_⟩
 refine qaE [8] [(12, .v (.slice am (n + 1) ao)), (13, .p 0 4)] 1 qaf (fun _ h => h.cells) aj aC fun aR aD => ?_
 refine qay (i := 9) kz (qaw ai aD (oi := 0) (cs := [x0, x1, x2, x3, .slice am (n + 1) ao]) kz fun aS aI ak aE => ?_)
 refine ⟨fun h => absurd rfl h, ?_⟩
 refine qaC kz ?_ _
 refine qbG aE ak.cells (v := .tuple #[]) kz ?_
 obtain ⟨al, aJ⟩ := ak.cutR 2 [⟨am, ao, 69, 2, n + 1, xs ++ [.int .u32 k, .slice A9 x.length aa]⟩, brow A9 aa 5 x]
 have hoo := qe2 (s := x) (Av := A9) (c := aa) (e8 := 5) rfl al (by omega)
 obtain ⟨hb1, hb2, hb3⟩ := tbox_of al (World.lt_of_cell (hbx.str.at_ 0 _ rfl))
 exact ⟨rfl, am, ao, A9, aa, hb1, hoo, hb2, hb3⟩
theorem qch : qfL Tryz.prog 200 69 := by
 intro w B cp c n k A Av x x0 x1 x2 x3 xs G hbx ho hG hn
 refine enter (n := 14) Tryz.func200 rfl Tryz.ntmps200 kz fun a hE => ?_
 have hW := hbx.wok
 have hE0 := (hE.grow ⟨B, 0, [x0, x1, x2, x3, .slice A n cp], true⟩).recast 2 (.v (.pointer (some ⟨B, 0, none⟩))) (.p 0 0) rfl rfl (by simp [SV.ok])
 have hsm := Slots.small ho
 have ap := hE0.pk (env' := [(0, .v (.int .u32 k)), (1, .v (.slice Av x.length c)), (2, .p 0 0)])
 refine qcO 9 kz hW fun w1 hF2 hW3 hT4 => ?_
 refine qaE [0, 1, 2, 3] [(2, .p 0 0), (6, .v (.slice A n cp)), (7, .v (.int .u32 k)), (8, .v (.slice Av x.length c))] 6 qaf (fun _ h => h.cells) hT4 ap fun a5 hE6 => ?_
 have hW7 := hW3.addNil 5 1
 have hF8 := hW3.frNil 5 1
 refine qay (i := 4) kz (qaQ hW7 hE6 (k := 1) (d := 9) (t := 22) (e := 5) (size := 1) (bytes := 1) (A := none) (As := Av) (m0 := 0) (c := 0) (m := x.length) (cs := c) (xs := []) (news := bc x) kz kz rfl (ho.move hW7.step (fun b o h _ => hG b o h) qaY).src (ho.move hW7.step (fun b o h _ => hG b o h) qaY).cap (by first | omega | (simp only [List.length_nil]; omega) | (simp; omega)) fun A9 aa aK aL ac ar au => ?_)
 have av : (⟨A9, aa, 5, 1, 0 + x.length, [] ++ bc x⟩ : Rw) = brow A9 aa 5 x := by rw [List.nil_append, Nat.zero_add]
 obtain ⟨af, ae⟩ := ar.rowEq 1 [⟨A, cp, 69, 2, n, xs⟩, brow A9 aa 5 x] av
 have aw := EnvOk.pick au (ks := [2, 6, 7, 8, 9]) (env' := [(2, .p 0 0), (6, .v (.slice A n cp)), (7, .v (.int .u32 k)), (8, .v (.slice Av x.length c)), (9, .v (.slice A9 (0 + x.length) aa))]) kz
 have ax := aw.cast (env' := [(2, .p 0 0), (6, .v (.slice A n cp)), (7, .v (.int .u32 k)), (8, .v (.slice Av x.length c)), (9, .v (.slice A9 x.length aa))]) (by simp only [List.length_append, List.length_cons, List.length_nil, Nat.zero_add])
 have ag := TT.ofW ((hF8.trans ac).trans ae) af
 refine ⟨fun _ => ag, ?_⟩
 refine qaE [5] [(2, .p 0 0), (6, .v (.slice A n cp)), (10, .v (.agg #[.int .u32 k, .slice A9 x.length aa]))] 4 qaf (fun _ h => h.cells) ag ax fun aM ay => ?_
 refine qay (i := 6) kz (qbA af ay (e := 69) (size := 2) (len := 1) (cs := [.int .u32 k, .slice A9 x.length aa]) (d := 11) kz kz fun aF aN aO aG aH ah ab az => ?_)
 have aA := TT.ofW (((hF8.trans ac).trans ae).trans ah) ab
 refine ⟨fun _ => aA, ?_⟩
 refine qay (i := 7) kz (qaQ ab az (k := 0) (d := 12) (t := 35) (e := 69) (size := 2) (bytes := 32) (A := A) (As := (some ⟨aF, 0, none⟩)) (m0 := n) (c := cp) (m := 1) (cs := 1) (xs := xs) (news := [.int .u32 k, .slice A9 x.length aa]) kz kz rfl (qbz (ab.own 2 _ rfl) (qbF kz)) (qbI (ab.own 2 _ rfl)) (by first | omega | (simp only [List.length_nil]; omega) | (simp; omega)) fun am ao aP aQ aB ai aC => ?_)
 have aj := TT.ofW ((((hF8.trans ac).trans ae).trans ah).trans aB) ai
 refine ⟨fun _ => aj, ?_⟩
 refine qaE [8] [(12, .v (.slice am (n + 1) ao)), (13, .p 0 4)] 1 qaf (fun _ h => h.cells) aj aC fun aR aD => ?_
 refine qay (i := 9) kz (qaw ai aD (oi := 0) (cs := [x0, x1, x2, x3, .slice am (n + 1) ao]) kz fun aS aI ak aE => ?_)
 refine ⟨fun h => absurd rfl h, ?_⟩
 refine qaC kz ?_ _
 refine qbG aE ak.cells (v := .tuple #[]) kz ?_
 obtain ⟨al, aJ⟩ := ak.cutR 2 [⟨am, ao, 69, 2, n + 1, xs ++ [.int .u32 k, .slice A9 x.length aa]⟩, brow A9 aa 5 x]
 have hoo := qe2 (s := x) (Av := A9) (c := aa) (e8 := 5) rfl al (by omega)
 obtain ⟨hb1, hb2, hb3⟩ := tbox_of al (World.lt_of_cell (hbx.str.at_ 0 _ rfl))
 exact ⟨rfl, am, ao, A9, aa, hb1, hoo, hb2, hb3⟩
end Go.Proofs.YtgolpmkenmedoaaGreatDoor.ME
namespace Go.Proofs.YtgolpmkenmedoaaGreatDoor.ME
open Go
open Go.RowKit
set_option linter.unusedVariables false
set_option linter.unusedSimpArgs false
theorem n8w (x : Int) : IntKind.i8.wrap x = (x + 128) % 256 - 128 := by simp [IntKind.wrap, IntKind.signed, IntKind.bits]; omega
theorem n16w (x : Int) : IntKind.i16.wrap x = (x + 32768) % 65536 - 32768 := by simp [IntKind.wrap, IntKind.signed, IntKind.bits]; omega
theorem n32w (x : Int) : IntKind.i32.wrap x = (x + 2147483648) % 4294967296 - 2147483648 := by simp [IntKind.wrap, IntKind.signed, IntKind.bits]; omega
theorem n64w (x : Int) : IntKind.i64.wrap x = (x + 9223372036854775808) % 18446744073709551616 - 9223372036854775808 := by simp [IntKind.wrap, IntKind.signed, IntKind.bits]; omega
theorem n64_8 (x : Int) : IntKind.i64.wrap (IntKind.i8.wrap x) = IntKind.i8.wrap x := by rw [n64w, n8w]; omega
theorem qe4 (x : Int) : IntKind.i64.wrap (IntKind.i16.wrap x) = IntKind.i16.wrap x := by rw [n64w, n16w]; omega
theorem qe5 (x : Int) : IntKind.i64.wrap (IntKind.i32.wrap x) = IntKind.i32.wrap x := by rw [n64w, n32w]; omega
theorem qep (x : Int) : IntKind.i64.wrap (IntKind.u16.wrap x) = IntKind.u16.wrap x := by rw [n64w, qbm]; omega
def qbi (k n : Int) : Int := if k = 0 then n % 2 else if k = 1 then IntKind.i8.wrap n else if k = 2 then IntKind.i16.wrap n else if k = 3 then IntKind.i32.wrap n else if k = 5 then IntKind.u16.wrap n else n
structure UsQ (U : List Fld → Tree → Prop) (k x1 x2 x3 x4 x5 x6 : Int) (sub : List Fld) (n : Int) (s : Bs) (b : Bool) (l : List Tree) (u : List (Int × Bs)) : Prop where
 text : k = 8 → b = decide (x3 ≥ 0) ∧ s = []
 uuid : k = 7 → s = List.replicate 16 0
 octs : k = 9 ∨ k = 11 → s = [] ∧ l = []
 part : k = 10 → (x3 ≥ 0 → b = true) ∧ (x3 < 0 → U sub (.mk n s b l u))
 num : k ≠ 7 → k ≠ 8 → k ≠ 9 → k ≠ 10 → k ≠ 11 → n = qbi k x5
def UsF (U : List Fld → Tree → Prop) : Fld → Tree → Prop
 | .mk k x1 x2 x3 x4 x5 x6 sub, .mk n s b l u => UsQ U k x1 x2 x3 x4 x5 x6 sub n s b l u
def UsP (U : List Fld → Tree → Prop) (l : List Fld) (g : Tree) : Prop := g.U = [] ∧ ∀ (i : Nat) (f : Fld), l[i]? = some f → UsF U f (g.at_ i)
def UsualP : Nat → List Fld → Tree → Prop
 | 0 => UsP fun _ _ => False
 | d + 1 => UsP (UsualP d)
structure ToQ (T : List Fld → Tree → Tree → Prop) (v : Int) (f : Fld) (k x3 : Int) (sub : List Fld) (t : Tree) (tn : Int) (ts : Bs) (n : Int) (s : Bs) (b : Bool) (g : Tree) : Prop where
 null : k = 8 ∨ k = 10 ∨ (x3 ≥ 0 ∧ v ≥ x3) → b = f.nul v t
 text : f.nul v t = false → k = 8 ∨ k = 9 → s = qaB ts
 uuid : f.nul v t = false → k = 7 → s = qbe ts
 part : f.nul v t = false → k = 10 → T sub t g
 num : f.nul v t = false → k ≠ 7 → k ≠ 8 → k ≠ 9 → k ≠ 10 → k ≠ 11 → n = qbi k tn
def ToF0 (T : List Fld → Tree → Tree → Prop) (v : Int) : Fld → Tree → Tree → Prop
 | .mk k x1 x2 x3 x4 x5 x6 sub, .mk tn ts tb tl tu, .mk n s b l u => ToQ T v (.mk k x1 x2 x3 x4 x5 x6 sub) k x3 sub (.mk tn ts tb tl tu) tn ts n s b (.mk n s b l u)
def ToF (T : List Fld → Tree → Tree → Prop) (v : Int) (f : Fld) (t g : Tree) : Prop :=
 ToF0 T v f t g ∧ (f.kind = 11 → f.nul v t = false → g.L.length = (qal t.L).length ∧ ∀ (i : Nat) (x y : Tree), (qal t.L)[i]? = some x → g.L[i]? = some y → ToF0 T v f.elem x y)
def Fld.pres (f : Fld) (v : Int) (flex : Bool) (x : Tree) : Bool := (decide (f.tag < 0) && f.has v) || (decide (f.tag ≥ 0) && (flex && !f.usual x))
def ToP (T : List Fld → Tree → Tree → Prop) (U : List Fld → Tree → Prop) (l : List Fld) (v : Int) (flex : Bool) (t g : Tree) : Prop :=
 g.L.length = l.length ∧ (∀ (i : Nat) (f : Fld) (y : Tree), l[i]? = some f → g.L[i]? = some y → (f.pres v flex (t.at_ i) = true → ToF T v f (t.at_ i) y) ∧ (f.pres v flex (t.at_ i) = false → UsF U f y)) ∧
  g.U = (if flex = true then qb5 (qag l t.U) else [])
def ToldP (v : Int) (flex : Bool) : Nat → List Fld → Tree → Tree → Prop
 | 0 => fun l t g => ToP (fun _ _ _ => False) (fun _ _ => False) l v flex t g
 | d + 1 => fun l t g => ToP (ToldP v flex d) (UsualP d) l v flex t g
theorem us_one {U : List Fld → Tree → Prop} {f : Fld} {y : Tree} (h : UsF U f y) : UsP U [f] (.mk 0 [] false [y] []) := by
 refine ⟨rfl, fun i g hg => ?_⟩
 cases i with
 | zero =>
  simp only [List.getElem?_cons_zero, Option.some.injEq] at hg
  subst hg
  exact h
 | succ i => simp at hg
theorem octs_zero {w : World} {e : Nat} {A : Option Addr} {c : Nat} {F : Nat → Nat → Prop} (h : w.ownsRow 0 e 1 (.slice A 16 c) 16 (List.replicate 16 (.int .u8 0))) (hF : ∀ g, A.map (·.block) = some g → ∀ o, F g o) : Octs w F A c (List.replicate 16 0) :=
 qbX (s := List.replicate 16 0) h (by decide) hF
section
variable {U : List Fld → Tree → Prop} {k x1 x2 x3 x4 x5 x6 n : Int} {sub : List Fld} {s : Bs} {b : Bool} {l : List Tree} {u : List (Int × Bs)}
abbrev UsH (U : List Fld → Tree → Prop) (k x1 x2 x3 x4 x5 x6 : Int) (sub : List Fld) (n : Int) (s : Bs) (b : Bool) (l : List Tree) (u : List (Int × Bs)) : Prop := UsF U (.mk k x1 x2 x3 x4 x5 x6 sub) (.mk n s b l u)
theorem us_q (h : UsH U k x1 x2 x3 x4 x5 x6 sub n s b l u) : UsQ U k x1 x2 x3 x4 x5 x6 sub n s b l u := h
theorem qfM (h : UsH U k x1 x2 x3 x4 x5 x6 sub n s b l u) (hk : k = 8) (hc : (b != decide (x3 ≥ 0)) = true) : False := by
 have := ((us_q h).text hk).1
 rw [this] at hc; simp at hc
theorem qfN (h : UsH U k x1 x2 x3 x4 x5 x6 sub n s b l u) (hk : k = 8) (hc : ((s.length : Nat) : Int) > 0) : False := by
 have := ((us_q h).text hk).2
 rw [this] at hc; simp at hc
theorem us_7 (h : UsH U k x1 x2 x3 x4 x5 x6 sub n s b l u) (hk : k = 7) (hc : (!decide (s = (List.replicate 16 0 : Bs))) = true) : False := by
 have := (us_q h).uuid hk
 rw [this] at hc; simp at hc
theorem qfO (h : UsH U k x1 x2 x3 x4 x5 x6 sub n s b l u) (hk : k = 9) (hc : ((s.length : Nat) : Int) > 0) : False := by
 have := ((us_q h).octs (.inl hk)).1
 rw [this] at hc; simp at hc
theorem qfP (h : UsH U k x1 x2 x3 x4 x5 x6 sub n s b l u) (hk : k = 9) (hc : ((l.length : Nat) : Int) > 0) : False := by
 have := ((us_q h).octs (.inl hk)).2
 rw [this] at hc; simp at hc
theorem qd8 (h : UsH U k x1 x2 x3 x4 x5 x6 sub n s b l u) (hk : k = 11) (hc : ((s.length : Nat) : Int) > 0) : False := by
 have := ((us_q h).octs (.inr hk)).1
 rw [this] at hc; simp at hc
theorem qd9 (h : UsH U k x1 x2 x3 x4 x5 x6 sub n s b l u) (hk : k = 11) (hc : ((l.length : Nat) : Int) > 0) : False := by
 have := ((us_q h).octs (.inr hk)).2
 rw [this] at hc; simp at hc
theorem qfQ (h : UsH U k x1 x2 x3 x4 x5 x6 sub n s b l u) (hk : k = 10) (h3 : x3 ≥ 0) (hc : (!b) = true) : False := by
 have := ((us_q h).part hk).1 h3
 rw [this] at hc; simp at hc
theorem us_sub (h : UsH U k x1 x2 x3 x4 x5 x6 sub n s b l u) (hk : k = 10) (h3 : x3 < 0) : U sub (.mk n s b l u) := ((us_q h).part hk).2 h3
theorem us_n (h : UsH U k x1 x2 x3 x4 x5 x6 sub n s b l u) (h7 : k ≠ 7) (h8 : k ≠ 8) (h9 : k ≠ 9) (h10 : k ≠ 10) (h11 : k ≠ 11) (hc : n ≠ qbi k x5) : False := hc ((us_q h).num h7 h8 h9 h10 h11)
theorem us_u {g : Tree} (h : g.U = []) {u : List (Int × Bs)} (e : g.U = u) (hc : ((u.length : Nat) : Int) > 0) : False := by
 rw [← e, h] at hc; simp at hc
end
section
variable {T : List Fld → Tree → Tree → Prop} {v k x1 x2 x3 x4 x5 x6 tn n : Int} {sub : List Fld} {ts s : Bs} {tb b : Bool} {tl l : List Tree} {tu u : List (Int × Bs)}
abbrev ToH (T : List Fld → Tree → Tree → Prop) (v k x1 x2 x3 x4 x5 x6 : Int) (sub : List Fld) (tn : Int) (ts : Bs) (tb : Bool) (tl : List Tree) (tu : List (Int × Bs)) (n : Int) (s : Bs) (b : Bool) (l : List Tree) (u : List (Int × Bs)) : Prop := ToF0 T v (.mk k x1 x2 x3 x4 x5 x6 sub) (.mk tn ts tb tl tu) (.mk n s b l u)
abbrev NulH (v k x1 x2 x3 x4 x5 x6 : Int) (sub : List Fld) (tn : Int) (ts : Bs) (tb : Bool) (tl : List Tree) (tu : List (Int × Bs)) : Bool := Fld.nul (.mk k x1 x2 x3 x4 x5 x6 sub) v (.mk tn ts tb tl tu)
theorem to_q (h : ToH T v k x1 x2 x3 x4 x5 x6 sub tn ts tb tl tu n s b l u) : ToQ T v (.mk k x1 x2 x3 x4 x5 x6 sub) k x3 sub (.mk tn ts tb tl tu) tn ts n s b (.mk n s b l u) := h
theorem to_n8 (h : ToH T v k x1 x2 x3 x4 x5 x6 sub tn ts tb tl tu n s b l u) (hk : k = 8) (hc : (b != NulH v k x1 x2 x3 x4 x5 x6 sub tn ts tb tl tu) = true) : False := by
 rw [(to_q h).null (.inl hk)] at hc; simp at hc
theorem qgt (h : ToH T v k x1 x2 x3 x4 x5 x6 sub tn ts tb tl tu n s b l u) (hk : k = 10) (hc : (b != NulH v k x1 x2 x3 x4 x5 x6 sub tn ts tb tl tu) = true) : False := by
 rw [(to_q h).null (.inr (.inl hk))] at hc; simp at hc
theorem qfR (h : ToH T v k x1 x2 x3 x4 x5 x6 sub tn ts tb tl tu n s b l u) (h1 : x3 ≥ 0) (h2 : v ≥ x3) (hc : (b != NulH v k x1 x2 x3 x4 x5 x6 sub tn ts tb tl tu) = true) : False := by
 rw [(to_q h).null (.inr (.inr ⟨h1, h2⟩))] at hc; simp at hc
theorem to_part (h : ToH T v k x1 x2 x3 x4 x5 x6 sub tn ts tb tl tu n s b l u) (hn : NulH v k x1 x2 x3 x4 x5 x6 sub tn ts tb tl tu = false) (hk : k = 10) : T sub (.mk tn ts tb tl tu) (.mk n s b l u) := (to_q h).part hn hk
theorem qdR (h : ToH T v k x1 x2 x3 x4 x5 x6 sub tn ts tb tl tu n s b l u) (hn : NulH v k x1 x2 x3 x4 x5 x6 sub tn ts tb tl tu = false) (hk : k = 8) : decide (s = qaB ts) = true := decide_eq_true ((to_q h).text hn (.inl hk))
theorem qdS (h : ToH T v k x1 x2 x3 x4 x5 x6 sub tn ts tb tl tu n s b l u) (hn : NulH v k x1 x2 x3 x4 x5 x6 sub tn ts tb tl tu = false) (hk : k = 9) : decide (s = qaB ts) = true := decide_eq_true ((to_q h).text hn (.inr hk))
theorem to_u (h : ToH T v k x1 x2 x3 x4 x5 x6 sub tn ts tb tl tu n s b l u) (hn : NulH v k x1 x2 x3 x4 x5 x6 sub tn ts tb tl tu = false) (hk : k = 7) : decide (s = qbe ts) = true := decide_eq_true ((to_q h).uuid hn hk)
theorem to_m (h : ToH T v k x1 x2 x3 x4 x5 x6 sub tn ts tb tl tu n s b l u) (hn : NulH v k x1 x2 x3 x4 x5 x6 sub tn ts tb tl tu = false) (h8 : k ≠ 8) (h9 : k ≠ 9) (h7 : k ≠ 7) (h10 : k ≠ 10) (h11 : k ≠ 11) : (n == qbi k tn) = true := by
 rw [(to_q h).num hn h7 h8 h9 h10 h11]; simp
theorem to_len {a c : Nat} (h : a = c) (hc : ((a : Nat) : Int) ≠ ((c : Nat) : Int)) : False := hc (by rw [h])
end
theorem qfS {P : Program} {ops : Array Oper} {Q : Exit → Act → World → Prop} {a : Act} {w : World} {T : World → Prop} {c i j fuel : Nat} {listed : Array Bool} (hr : Region.ready .any ops listed = [i, j]) (h : wpOp P ops Q i (fun a' w' => (i ≠ c → T w') ∧ qbs P ops Q T c fuel (listed.setIfInBounds i true) a' w') a w)
  (h' : wpOp P ops Q j (fun a' w' => (j ≠ c → T w') ∧ qbs P ops Q T c fuel (listed.setIfInBounds j true) a' w') a w) : qbs P ops Q T c (fuel + 1) listed a w := by
 refine ⟨fun h0 => (by rw [hr] at h0; cases h0), fun q hq => ?_⟩
 rw [hr] at hq
 simp only [List.mem_cons, List.not_mem_nil, or_false] at hq
 rcases hq with rfl | rfl
 ·exact h
 exact h'
theorem pres_a {k x1 x2 x3 x4 x5 x6 v : Int} {sub : List Fld} {flex : Bool} {x : Tree} (h : x4 < 0) (h2 : Fld.has (.mk k x1 x2 x3 x4 x5 x6 sub) v = true) : Fld.pres (.mk k x1 x2 x3 x4 x5 x6 sub) v flex x = true := by
 simp [Fld.pres, Fld.tag, h, h2]
theorem pres_b {k x1 x2 x3 x4 x5 x6 v : Int} {sub : List Fld} {flex : Bool} {x : Tree} (h : x4 ≥ 0) (h2 : flex = true) (h3 : (!Fld.usual (.mk k x1 x2 x3 x4 x5 x6 sub) x) = true) : Fld.pres (.mk k x1 x2 x3 x4 x5 x6 sub) v flex x = true := by
 subst h2
 simp only [Bool.not_eq_true'] at h3
 simp [Fld.pres, Fld.tag, h, h3]
theorem pres_c {k x1 x2 x3 x4 x5 x6 v : Int} {sub : List Fld} {flex : Bool} {x : Tree} (h : x4 < 0) (h2 : Fld.has (.mk k x1 x2 x3 x4 x5 x6 sub) v = false) : Fld.pres (.mk k x1 x2 x3 x4 x5 x6 sub) v flex x = false := by
 have : ¬ x4 ≥ 0 := by omega
 simp [Fld.pres, Fld.tag, h2, this]
theorem pres_d {k x1 x2 x3 x4 x5 x6 v : Int} {sub : List Fld} {flex : Bool} {x : Tree} (h : ¬ x4 < 0) (h2 : flex = false) : Fld.pres (.mk k x1 x2 x3 x4 x5 x6 sub) v flex x = false := by
 subst h2
 simp [Fld.pres, Fld.tag, h]
theorem pres_e {k x1 x2 x3 x4 x5 x6 v : Int} {sub : List Fld} {flex : Bool} {x : Tree} (h : ¬ x4 < 0) (h3 : (!Fld.usual (.mk k x1 x2 x3 x4 x5 x6 sub) x) = false) : Fld.pres (.mk k x1 x2 x3 x4 x5 x6 sub) v flex x = false := by
 simp only [Bool.not_eq_false'] at h3
 simp [Fld.pres, Fld.tag, h, h3]
theorem pres_f {k x1 x2 x3 x4 x5 x6 v : Int} {sub : List Fld} {flex : Bool} {x : Tree} (h : ¬ x4 < 0) (h2 : flex = true) : Fld.pres (.mk k x1 x2 x3 x4 x5 x6 sub) v flex x = !Fld.usual (.mk k x1 x2 x3 x4 x5 x6 sub) x := by
 subst h2
 have : x4 ≥ 0 := by omega
 simp [Fld.pres, Fld.tag, h, this]
theorem pres_g {k x1 x2 x3 x4 x5 x6 v : Int} {sub : List Fld} {flex : Bool} {x : Tree} (h : x4 < 0) : Fld.pres (.mk k x1 x2 x3 x4 x5 x6 sub) v flex x = Fld.has (.mk k x1 x2 x3 x4 x5 x6 sub) v := by
 have : ¬ x4 ≥ 0 := by omega
 simp [Fld.pres, Fld.tag, h, this]
section
variable {w : World} {F : Nat → Nat → Prop}
theorem at_own {e size b c : Nat} {xs : List Value} {n : Nat} (h : w.ownsRow 0 e size (.slice (some ⟨b, 0, none⟩) n c) n xs) : AtF w (fun _ _ => True) b 0 xs := fun j v hj => ⟨trivial, by
 have := h.cells (g := b) rfl j v hj
 rw [qbr] at this
 exact this⟩
theorem flds_one {e b c : Nat} {cf : List Value} {f : Fld} (h : w.ownsRow 0 e 8 (.slice (some ⟨b, 0, none⟩) 1 c) 1 cf) (hf : FldR w F cf f) (hc : 1 ≤ c) : FldsR w (fun _ _ => True) (some ⟨b, 0, none⟩) c [f] := by
 refine ⟨fun _ => cf, ⟨hc, (by show 1 ≤ 1099511627776; decide), fun h => (by cases h), fun ad hA _ => ?_⟩, fun i x hx => ?_⟩
 ·obtain rfl := Option.some.inj hA
  refine ⟨b, 0, rfl, fun i hi => ⟨hf.eight, ?_⟩⟩
  have : i = 0 := by simp at hi; omega
  subst this
  simpa using at_own h
 cases i with
 | zero =>
  simp only [List.getElem?_cons_zero, Option.some.injEq] at hx
  subst hx
  exact hf.move (Step.refl _ Nil) nilM fun _ _ _ _ => trivial
 | succ i => simp at hx
theorem tree_one {e b c : Nat} {cy : List Value} {y : Tree} (h : w.ownsRow 0 e 5 (.slice (some ⟨b, 0, none⟩) 1 c) 1 cy) (hy : TreeR w F cy y) (hc : 1 ≤ c) : TreeR w (fun _ _ => True) [.int .i64 0, .slice none 0 0, .bool false, .slice (some ⟨b, 0, none⟩) 1 c, .slice none 0 0] (.mk 0 [] false [y] []) := by
 refine TreeR.mk (l := [y]) (s := []) (u := []) (fun _ => cy) (Octs.nil _ _) ⟨hc, (by show 1 ≤ 1099511627776; decide), fun h => (by cases h), fun ad hA _ => ?_⟩ (fun i x hx => ?_) (TagsR.nil _ _)
 ·obtain rfl := Option.some.inj hA
  refine ⟨b, 0, rfl, fun i hi => ⟨hy.five, ?_⟩⟩
  have : i = 0 := by simp at hi; omega
  subst this
  simpa using at_own h
 cases i with
 | zero =>
  simp only [List.getElem?_cons_zero, Option.some.injEq] at hx
  subst hx
  exact hy.move (Step.refl _ Nil) nilM fun _ _ _ _ => trivial
 | succ i => simp at hx
end
section
variable {gu tu : List (Int × Bs)} {l : List Fld} {flex : Bool} {i : Nat} {k k' : Int} {s s' : Bs}
theorem qea (h : gu = if flex = true then qb5 (qag l tu) else []) (hf : (!flex) = false) (hc : ((gu.length : Nat) : Int) ≠ (((qag l tu).length : Nat) : Int)) : False := by
 cases flex
 ·cases hf
 rw [if_pos rfl] at h
 rw [h, qcI] at hc
 exact hc rfl
theorem qdi (h : gu = if flex = true then qb5 (qag l tu) else []) (hf : (!flex) = true) (hc : ((gu.length : Nat) : Int) ≠ 0) : False := by
 cases flex
 ·rw [if_neg (by decide)] at h
  rw [h] at hc
  exact hc rfl
 cases hf
theorem told_at (h : gu = if flex = true then qb5 (qag l tu) else []) (hf : (!flex) = false) (hu : (qag l tu)[i]? = some (k, s)) (hg : gu[i]? = some (k', s')) : k' = k ∧ s' = qaB s := by
 cases flex
 ·cases hf
 rw [if_pos rfl] at h
 rw [h, wholeU_get hu] at hg
 have := Option.some.inj hg
 exact ⟨(Prod.mk.injEq .. ▸ this).1.symm, (Prod.mk.injEq .. ▸ this).2.symm⟩
theorem qeb (h : gu = if flex = true then qb5 (qag l tu) else []) (hf : (!flex) = false) (hu : (qag l tu)[i]? = some (k, s)) (hg : gu[i]? = some (k', s')) (hc : k' ≠ k) : False := hc (told_at h hf hu hg).1
theorem qec (h : gu = if flex = true then qb5 (qag l tu) else []) (hf : (!flex) = false) (hu : (qag l tu)[i]? = some (k, s)) (hg : gu[i]? = some (k', s')) (hc : (!decide (s' = qaB s)) = true) : False := by
 rw [(told_at h hf hu hg).2] at hc; simp at hc
theorem qb4 (h : gu = if flex = true then qb5 (qag l tu) else []) (hf : (!flex) = false) : gu.length = (qag l tu).length := by
 cases flex
 ·cases hf
 rw [if_pos rfl] at h
 rw [h, qcI]
end
end Go.Proofs.YtgolpmkenmedoaaGreatDoor.ME
namespace Go.Proofs.YtgolpmkenmedoaaGreatDoor.ME
open Go
open Go.RowKit
set_option linter.unusedVariables false
set_option linter.unusedSimpArgs false
set_option maxRecDepth 20000
def qaS (D : DV) : Tree := .mk 0 [] false [.mk 0 (sb (D.f 0).s) false [] [], .mk (IntKind.i64.wrap (D.f 1).n) [] false [] [], textT (D.f 2).A (D.f 2).s] D.u
def qa7 (D : DV) : Tree := .mk 0 [] false [.mk (IntKind.i64.wrap (D.f 0).n) [] false [] [], .mk 0 [] (D.f 1).A.isNone ((List.range (D.f 1).l).map fun i => qaS ((D.f 1).f i)) []] D.u
set_option maxHeartbeats 4000000 in
theorem qbo (v : Int) (D : DV) (b o : Nat) (w : World) (F : Nat → Nat → Prop) (hat : AtF w F b o [.string ((D.f 0).s), .int .i16 ((D.f 1).n), .pointer ((D.f 2).A), .map D.m]) (hok : qaR w F D) : Calls Tryz.prog 147 #[.pointer (some ⟨b, o, none⟩)] w (qdY w F (qaS D)) := by
 refine enter (n := 41) Tryz.func147 rfl Tryz.ntmps147 kz fun a hE => ?_
 have hW : WOk w Nil w [⟨b, o, [.string ((D.f 0).s), .int .i16 ((D.f 1).n), .pointer ((D.f 2).A), .map D.m], false⟩] [] := (WOk.start w Nil).start1 hat rfl rfl
 unfold qaR at hok
 obtain ⟨g1, g2, ⟨g3, g3l⟩, g4, g4l, g4x, _⟩ := hok
 have hE0 := (EnvOk.ptr0 (cs := [.string ((D.f 0).s), .int .i16 ((D.f 1).n), .pointer ((D.f 2).A), .map D.m]) (r := false) hE).pk (env' := [(0, .p 0 0)])
 refine qad [0] kz ?_
 refine qaj (qaK hW hE0 (d := 2) (cs := [.int .i64 0, .slice none 0 0, .bool false, .slice none 0 0, .slice none 0 0]) kz fun b5 a6 w7 hb8 hz9 cu bu bw => ?_)
 refine qae (qab ?_)
 refine qad [0, 1, 2, 3] kz ?_
 refine qaj (qfo (t := 34) (e := 37) (size := 5) (bytes := 88) (d := 4) (j := 3) (.agg #[.int .i64 0, .slice none 0 0, .bool false, .slice none 0 0, .slice none 0 0]) [.int .i64 0, .slice none 0 0, .bool false, .slice none 0 0, .slice none 0 0, .int .i64 0, .slice none 0 0, .bool false, .slice none 0 0, .slice none 0 0, .int .i64 0, .slice none 0 0, .bool false, .slice none 0 0, .slice none 0 0] bu bw fun aa cX cY cw cz cA aQ bx => ?_)
 refine qah [1] [2, 3] [(0, .p 0 0), (2, .p 1 0), (5, .v (.agg #[.int .i64 0, .slice none 0 0, .bool false, .slice (some ⟨aa, 0, none⟩) 3 3, .slice none 0 0]))] aQ bx fun cZ bz => ?_
 refine qaj (qaK aQ bz (d := 3) (cs := [.int .i64 0, .slice none 0 0, .bool false, .slice none 0 0, .slice none 0 0]) kz fun al c5 c6 cB cC cD bA bB => ?_)
 refine qaj (qaw bA bB (oi := 3) (cs := [.int .i64 0, .slice none 0 0, .bool false, .slice (some ⟨aa, 0, none⟩) 3 3, .slice none 0 0]) kz fun da cE bC bD => ?_)
 refine qae (qab ?_)
 refine qaG 9 kz bC fun db cG bE bF => ?_
 refine qaE [0, 1, 2, 3, 4, 5] [(0, .p 0 0), (2, .p 1 0), (3, .p 3 0), (7, .v (.slice (some ⟨aa, 0, none⟩) 3 3)), (11, .v (.string ((D.f 0).s)))] 4 (qaa qaf) (fun _ h => h.cells) bF bD fun dc bG => ?_
 refine qay (i := 6) kz (qfp (d := 12) (src := 9) (dst := 22) (e := 5) (s := ((D.f 0).s)) bE bG (by omega) fun ah ai de df bH aR bI bJ => ?_)
 have bK := bI F
 have aM := TT.ofW bH aR
 refine ⟨fun _ => aM, ?_⟩
 refine qaE [7] [(0, .p 0 0), (2, .p 1 0), (3, .p 3 0), (7, .v (.slice (some ⟨aa, 0, none⟩) 3 3)), (13, .v (.agg #[.int .i64 0, .slice (some ⟨ah, 0, none⟩) ((sb ((D.f 0).s)).length) ai, .bool false, .slice none 0 0, .slice none 0 0]))] 2 (qaa qaf) (fun _ h => h.cells) aM bJ fun dg bL => ?_
 refine qaO bL (i := 8) (t := 34) (A := (some ⟨aa, 0, none⟩)) (m := 3) (q := 0) (d := 14) kz (e := 37) (size := 5) (bytes := 88) (j := 0) kz (b := aa) (o := 0) rfl rfl (by decide) kz kz (qaa qaf) aM fun dh bM => ?_
 have bN := bM.recast 14 (.v (.pointer (some ⟨aa, 0 + 0 * 5, none⟩))) (.p 2 0) rfl rfl (Nat.le_of_ble_eq_true (n := 3) rfl)
 have bO := bN.pk (env' := [(0, .p 0 0), (2, .p 1 0), (3, .p 3 0), (7, .v (.slice (some ⟨aa, 0, none⟩) 3 3)), (13, .v (.agg #[.int .i64 0, .slice (some ⟨ah, 0, none⟩) ((sb ((D.f 0).s)).length) ai, .bool false, .slice none 0 0, .slice none 0 0])), (14, .p 2 0)])
 refine qay (i := 9) kz (qaw aR bO (oi := 2) (cs := [.int .i64 0, .slice (some ⟨ah, 0, none⟩) ((sb ((D.f 0).s)).length) ai, .bool false, .slice none 0 0, .slice none 0 0, .int .i64 0, .slice none 0 0, .bool false, .slice none 0 0, .slice none 0 0, .int .i64 0, .slice none 0 0, .bool false, .slice none 0 0, .slice none 0 0]) kz fun di aS bP bQ => ?_)
 refine ⟨fun h => absurd rfl h, ?_⟩
 refine qaC kz ?_ _
 refine qab ?_
 refine qaG 9 kz bP fun dj aT bR aU => ?_
 refine qaE [0, 1, 2, 3, 4, 5, 6, 7] [(0, .p 0 0), (2, .p 1 0), (3, .p 3 0), (16, .v (.slice (some ⟨aa, 0, none⟩) 3 3)), (22, .v (.agg #[.int .i64 (IntKind.i64.wrap ((D.f 1).n)), .slice none 0 0, .bool false, .slice none 0 0, .slice none 0 0]))] 2 (qaa qaf) (fun _ h => h.cells) aU bQ fun dl bS => ?_
 refine qaO bS (i := 8) (t := 34) (A := (some ⟨aa, 0, none⟩)) (m := 3) (q := 1) (d := 23) kz (e := 37) (size := 5) (bytes := 88) (j := 1) kz (b := aa) (o := 0) rfl rfl (by decide) kz kz (qaa qaf) aU fun dp bT => ?_
 have bU := bT.recast 23 (.v (.pointer (some ⟨aa, 0 + 1 * 5, none⟩))) (.p 2 5) rfl rfl (Nat.le_of_ble_eq_true (n := 3) rfl)
 have bV := bU.pk (env' := [(0, .p 0 0), (2, .p 1 0), (3, .p 3 0), (16, .v (.slice (some ⟨aa, 0, none⟩) 3 3)), (22, .v (.agg #[.int .i64 (IntKind.i64.wrap ((D.f 1).n)), .slice none 0 0, .bool false, .slice none 0 0, .slice none 0 0])), (23, .p 2 5)])
 refine qay (i := 9) kz (qaw bR bV (oi := 2) (cs := [.int .i64 0, .slice (some ⟨ah, 0, none⟩) ((sb ((D.f 0).s)).length) ai, .bool false, .slice none 0 0, .slice none 0 0, .int .i64 (IntKind.i64.wrap ((D.f 1).n)), .slice none 0 0, .bool false, .slice none 0 0, .slice none 0 0, .int .i64 0, .slice none 0 0, .bool false, .slice none 0 0, .slice none 0 0]) kz fun dq aV bW bX => ?_)
 refine ⟨fun h => absurd rfl h, ?_⟩
 refine qaC kz ?_ _
 refine qab ?_
 refine qaG 8 kz bW fun cH aW aB bY => ?_
 refine qaE [0, 1, 2, 3, 4, 5] [(0, .p 0 0), (2, .p 1 0), (3, .p 3 0), (25, .v (.slice (some ⟨aa, 0, none⟩) 3 3)), (29, .v (.pointer ((D.f 2).A)))] 3 (qaa qaf) (fun _ h => h.cells) bY bX fun dr bZ => ?_
 refine qay (i := 6) kz (qai bZ (f := 139) (vs := [.pointer ((D.f 2).A)]) (d := 30) kz Tryz.call139 (tText _ (D.f 2).s _ (Imm F w cH [⟨b, o, [.string ((D.f 0).s), .int .i16 ((D.f 1).n), .pointer ((D.f 2).A), .map D.m], false⟩, ⟨b5, 0, [.int .i64 0, .slice none 0 0, .bool false, .slice none 0 0, .slice none 0 0], true⟩, ⟨aa, 0, [.int .i64 0, .slice (some ⟨ah, 0, none⟩) ((sb ((D.f 0).s)).length) ai, .bool false, .slice none 0 0, .slice none 0 0, .int .i64 (IntKind.i64.wrap ((D.f 1).n)), .slice none 0 0, .bool false, .slice none 0 0, .slice none 0 0, .int .i64 0, .slice none 0 0, .bool false, .slice none 0 0, .slice none 0 0], true⟩, ⟨al, 0, [.int .i64 0, .slice none 0 0, .bool false, .slice (some ⟨aa, 0, none⟩) 3 3, .slice none 0 0], true⟩] []) (fun ad h_ => by obtain ⟨b', o', g1, g2⟩ := g3 ad h_; exact ⟨b', o', g1, g2.move aB.step nilM aB.imm⟩) g3l) ?_)
 rintro e_ dt ⟨cI, rfl, b8, aN⟩
 have aO := b8.move (Step.refl _ Nil) nilM (aB.laid (G := F) aN)
 obtain ⟨am, ao, ap, ar, au, av, aw, ax, ay, az, aA, cJ, cr, aF, cK, cd, cL, cM⟩ := aO.open_
 rw [aF] at aO
 have ce := cK.small
 have cm := cd.small
 rw [aF]
 refine ⟨_, rfl, fun cN aX => ?_⟩
 have aG := aB.next_nil aN
 have aC := aB.frN aN
 have aH := TT.ofW aC aG
 refine ⟨fun _ => aH, ?_⟩
 refine qaO aX (i := 7) (t := 34) (A := (some ⟨aa, 0, none⟩)) (m := 3) (q := 2) (d := 31) kz (e := 37) (size := 5) (bytes := 88) (j := 2) kz (b := aa) (o := 0) rfl rfl (by decide) kz kz (qaa qaf) aH fun cO aY => ?_
 have aZ := aY.recast 31 (.v (.pointer (some ⟨aa, 0 + 2 * 5, none⟩))) (.p 2 10) rfl rfl (Nat.le_of_ble_eq_true (n := 3) rfl)
 have ba := aZ.pk (env' := [(0, .p 0 0), (2, .p 1 0), (3, .p 3 0), (25, .v (.slice (some ⟨aa, 0, none⟩) 3 3)), (29, .v (.pointer ((D.f 2).A))), (30, .v (.agg #[.int .i64 am, .slice av ao.length aw, .bool ap, .slice ax ar.length ay, .slice az au.length aA])), (31, .p 2 10)])
 refine qay (i := 8) kz (qaw aG ba (oi := 2) (cs := [.int .i64 0, .slice (some ⟨ah, 0, none⟩) ((sb ((D.f 0).s)).length) ai, .bool false, .slice none 0 0, .slice none 0 0, .int .i64 (IntKind.i64.wrap ((D.f 1).n)), .slice none 0 0, .bool false, .slice none 0 0, .slice none 0 0, .int .i64 am, .slice av ao.length aw, .bool ap, .slice ax ar.length ay, .slice az au.length aA]) kz fun cq aj ae bd => ?_)
 refine ⟨fun h => absurd rfl h, ?_⟩
 refine qaC kz ?_ _
 refine qab ?_
 refine qad [0, 1, 2, 3, 4] kz ?_
 refine qah [0, 1, 2] [3, 4] [(2, .p 1 0), (3, .p 3 0), (34, .p 0 3)] ae bd fun cP bf => ?_
 refine qaj (qfy bf (v := .func (.func 200) #[] #[.pointer (some ⟨al, 0, none⟩)]) (d := 35) kz fun cQ bg => ?_)
 refine qaj (qai bg (f := 122) (vs := [.pointer (some ⟨b, o + 3, none⟩), .func (.func 200) #[] #[.pointer (some ⟨al, 0, none⟩)]]) (d := 36) kz Tryz.call122 (qgs (F := (Imm F w cq [⟨b, o, [.string ((D.f 0).s), .int .i16 ((D.f 1).n), .pointer ((D.f 2).A), .map D.m], false⟩, ⟨b5, 0, [.int .i64 0, .slice none 0 0, .bool false, .slice none 0 0, .slice none 0 0], true⟩, ⟨aa, 0, [.int .i64 0, .slice (some ⟨ah, 0, none⟩) ((sb ((D.f 0).s)).length) ai, .bool false, .slice none 0 0, .slice none 0 0, .int .i64 (IntKind.i64.wrap ((D.f 1).n)), .slice none 0 0, .bool false, .slice none 0 0, .slice none 0 0, .int .i64 am, .slice av ao.length aw, .bool ap, .slice ax ar.length ay, .slice az au.length aA], true⟩, ⟨al, 0, [.int .i64 0, .slice none 0 0, .bool false, .slice (some ⟨aa, 0, none⟩) 3 3, .slice none 0 0], true⟩] [])) Tryz.call200 qch ((hat.one 3 rfl).move ae.step nilM ae.imm) (g4.move ae.step nilM ae.imm) (Str.of ae 3 rfl) (imm_n 3 rfl) g4l) ?_)
 rintro e_ cR ⟨rfl, ab, ac, aP, bh, bi⟩
 obtain ⟨aD, ak, bj⟩ := ae.wrote 3 [⟨b, o, [.string ((D.f 0).s), .int .i16 ((D.f 1).n), .pointer ((D.f 2).A), .map D.m], false⟩, ⟨b5, 0, [.int .i64 0, .slice none 0 0, .bool false, .slice none 0 0, .slice none 0 0], true⟩, ⟨aa, 0, [.int .i64 0, .slice (some ⟨ah, 0, none⟩) ((sb ((D.f 0).s)).length) ai, .bool false, .slice none 0 0, .slice none 0 0, .int .i64 (IntKind.i64.wrap ((D.f 1).n)), .slice none 0 0, .bool false, .slice none 0 0, .slice none 0 0, .int .i64 am, .slice av ao.length aw, .bool ap, .slice ax ar.length ay, .slice az au.length aA], true⟩, ⟨al, 0, [.int .i64 0, .slice none 0 0, .bool false, .slice (some ⟨aa, 0, none⟩) 3 3, .slice ab D.u.length ac], true⟩] rfl bi aP
 have aI := bh.move (Step.refl _ Nil) nilM (fun b_ o_ h_ hb_ => bj (G := F) b_ o_ (.inr h_) hb_)
 refine ⟨_, rfl, fun cS bk => ?_⟩
 have bn := (EnvOk.places (tb' := [⟨b, o, [.string ((D.f 0).s), .int .i16 ((D.f 1).n), .pointer ((D.f 2).A), .map D.m], false⟩, ⟨b5, 0, [.int .i64 0, .slice none 0 0, .bool false, .slice none 0 0, .slice none 0 0], true⟩, ⟨aa, 0, [.int .i64 0, .slice (some ⟨ah, 0, none⟩) ((sb ((D.f 0).s)).length) ai, .bool false, .slice none 0 0, .slice none 0 0, .int .i64 (IntKind.i64.wrap ((D.f 1).n)), .slice none 0 0, .bool false, .slice none 0 0, .slice none 0 0, .int .i64 am, .slice av ao.length aw, .bool ap, .slice ax ar.length ay, .slice az au.length aA], true⟩, ⟨al, 0, [.int .i64 0, .slice none 0 0, .bool false, .slice (some ⟨aa, 0, none⟩) 3 3, .slice ab D.u.length ac], true⟩]) bk (show Pl [⟨b, o, [.string ((D.f 0).s), .int .i16 ((D.f 1).n), .pointer ((D.f 2).A), .map D.m], false⟩, ⟨b5, 0, [.int .i64 0, .slice none 0 0, .bool false, .slice none 0 0, .slice none 0 0], true⟩, ⟨aa, 0, [.int .i64 0, .slice (some ⟨ah, 0, none⟩) ((sb ((D.f 0).s)).length) ai, .bool false, .slice none 0 0, .slice none 0 0, .int .i64 (IntKind.i64.wrap ((D.f 1).n)), .slice none 0 0, .bool false, .slice none 0 0, .slice none 0 0, .int .i64 am, .slice av ao.length aw, .bool ap, .slice ax ar.length ay, .slice az au.length aA], true⟩, ⟨al, 0, [.int .i64 0, .slice none 0 0, .bool false, .slice (some ⟨aa, 0, none⟩) 3 3, .slice none 0 0], true⟩] [⟨b, o, [.string ((D.f 0).s), .int .i16 ((D.f 1).n), .pointer ((D.f 2).A), .map D.m], false⟩, ⟨b5, 0, [.int .i64 0, .slice none 0 0, .bool false, .slice none 0 0, .slice none 0 0], true⟩, ⟨aa, 0, [.int .i64 0, .slice (some ⟨ah, 0, none⟩) ((sb ((D.f 0).s)).length) ai, .bool false, .slice none 0 0, .slice none 0 0, .int .i64 (IntKind.i64.wrap ((D.f 1).n)), .slice none 0 0, .bool false, .slice none 0 0, .slice none 0 0, .int .i64 am, .slice av ao.length aw, .bool ap, .slice ax ar.length ay, .slice az au.length aA], true⟩, ⟨al, 0, [.int .i64 0, .slice none 0 0, .bool false, .slice (some ⟨aa, 0, none⟩) 3 3, .slice ab D.u.length ac], true⟩] from ⟨rfl, rfl, ⟨rfl, rfl, ⟨rfl, rfl, ⟨rfl, rfl, trivial⟩⟩⟩⟩)).pk (env' := [(36, .v (.tuple #[])), (2, .p 1 0), (3, .p 3 0), (34, .p 0 3), (35, .v (.func (.func 200) #[] #[.pointer (some ⟨al, 0, none⟩)]))])
 refine qae (qab ?_)
 refine qad [0, 1, 2] kz ?_
 refine qah [0, 1] [2] [(2, .p 1 0), (3, .p 3 0), (38, .v (.slice ab D.u.length ac))] aD bn fun cT bo => ?_
 refine qaj (qai bo (f := 124) (vs := [.slice ab D.u.length ac]) (d := 39) kz Tryz.call124 (tSorted aI g4.sorted) ?_)
 rintro e_ cU ⟨rfl, aJ⟩
 refine ⟨_, rfl, fun cV bp => ?_⟩
 have aK := aD.next_nil aJ
 have af := aD.frN aJ
 refine qae (qab ?_)
 refine qad [0, 1] kz ?_
 refine qah [0] [1] [(2, .p 1 0), (40, .v (.agg #[.int .i64 0, .slice none 0 0, .bool false, .slice (some ⟨aa, 0, none⟩) 3 3, .slice ab D.u.length ac]))] aK bp fun cW bq => ?_
 refine qaj (qaw aK bq (oi := 1) (cs := [.int .i64 0, .slice none 0 0, .bool false, .slice (some ⟨aa, 0, none⟩) 3 3, .slice ab D.u.length ac]) kz fun aE ag aL bt => ?_)
 refine qae (qab ?_)
 refine wp_ret ?_
 refine qaD bt aL.cells (v := .agg #[.int .i64 0, .slice none 0 0, .bool false, .slice (some ⟨aa, 0, none⟩) 3 3, .slice ab D.u.length ac]) kz ?_
 exact tell_end (u := D.u) (l := [.mk 0 (sb (D.f 0).s) false [] [], .mk (IntKind.i64.wrap (D.f 1).n) [] false [] [], textT (D.f 2).A (D.f 2).s]) (css := [[.int .i64 0, .slice (some ⟨ah, 0, none⟩) ((sb ((D.f 0).s)).length) ai, .bool false, .slice none 0 0, .slice none 0 0], [.int .i64 (IntKind.i64.wrap ((D.f 1).n)), .slice none 0 0, .bool false, .slice none 0 0, .slice none 0 0], [.int .i64 am, .slice av ao.length aw, .bool ap, .slice ax ar.length ay, .slice az au.length aA]]) aL 2 rfl ⟨(show TreeR _ (Imm F w aE [⟨b, o, [.string ((D.f 0).s), .int .i16 ((D.f 1).n), .pointer ((D.f 2).A), .map D.m], false⟩, ⟨b5, 0, [.int .i64 0, .slice none 0 0, .bool false, .slice (some ⟨aa, 0, none⟩) 3 3, .slice ab D.u.length ac], true⟩, ⟨aa, 0, [.int .i64 0, .slice (some ⟨ah, 0, none⟩) ((sb ((D.f 0).s)).length) ai, .bool false, .slice none 0 0, .slice none 0 0, .int .i64 (IntKind.i64.wrap ((D.f 1).n)), .slice none 0 0, .bool false, .slice none 0 0, .slice none 0 0, .int .i64 am, .slice av ao.length aw, .bool ap, .slice ax ar.length ay, .slice az au.length aA], true⟩, ⟨al, 0, [.int .i64 0, .slice none 0 0, .bool false, .slice (some ⟨aa, 0, none⟩) 3 3, .slice ab D.u.length ac], true⟩] []) _ _ from (TreeR.mk (n := 0) (b := false) (s := (sb ((D.f 0).s))) (l := []) (u := []) (fun _ => []) (bK.move ((((((((aS.trans aT).trans aV).trans aW).trans aC).trans aj).trans ak).trans af).trans ag).step immM ((((((((aS.trans aT).trans aV).trans aW).trans aC).trans aj).trans ak).trans af).trans ag).to') (Slots.nil _ _ _ _) (fun i_ x_ h_ => by simp at h_) (TagsR.nil _ _))).move (Step.refl _ Nil) nilM qbR, (show TreeR _ (Imm F w aE [⟨b, o, [.string ((D.f 0).s), .int .i16 ((D.f 1).n), .pointer ((D.f 2).A), .map D.m], false⟩, ⟨b5, 0, [.int .i64 0, .slice none 0 0, .bool false, .slice (some ⟨aa, 0, none⟩) 3 3, .slice ab D.u.length ac], true⟩, ⟨aa, 0, [.int .i64 0, .slice (some ⟨ah, 0, none⟩) ((sb ((D.f 0).s)).length) ai, .bool false, .slice none 0 0, .slice none 0 0, .int .i64 (IntKind.i64.wrap ((D.f 1).n)), .slice none 0 0, .bool false, .slice none 0 0, .slice none 0 0, .int .i64 am, .slice av ao.length aw, .bool ap, .slice ax ar.length ay, .slice az au.length aA], true⟩, ⟨al, 0, [.int .i64 0, .slice none 0 0, .bool false, .slice (some ⟨aa, 0, none⟩) 3 3, .slice ab D.u.length ac], true⟩] []) _ _ from (TreeR.mk (n := IntKind.i64.wrap ((D.f 1).n)) (b := false) (s := []) (l := []) (u := []) (fun _ => []) (Octs.nil _ _) (Slots.nil _ _ _ _) (fun i_ x_ h_ => by simp at h_) (TagsR.nil _ _))).move (Step.refl _ Nil) nilM qbR, (show TreeR _ (Imm F w aE [⟨b, o, [.string ((D.f 0).s), .int .i16 ((D.f 1).n), .pointer ((D.f 2).A), .map D.m], false⟩, ⟨b5, 0, [.int .i64 0, .slice none 0 0, .bool false, .slice (some ⟨aa, 0, none⟩) 3 3, .slice ab D.u.length ac], true⟩, ⟨aa, 0, [.int .i64 0, .slice (some ⟨ah, 0, none⟩) ((sb ((D.f 0).s)).length) ai, .bool false, .slice none 0 0, .slice none 0 0, .int .i64 (IntKind.i64.wrap ((D.f 1).n)), .slice none 0 0, .bool false, .slice none 0 0, .slice none 0 0, .int .i64 am, .slice av ao.length aw, .bool ap, .slice ax ar.length ay, .slice az au.length aA], true⟩, ⟨al, 0, [.int .i64 0, .slice none 0 0, .bool false, .slice (some ⟨aa, 0, none⟩) 3 3, .slice ab D.u.length ac], true⟩] []) _ _ from (aO.move (((aj.trans ak).trans af).trans ag).step immM (((aj.trans ak).trans af).trans ag).to')).move (Step.refl _ Nil) nilM qbR, trivial⟩ ((show TagsR _ (Imm F w aE [⟨b, o, [.string ((D.f 0).s), .int .i16 ((D.f 1).n), .pointer ((D.f 2).A), .map D.m], false⟩, ⟨b5, 0, [.int .i64 0, .slice none 0 0, .bool false, .slice (some ⟨aa, 0, none⟩) 3 3, .slice ab D.u.length ac], true⟩, ⟨aa, 0, [.int .i64 0, .slice (some ⟨ah, 0, none⟩) ((sb ((D.f 0).s)).length) ai, .bool false, .slice none 0 0, .slice none 0 0, .int .i64 (IntKind.i64.wrap ((D.f 1).n)), .slice none 0 0, .bool false, .slice none 0 0, .slice none 0 0, .int .i64 am, .slice av ao.length aw, .bool ap, .slice ax ar.length ay, .slice az au.length aA], true⟩, ⟨al, 0, [.int .i64 0, .slice none 0 0, .bool false, .slice (some ⟨aa, 0, none⟩) 3 3, .slice ab D.u.length ac], true⟩] []) _ _ _ from (aI.move (af.trans ag).step immM (af.trans ag).to')).move (Step.refl _ Nil) nilM qbR)
set_option maxHeartbeats 4000000 in
theorem qc5 (v : Int) (D : DV) (b o : Nat) (w : World) (F : Nat → Nat → Prop) (hat : AtF w F b o [.int .i16 v, .int .i32 ((D.f 0).n), .slice ((D.f 1).A) ((D.f 1).l) ((D.f 1).c), .map D.m]) (hok : qba w F D) : Calls Tryz.prog 87 #[.pointer (some ⟨b, o, none⟩)] w (qdY w F (qa7 D)) := by
 refine enter (n := 81) Tryz.func87 rfl Tryz.ntmps87 kz fun a hE => ?_
 have hW : WOk w Nil w [⟨b, o, [.int .i16 v, .int .i32 ((D.f 0).n), .slice ((D.f 1).A) ((D.f 1).l) ((D.f 1).c), .map D.m], false⟩] [] := (WOk.start w Nil).start1 hat rfl rfl
 unfold qba at hok
 obtain ⟨g1, ⟨g2, g2l, g2e⟩, g3, g3l, g3x, _⟩ := hok
 have hE0 := (EnvOk.ptr0 (cs := [.int .i16 v, .int .i32 ((D.f 0).n), .slice ((D.f 1).A) ((D.f 1).l) ((D.f 1).c), .map D.m]) (r := false) hE).pk (env' := [(0, .p 0 0)])
 refine qad [0] kz ?_
 refine qaj (qaK hW hE0 (d := 2) (cs := [.int .i64 0, .slice none 0 0, .bool false, .slice none 0 0, .slice none 0 0]) kz fun b4 a5 w6 hb7 hz8 hF9 fz fA => ?_)
 refine qae (qab ?_)
 refine qad [0, 1, 2, 3] kz ?_
 refine qaj (qfo (t := 34) (e := 37) (size := 5) (bytes := 88) (d := 5) (j := 2) (.agg #[.int .i64 0, .slice none 0 0, .bool false, .slice none 0 0, .slice none 0 0]) [.int .i64 0, .slice none 0 0, .bool false, .slice none 0 0, .slice none 0 0, .int .i64 0, .slice none 0 0, .bool false, .slice none 0 0, .slice none 0 0] fz fA fun aa ji jj gJ gK gL dq fB => ?_)
 refine qah [1] [2, 3] [(0, .p 0 0), (2, .p 1 0), (6, .v (.agg #[.int .i64 0, .slice none 0 0, .bool false, .slice (some ⟨aa, 0, none⟩) 2 2, .slice none 0 0]))] dq fB fun jk fC => ?_
 refine qaj (qaK dq fC (d := 3) (cs := [.int .i64 0, .slice none 0 0, .bool false, .slice none 0 0, .slice none 0 0]) kz fun bw jl jm gM gN gO fD fE => ?_)
 refine qaj (qaw fD fE (oi := 3) (cs := [.int .i64 0, .slice none 0 0, .bool false, .slice (some ⟨aa, 0, none⟩) 2 2, .slice none 0 0]) kz fun jn gP fF fG => ?_)
 refine qae (qab ?_)
 refine qaG 9 kz fF fun jo gQ fH dr => ?_
 refine qaE [0, 1, 2, 3, 4, 5, 6, 7] [(0, .p 0 0), (2, .p 1 0), (3, .p 3 0), (8, .v (.slice (some ⟨aa, 0, none⟩) 2 2)), (14, .v (.agg #[.int .i64 (IntKind.i64.wrap ((D.f 0).n)), .slice none 0 0, .bool false, .slice none 0 0, .slice none 0 0]))] 2 (qaa qaf) (fun _ h => h.cells) dr fG fun jp fI => ?_
 refine qaO fI (i := 8) (t := 34) (A := (some ⟨aa, 0, none⟩)) (m := 2) (q := 0) (d := 15) kz (e := 37) (size := 5) (bytes := 88) (j := 0) kz (b := aa) (o := 0) rfl rfl (by decide) kz kz (qaa qaf) dr fun jq fJ => ?_
 have fK := fJ.recast 15 (.v (.pointer (some ⟨aa, 0 + 0 * 5, none⟩))) (.p 2 0) rfl rfl (Nat.le_of_ble_eq_true (n := 3) rfl)
 have fL := fK.pk (env' := [(0, .p 0 0), (2, .p 1 0), (3, .p 3 0), (8, .v (.slice (some ⟨aa, 0, none⟩) 2 2)), (14, .v (.agg #[.int .i64 (IntKind.i64.wrap ((D.f 0).n)), .slice none 0 0, .bool false, .slice none 0 0, .slice none 0 0])), (15, .p 2 0)])
 refine qay (i := 9) kz (qaw fH fL (oi := 2) (cs := [.int .i64 (IntKind.i64.wrap ((D.f 0).n)), .slice none 0 0, .bool false, .slice none 0 0, .slice none 0 0, .int .i64 0, .slice none 0 0, .bool false, .slice none 0 0, .slice none 0 0]) kz fun jr gR fM fN => ?_)
 refine ⟨fun h => absurd rfl h, ?_⟩
 refine qaC kz ?_ _
 refine qab ?_
 refine qaG 9 kz fM fun js gS fO db => ?_
 refine qaE [0, 1, 2, 3, 4, 5, 6] [(0, .p 0 0), (2, .p 1 0), (3, .p 3 0), (17, .v (.slice (some ⟨aa, 0, none⟩) 2 2)), (22, .v (.bool (((D.f 1).A).isNone)))] 3 (qaa qaf) (fun _ h => h.cells) db fN fun jt fP => ?_
 refine qay (i := 7) kz (qaA fP (t := 34) (A := (some ⟨aa, 0, none⟩)) (m := 2) (q := 1) (d := 23) kz (e := 37) (size := 5) (bytes := 88) (j := 1) kz (b := aa) (o := 0) rfl rfl (by decide) fun ju fQ => ?_)
 have fR := fQ.recast 23 (.v (.pointer (some ⟨aa, 0 + 1 * 5, none⟩))) (.p 2 5) rfl rfl (Nat.le_of_ble_eq_true (n := 3) rfl)
 have fS := fR.pk (env' := [(0, .p 0 0), (2, .p 1 0), (3, .p 3 0), (17, .v (.slice (some ⟨aa, 0, none⟩) 2 2)), (22, .v (.bool (((D.f 1).A).isNone))), (23, .p 2 5)])
 refine ⟨fun _ => db, ?_⟩
 refine qaE [8] [(0, .p 0 0), (2, .p 1 0), (3, .p 3 0), (22, .v (.bool (((D.f 1).A).isNone))), (24, .p 2 7)] 1 (qaa qaf) (fun _ h => h.cells) db fS fun jv fT => ?_
 refine qay (i := 9) kz (qaw fO fT (oi := 2) (cs := [.int .i64 (IntKind.i64.wrap ((D.f 0).n)), .slice none 0 0, .bool false, .slice none 0 0, .slice none 0 0, .int .i64 0, .slice none 0 0, .bool (((D.f 1).A).isNone), .slice none 0 0, .slice none 0 0]) kz fun jw gT dc fU => ?_)
 refine ⟨fun h => absurd rfl h, ?_⟩
 refine qaC kz ?_ _
 refine qab ?_
 refine wp_seq ?_
 refine qan [(0, .p 0 0), (2, .p 1 0), (3, .p 3 0), (29, .v (.int .i64 (((D.f 1).l : Nat) : Int))), (30, .v (.int .i64 0))] dc fU fun jx fV => ?_
 refine wp_block ?_
 have dt := dc.addNil 37 5
 have gU := dc.frNil 37 5
 refine wp_loop_ghost (fun n_ a_ w_ => ∃ (k1_ : Nat) (A1_ : Option Addr) (c1_ : Nat) (xs1_ : List Value) (css1_ : List (List Value)), n_ = (D.f 1).l - k1_ ∧ k1_ ≤ (D.f 1).l ∧ (Trees w_ (Imm F w w_ [⟨b, o, [.int .i16 v, .int .i32 ((D.f 0).n), .slice ((D.f 1).A) ((D.f 1).l) ((D.f 1).c), .map D.m], false⟩, ⟨b4, 0, [.int .i64 0, .slice none 0 0, .bool false, .slice none 0 0, .slice none 0 0], true⟩, ⟨aa, 0, [.int .i64 (IntKind.i64.wrap ((D.f 0).n)), .slice none 0 0, .bool false, .slice none 0 0, .slice none 0 0, .int .i64 0, .slice none 0 0, .bool (((D.f 1).A).isNone), .slice A1_ k1_ c1_, .slice none 0 0], true⟩, ⟨bw, 0, [.int .i64 0, .slice none 0 0, .bool false, .slice (some ⟨aa, 0, none⟩) 2 2, .slice none 0 0], true⟩] [⟨A1_, c1_, 37, 5, k1_, xs1_⟩]) xs1_ (((List.range (D.f 1).l).map (fun i => qaS ((D.f 1).f i))).take k1_) css1_) ∧ LInv dt 81 [⟨b, o, [.int .i16 v, .int .i32 ((D.f 0).n), .slice ((D.f 1).A) ((D.f 1).l) ((D.f 1).c), .map D.m], false⟩, ⟨b4, 0, [.int .i64 0, .slice none 0 0, .bool false, .slice none 0 0, .slice none 0 0], true⟩, ⟨aa, 0, [.int .i64 (IntKind.i64.wrap ((D.f 0).n)), .slice none 0 0, .bool false, .slice none 0 0, .slice none 0 0, .int .i64 0, .slice none 0 0, .bool (((D.f 1).A).isNone), .slice A1_ k1_ c1_, .slice none 0 0], true⟩, ⟨bw, 0, [.int .i64 0, .slice none 0 0, .bool false, .slice (some ⟨aa, 0, none⟩) 2 2, .slice none 0 0], true⟩] [⟨A1_, c1_, 37, 5, k1_, xs1_⟩] [(0, .p 0 0), (2, .p 1 0), (3, .p 3 0), (29, .v (.int .i64 (((D.f 1).l : Nat) : Int))), (30, .v (.int .i64 ((k1_ : Nat) : Int)))] a_ w_) ((D.f 1).l) ⟨0, none, 0, [], [], by omega, by omega, Trees.nil _ _, fV.pk, dt, Fr.refl _ _ _⟩ ?_
 rintro jy jz gV ⟨k1_, A1_, c1_, xs1_, css1_, gW, gX, hT1_, fW, aA, de⟩
 refine qan [(0, .p 0 0), (2, .p 1 0), (3, .p 3 0), (29, .v (.int .i64 (((D.f 1).l : Nat) : Int))), (30, .v (.int .i64 ((k1_ : Nat) : Int))), (31, .v (.bool (decide (((k1_ : Nat) : Int) < (((D.f 1).l : Nat) : Int)))))] aA fW fun jA df => ?_
 refine wp_seq ?_
 refine qat df (b := decide (((k1_ : Nat) : Int) < (((D.f 1).l : Nat) : Int))) kz (fun dg => ?_) (fun dg => ?_)
 ·
  have gY := of_decide_eq_true dg
  refine wp_skip ?_
  refine qab ?_
  refine wp_seq ?_
  refine wp_block ?_
  refine qan [(0, .p 0 0), (2, .p 1 0), (3, .p 3 0), (4, .v (.int .i64 ((k1_ : Nat) : Int))), (29, .v (.int .i64 (((D.f 1).l : Nat) : Int))), (30, .v (.int .i64 ((k1_ : Nat) : Int)))] aA df fun jB fX => ?_
  refine qaG 4 kz aA fun jC aD fY gZ => ?_
  refine qay (i := 0) kz (qaK fY fX (d := 33) (cs := [.bool false]) kz fun jD jE jF g6 g7 ab dh du => ?_)
  have fZ := TT.ofW ab dh
  refine ⟨fun _ => fZ, ?_⟩
  refine qfS (i := 1) (j := 2) kz ?_ ?_
  ·
   refine (qaw dh du (oi := 4) (cs := [.bool true]) kz fun jG bH dv f5 => ?_)
   have dw := TT.ofW (ab.trans bH) dv
   refine ⟨fun _ => dw, ?_⟩
   refine qay (i := 2) kz (qaw dv f5 (oi := 4) (cs := [.bool false]) kz fun g8 ba bx dx => ?_)
   have dy := TT.ofW ((ab.trans bH).trans ba) bx
   refine ⟨fun _ => dy, ?_⟩
   refine qay (i := 3) kz (qbb [0, 2, 3, 4, 29, 30, 34] bx.cells dx (env' := [(0, .p 0 0), (2, .p 1 0), (3, .p 3 0), (4, .v (.int .i64 ((k1_ : Nat) : Int))), (29, .v (.int .i64 (((D.f 1).l : Nat) : Int))), (30, .v (.int .i64 ((k1_ : Nat) : Int))), (34, .v (.bool false))]) kz fun g9 cE => ?_)
   have dz := TT.ofW ((ab.trans bH).trans ba) bx
   refine ⟨fun _ => dz, ?_⟩
   refine qaC kz ?_ _
   refine qab ?_
   refine qap cE (b := false) kz rfl ?_
   refine qcO 18 kz bx fun hC bV ao bz => ?_
   refine qaE [0, 1, 2, 3, 7, 8, 9, 10, 11] [(0, .p 0 0), (2, .p 1 0), (3, .p 3 0), (29, .v (.int .i64 (((D.f 1).l : Nat) : Int))), (30, .v (.int .i64 ((k1_ : Nat) : Int))), (54, .v (.slice (some ⟨aa, 0, none⟩) 2 2)), (56, .v (.slice (some ⟨aa, 0, none⟩) 2 2)), (63, .v (.slice ((D.f 1).A) ((D.f 1).l) ((D.f 1).c))), (64, .v (.int .i64 ((k1_ : Nat) : Int)))] 10 (qac (qaa (qaa (qac (qaa qaf))))) (fun _ h => h.cells) bz cE fun hJ dA => ?_
   refine qaO dA (i := 4) (t := 34) (A := (some ⟨aa, 0, none⟩)) (m := 2) (q := 1) (d := 57) kz (e := 37) (size := 5) (bytes := 88) (j := 1) kz (b := aa) (o := 0) rfl rfl (by decide) kz kz (qac (qaa (qaa (qac (qaa qaf))))) bz fun hK dB => ?_
   have dC := dB.recast 57 (.v (.pointer (some ⟨aa, 0 + 1 * 5, none⟩))) (.p 2 5) rfl rfl (Nat.le_of_ble_eq_true (n := 3) rfl)
   have dD := dC.pk (env' := [(0, .p 0 0), (2, .p 1 0), (3, .p 3 0), (29, .v (.int .i64 (((D.f 1).l : Nat) : Int))), (30, .v (.int .i64 ((k1_ : Nat) : Int))), (54, .v (.slice (some ⟨aa, 0, none⟩) 2 2)), (56, .v (.slice (some ⟨aa, 0, none⟩) 2 2)), (63, .v (.slice ((D.f 1).A) ((D.f 1).l) ((D.f 1).c))), (64, .v (.int .i64 ((k1_ : Nat) : Int))), (57, .p 2 5)])
   refine qaE [5, 6] [(0, .p 0 0), (2, .p 1 0), (3, .p 3 0), (29, .v (.int .i64 (((D.f 1).l : Nat) : Int))), (30, .v (.int .i64 ((k1_ : Nat) : Int))), (54, .v (.slice (some ⟨aa, 0, none⟩) 2 2)), (59, .v (.slice A1_ k1_ c1_)), (63, .v (.slice ((D.f 1).A) ((D.f 1).l) ((D.f 1).c))), (64, .v (.int .i64 ((k1_ : Nat) : Int)))] 7 (qac (qaa (qaa (qac (qaa qaf))))) (fun _ h => h.cells) bz dD fun hZ dE => ?_
   obtain ⟨dF, dG, dH, gn, di⟩ := Slots.get g2 (i := k1_) (by omega)
   refine qaO dE (i := 12) (t := 144) (A := (D.f 1).A) (m := ((D.f 1).l)) (q := ((k1_ : Nat) : Int)) (d := 65) kz (e := 150) (size := 4) (bytes := 40) kz dH rfl (by omega) kz kz (qac (qaa (qaa (qac (qaa qaf))))) bz fun ia dI => ?_
   refine qay (i := 13) kz (qai dI (f := 147) (vs := [.pointer (some ⟨dF, dG + k1_ * 4, none⟩)]) (d := 66) kz Tryz.call147 (qbo 0 ((D.f 1).f k1_) _ _ _ _ (di.move ao.step nilM ao.imm) (qaV _ ao.step nilM ao.imm (g2e k1_ (by omega)))) ?_)
   rintro e_ ib ⟨gp, rfl, dJ, bW⟩
   have bX := dJ.move (Step.refl _ Nil) nilM (ao.laid (G := F) bW)
   obtain ⟨bI, bJ, bK, bL, bM, bN, bO, bP, bQ, bR, bS, gq, gt, bY, f8, f9, ic, ig⟩ := bX.open_
   rw [bY] at bX
   have ga := f8.small
   have gb := f9.small
   rw [bY]
   refine ⟨_, rfl, fun ii dK => ?_⟩
   have cG := ao.next_nil bW
   have ap := ao.frN bW
   have dL := TT.ofW ap cG
   refine ⟨fun _ => dL, ?_⟩
   refine qay (i := 14) kz (qbA cG dK (e := 37) (size := 5) (len := 1) (cs := [.int .i64 bI, .slice bN bJ.length bO, .bool bK, .slice bP bL.length bQ, .slice bR bM.length bS]) (d := 67) kz kz fun dM ij ik gv gw ae bA dN => ?_)
   have dO := TT.ofW (ap.trans ae) bA
   refine ⟨fun _ => dO, ?_⟩
   refine qay (i := 15) kz (qaQ bA dN (k := 0) (d := 68) (t := 34) (e := 37) (size := 5) (bytes := 88) (A := A1_) (As := (some ⟨dM, 0, none⟩)) (m0 := k1_) (c := c1_) (m := 1) (cs := 1) (xs := xs1_) (news := [.int .i64 bI, .slice bN bJ.length bO, .bool bK, .slice bP bL.length bQ, .slice bR bM.length bS]) kz kz rfl (qbz (bA.own 1 _ rfl) (qbF kz)) (qbI (bA.own 1 _ rfl)) (by omega) fun bT bU il im ar bZ dP => ?_)
   have dQ := TT.ofW ((ap.trans ae).trans ar) bZ
   refine ⟨fun _ => dQ, ?_⟩
   refine qay (i := 16) kz (qaA dP (t := 34) (A := (some ⟨aa, 0, none⟩)) (m := 2) (q := 1) (d := 69) kz (e := 37) (size := 5) (bytes := 88) (j := 1) kz (b := aa) (o := 0) rfl rfl (by decide) fun io dR => ?_)
   have dS := dR.recast 69 (.v (.pointer (some ⟨aa, 0 + 1 * 5, none⟩))) (.p 2 5) rfl rfl (Nat.le_of_ble_eq_true (n := 3) rfl)
   have dT := dS.pk (env' := [(0, .p 0 0), (2, .p 1 0), (3, .p 3 0), (29, .v (.int .i64 (((D.f 1).l : Nat) : Int))), (30, .v (.int .i64 ((k1_ : Nat) : Int))), (54, .v (.slice (some ⟨aa, 0, none⟩) 2 2)), (59, .v (.slice A1_ k1_ c1_)), (63, .v (.slice ((D.f 1).A) ((D.f 1).l) ((D.f 1).c))), (64, .v (.int .i64 ((k1_ : Nat) : Int))), (65, .v (.pointer (some ⟨dF, dG + k1_ * 4, none⟩))), (66, .v (.agg #[.int .i64 bI, .slice bN bJ.length bO, .bool bK, .slice bP bL.length bQ, .slice bR bM.length bS])), (67, .v (.slice (some ⟨dM, 0, none⟩) 1 1)), (68, .v (.slice bT (k1_ + 1) bU)), (69, .p 2 5)])
   have cH := TT.ofW ((ap.trans ae).trans ar) bZ
   refine ⟨fun _ => cH, ?_⟩
   refine qaE [17] [(0, .p 0 0), (2, .p 1 0), (3, .p 3 0), (29, .v (.int .i64 (((D.f 1).l : Nat) : Int))), (30, .v (.int .i64 ((k1_ : Nat) : Int))), (68, .v (.slice bT (k1_ + 1) bU)), (70, .p 2 8)] 1 (qac (qaa (qaa (qac (qaa qaf))))) (fun _ h => h.cells) cH dT fun ip dU => ?_
   refine qay (i := 18) kz (qaw bZ dU (oi := 2) (cs := [.int .i64 (IntKind.i64.wrap ((D.f 0).n)), .slice none 0 0, .bool false, .slice none 0 0, .slice none 0 0, .int .i64 0, .slice none 0 0, .bool (((D.f 1).A).isNone), .slice bT (k1_ + 1) bU, .slice none 0 0]) kz fun iq bd cI dV => ?_)
   refine ⟨fun h => absurd rfl h, ?_⟩
   refine qaC kz ?_ _
   refine qaq ?_
   refine qab ?_
   refine qas [0, 1] kz ?_
   refine qah [0, 1] [] [(0, .p 0 0), (2, .p 1 0), (3, .p 3 0), (29, .v (.int .i64 (((D.f 1).l : Nat) : Int))), (30, .v (.int .i64 (IntKind.i64.wrap (((k1_ : Nat) : Int) + 1))))] cI dV fun ir dW => ?_
   refine qae (qab ?_)
   obtain ⟨cJ, dX, bf⟩ := cI.cutB dW 4 [⟨b, o, [.int .i16 v, .int .i32 ((D.f 0).n), .slice ((D.f 1).A) ((D.f 1).l) ((D.f 1).c), .map D.m], false⟩, ⟨b4, 0, [.int .i64 0, .slice none 0 0, .bool false, .slice none 0 0, .slice none 0 0], true⟩, ⟨aa, 0, [.int .i64 (IntKind.i64.wrap ((D.f 0).n)), .slice none 0 0, .bool false, .slice none 0 0, .slice none 0 0, .int .i64 0, .slice none 0 0, .bool (((D.f 1).A).isNone), .slice bT (k1_ + 1) bU, .slice none 0 0], true⟩, ⟨bw, 0, [.int .i64 0, .slice none 0 0, .bool false, .slice (some ⟨aa, 0, none⟩) 2 2, .slice none 0 0], true⟩] [(0, .p 0 0), (2, .p 1 0), (3, .p 3 0), (29, .v (.int .i64 (((D.f 1).l : Nat) : Int))), (30, .v (.int .i64 (IntKind.i64.wrap (((k1_ : Nat) : Int) + 1))))]
   obtain ⟨dY, bg⟩ := dX.cutR 1 [⟨bT, bU, 37, 5, k1_ + 1, xs1_ ++ [.int .i64 bI, .slice bN bJ.length bO, .bool bK, .slice bP bL.length bQ, .slice bR bM.length bS]⟩]
   have dZ : IntKind.i64.wrap (((k1_ : Nat) : Int) + 1) = ((k1_ + 1 : Nat) : Int) := qaJ (by omega)
   rw [dZ] at cJ
   exact ⟨(D.f 1).l - (k1_ + 1), by omega, k1_ + 1, bT, bU, xs1_ ++ [Value.int .i64 bI, .slice bN bJ.length bO, .bool bK, .slice bP bL.length bQ, .slice bR bM.length bS], (css1_ ++ [[Value.int .i64 bI, .slice bN bJ.length bO, .bool bK, .slice bP bL.length bQ, .slice bR bM.length bS]]), rfl, by omega, by rw [qen (by omega)]; exact (hT1_.move ((((((((((aD.trans ab).trans bH).trans ba).trans bV).trans ap).trans ae).trans ar).trans bd).trans bf).trans bg).step immM ((((((((((aD.trans ab).trans bH).trans ba).trans bV).trans ap).trans ae).trans ar).trans bd).trans bf).trans bg).to').snoc (x := (fun i => qaS ((D.f 1).f i)) k1_) (bX.move ((((ae.trans ar).trans bd).trans bf).trans bg).step immM ((((ae.trans ar).trans bd).trans bf).trans bg).to'), cJ.pk, dY, (((((((((((de.trans aD).trans ab).trans bH).trans ba).trans bV).trans ap).trans ae).trans ar).trans bd).trans bf).trans bg)⟩
  refine (qaw dh du (oi := 4) (cs := [.bool false]) kz fun iu ac cK d5 => ?_)
  have d6 := TT.ofW (ab.trans ac) cK
  refine ⟨fun _ => d6, ?_⟩
  refine qay (i := 1) kz (qaw cK d5 (oi := 4) (cs := [.bool true]) kz fun iv af bB d7 => ?_)
  have d8 := TT.ofW ((ab.trans ac).trans af) bB
  refine ⟨fun _ => d8, ?_⟩
  refine qay (i := 3) kz (qbb [0, 2, 3, 4, 29, 30, 34] bB.cells d7 (env' := [(0, .p 0 0), (2, .p 1 0), (3, .p 3 0), (4, .v (.int .i64 ((k1_ : Nat) : Int))), (29, .v (.int .i64 (((D.f 1).l : Nat) : Int))), (30, .v (.int .i64 ((k1_ : Nat) : Int))), (34, .v (.bool true))]) kz fun iw cL => ?_)
  have d9 := TT.ofW ((ab.trans ac).trans af) bB
  refine ⟨fun _ => d9, ?_⟩
  refine qaC kz ?_ _
  refine qab ?_
  refine qaW cL (b := true) kz rfl ?_
  refine qaG 17 kz bB fun ix aB ag bC => ?_
  refine qaE [0, 1, 5, 6, 7, 8, 9] [(0, .p 0 0), (2, .p 1 0), (3, .p 3 0), (29, .v (.int .i64 (((D.f 1).l : Nat) : Int))), (30, .v (.int .i64 ((k1_ : Nat) : Int))), (36, .v (.slice (some ⟨aa, 0, none⟩) 2 2)), (43, .v (.slice ((D.f 1).A) ((D.f 1).l) ((D.f 1).c))), (44, .v (.int .i64 ((k1_ : Nat) : Int)))] 11 (qaa (qac (qaa (qaa (qac (qaa qaf)))))) (fun _ h => h.cells) bC cL fun iy ea => ?_
  refine qaO ea (i := 2) (t := 34) (A := (some ⟨aa, 0, none⟩)) (m := 2) (q := 1) (d := 37) kz (e := 37) (size := 5) (bytes := 88) (j := 1) kz (b := aa) (o := 0) rfl rfl (by decide) kz kz (qaa (qac (qaa (qaa (qac (qaa qaf)))))) bC fun iz eb => ?_
  have ec := eb.recast 37 (.v (.pointer (some ⟨aa, 0 + 1 * 5, none⟩))) (.p 2 5) rfl rfl (Nat.le_of_ble_eq_true (n := 3) rfl)
  have ee := ec.pk (env' := [(0, .p 0 0), (2, .p 1 0), (3, .p 3 0), (29, .v (.int .i64 (((D.f 1).l : Nat) : Int))), (30, .v (.int .i64 ((k1_ : Nat) : Int))), (36, .v (.slice (some ⟨aa, 0, none⟩) 2 2)), (43, .v (.slice ((D.f 1).A) ((D.f 1).l) ((D.f 1).c))), (44, .v (.int .i64 ((k1_ : Nat) : Int))), (37, .p 2 5)])
  refine qaE [3, 4, 12] [(0, .p 0 0), (2, .p 1 0), (3, .p 3 0), (29, .v (.int .i64 (((D.f 1).l : Nat) : Int))), (30, .v (.int .i64 ((k1_ : Nat) : Int))), (36, .v (.slice (some ⟨aa, 0, none⟩) 2 2)), (39, .v (.slice A1_ k1_ c1_)), (43, .v (.slice ((D.f 1).A) ((D.f 1).l) ((D.f 1).c))), (44, .v (.int .i64 ((k1_ : Nat) : Int))), (47, .v (.int .i64 ((k1_ : Nat) : Int)))] 7 (qaa (qac (qaa (qaa (qac (qaa qaf)))))) (fun _ h => h.cells) bC ee fun iA ef => ?_
  obtain ⟨cC, cD, eg, gx, b8⟩ := Slots.get g2 (i := k1_) (by omega)
  refine qaO ef (i := 10) (t := 144) (A := (D.f 1).A) (m := ((D.f 1).l)) (q := ((k1_ : Nat) : Int)) (d := 45) kz (e := 150) (size := 4) (bytes := 40) kz eg rfl (by omega) kz kz (qaa (qac (qaa (qaa (qac (qaa qaf)))))) bC fun iB cM => ?_
  refine qfS (i := 11) (j := 13) kz ?_ ?_
  ·
   refine (qai cM (f := 147) (vs := [.pointer (some ⟨cC, cD + k1_ * 4, none⟩)]) (d := 46) kz Tryz.call147 (qbo 0 ((D.f 1).f k1_) _ _ _ _ (b8.move ag.step nilM ag.imm) (qaV _ ag.step nilM ag.imm (g2e k1_ (by omega)))) ?_)
   rintro e_ iC ⟨gy, rfl, eh, cd⟩
   have ce := eh.move (Step.refl _ Nil) nilM (ag.laid (G := F) cd)
   obtain ⟨aE, aF, aG, aH, aI, aJ, aK, aL, aM, aN, aO, gz, gA, cm, gc, gd, iD, iE⟩ := ce.open_
   rw [cm] at ce
   have ge := gc.small
   have gg := gd.small
   rw [cm]
   refine ⟨_, rfl, fun iF ei => ?_⟩
   have cN := ag.next_nil cd
   have au := ag.frN cd
   have ej := TT.ofW au cN
   refine ⟨fun _ => ej, ?_⟩
   refine qay (i := 13) kz (qbA cN ei (e := 37) (size := 5) (len := 1) (cs := [.int .i64 0, .slice none 0 0, .bool false, .slice none 0 0, .slice none 0 0]) (d := 48) kz kz fun dj iG iH gB gC ah bD ek => ?_)
   have em := TT.ofW (au.trans ah) bD
   refine ⟨fun _ => em, ?_⟩
   refine qay (i := 14) kz (qaQ bD ek (k := 0) (d := 49) (t := 34) (e := 37) (size := 5) (bytes := 88) (A := A1_) (As := (some ⟨dj, 0, none⟩)) (m0 := k1_) (c := c1_) (m := 1) (cs := 1) (xs := xs1_) (news := [.int .i64 0, .slice none 0 0, .bool false, .slice none 0 0, .slice none 0 0]) kz kz rfl (qbz (bD.own 1 _ rfl) (qbF kz)) (qbI (bD.own 1 _ rfl)) (by omega) fun aj av iI iJ aw cq eo => ?_)
   have ep := TT.ofW ((au.trans ah).trans aw) cq
   refine ⟨fun _ => ep, ?_⟩
   refine qay (i := 15) kz (qaA eo (t := 34) (A := (some ⟨aa, 0, none⟩)) (m := 2) (q := 1) (d := 50) kz (e := 37) (size := 5) (bytes := 88) (j := 1) kz (b := aa) (o := 0) rfl rfl (by decide) fun iK eu => ?_)
   have ev := eu.recast 50 (.v (.pointer (some ⟨aa, 0 + 1 * 5, none⟩))) (.p 2 5) rfl rfl (Nat.le_of_ble_eq_true (n := 3) rfl)
   have ew := ev.pk (env' := [(0, .p 0 0), (2, .p 1 0), (3, .p 3 0), (29, .v (.int .i64 (((D.f 1).l : Nat) : Int))), (30, .v (.int .i64 ((k1_ : Nat) : Int))), (36, .v (.slice (some ⟨aa, 0, none⟩) 2 2)), (39, .v (.slice A1_ k1_ c1_)), (43, .v (.slice ((D.f 1).A) ((D.f 1).l) ((D.f 1).c))), (44, .v (.int .i64 ((k1_ : Nat) : Int))), (47, .v (.int .i64 ((k1_ : Nat) : Int))), (45, .v (.pointer (some ⟨cC, cD + k1_ * 4, none⟩))), (46, .v (.agg #[.int .i64 aE, .slice aJ aF.length aK, .bool aG, .slice aL aH.length aM, .slice aN aI.length aO])), (48, .v (.slice (some ⟨dj, 0, none⟩) 1 1)), (49, .v (.slice aj (k1_ + 1) av)), (50, .p 2 5)])
   have cO := TT.ofW ((au.trans ah).trans aw) cq
   refine ⟨fun _ => cO, ?_⟩
   refine qaE [16] [(0, .p 0 0), (2, .p 1 0), (3, .p 3 0), (29, .v (.int .i64 (((D.f 1).l : Nat) : Int))), (30, .v (.int .i64 ((k1_ : Nat) : Int))), (46, .v (.agg #[.int .i64 aE, .slice aJ aF.length aK, .bool aG, .slice aL aH.length aM, .slice aN aI.length aO])), (47, .v (.int .i64 ((k1_ : Nat) : Int))), (49, .v (.slice aj (k1_ + 1) av)), (51, .p 2 8)] 1 (qaa (qac (qaa (qaa (qac (qaa qaf)))))) (fun _ h => h.cells) cO ew fun iL ey => ?_
   refine qay (i := 17) kz (qaw cq ey (oi := 2) (cs := [.int .i64 (IntKind.i64.wrap ((D.f 0).n)), .slice none 0 0, .bool false, .slice none 0 0, .slice none 0 0, .int .i64 0, .slice none 0 0, .bool (((D.f 1).A).isNone), .slice aj (k1_ + 1) av, .slice none 0 0]) kz fun gh bh cP ez => ?_)
   refine ⟨fun h => absurd rfl h, ?_⟩
   refine qaC kz ?_ _
   refine qab ?_
   refine qas [0, 1] kz ?_
   have eB : World.ownsRow gh 0 37 5 (.slice aj (k1_ + 1) av) (k1_ + 1) (xs1_ ++ [.int .i64 0, .slice none 0 0, .bool false, .slice none 0 0, .slice none 0 0]) := cP.own 0 _ rfl
   obtain ⟨eC, cQ⟩ := qbY eB (by omega)
   refine qaj (qaA ez (t := 34) (A := aj) (m := (k1_ + 1)) (q := ((k1_ : Nat) : Int)) (d := 52) kz (e := 37) (size := 5) (bytes := 88) kz (b := eC) (o := 0) (j := k1_) cQ (rfl) (by omega) fun iM eD => ?_)
   refine qaj (qb8 cP eD (k := 0) (g := eC) (o := k1_ * 5) (c := av) (m := (k1_ + 1)) (size := 5) (e := 37) (A := aj) (xs := (xs1_ ++ [.int .i64 0, .slice none 0 0, .bool false, .slice none 0 0, .slice none 0 0])) (vs := [.int .i64 aE, .slice aJ aF.length aK, .bool aG, .slice aL aH.length aM, .slice aN aI.length aO]) kz rfl cQ (by simp only [List.length_cons, List.length_nil]; omega) fun iN bi eE eF => ?_)
   have eG : (⟨aj, av, 37, 5, k1_ + 1, qbc (xs1_ ++ [.int .i64 0, .slice none 0 0, .bool false, .slice none 0 0, .slice none 0 0]) (k1_ * 5) [.int .i64 aE, .slice aJ aF.length aK, .bool aG, .slice aL aH.length aM, .slice aN aI.length aO]⟩ : Rw) = ⟨aj, av, 37, 5, k1_ + 1, xs1_ ++ [.int .i64 aE, .slice aJ aF.length aK, .bool aG, .slice aL aH.length aM, .slice aN aI.length aO]⟩ := by rw [qe3 (by rw [hT1_.xslen, List.length_take, qd7]; omega)]
   obtain ⟨cR, bj⟩ := eE.rowEq 0 [⟨aj, av, 37, 5, k1_ + 1, xs1_ ++ [.int .i64 aE, .slice aJ aF.length aK, .bool aG, .slice aL aH.length aM, .slice aN aI.length aO]⟩, ⟨some ⟨dj, 0, none⟩, 1, 37, 5, 1, [.int .i64 0, .slice none 0 0, .bool false, .slice none 0 0, .slice none 0 0]⟩] eG
   refine qae ?_
   refine qaq ?_
   refine qab ?_
   refine qas [0, 1] kz ?_
   refine qah [0, 1] [] [(0, .p 0 0), (2, .p 1 0), (3, .p 3 0), (29, .v (.int .i64 (((D.f 1).l : Nat) : Int))), (30, .v (.int .i64 (IntKind.i64.wrap (((k1_ : Nat) : Int) + 1))))] cR eF fun iO eH => ?_
   refine qae (qab ?_)
   obtain ⟨cS, eI, bk⟩ := cR.cutB eH 4 [⟨b, o, [.int .i16 v, .int .i32 ((D.f 0).n), .slice ((D.f 1).A) ((D.f 1).l) ((D.f 1).c), .map D.m], false⟩, ⟨b4, 0, [.int .i64 0, .slice none 0 0, .bool false, .slice none 0 0, .slice none 0 0], true⟩, ⟨aa, 0, [.int .i64 (IntKind.i64.wrap ((D.f 0).n)), .slice none 0 0, .bool false, .slice none 0 0, .slice none 0 0, .int .i64 0, .slice none 0 0, .bool (((D.f 1).A).isNone), .slice aj (k1_ + 1) av, .slice none 0 0], true⟩, ⟨bw, 0, [.int .i64 0, .slice none 0 0, .bool false, .slice (some ⟨aa, 0, none⟩) 2 2, .slice none 0 0], true⟩] [(0, .p 0 0), (2, .p 1 0), (3, .p 3 0), (29, .v (.int .i64 (((D.f 1).l : Nat) : Int))), (30, .v (.int .i64 (IntKind.i64.wrap (((k1_ : Nat) : Int) + 1))))]
   obtain ⟨eJ, bn⟩ := eI.cutR 1 [⟨aj, av, 37, 5, k1_ + 1, xs1_ ++ [.int .i64 aE, .slice aJ aF.length aK, .bool aG, .slice aL aH.length aM, .slice aN aI.length aO]⟩]
   have eK : IntKind.i64.wrap (((k1_ : Nat) : Int) + 1) = ((k1_ + 1 : Nat) : Int) := qaJ (by omega)
   rw [eK] at cS
   exact ⟨(D.f 1).l - (k1_ + 1), by omega, k1_ + 1, aj, av, xs1_ ++ [Value.int .i64 aE, .slice aJ aF.length aK, .bool aG, .slice aL aH.length aM, .slice aN aI.length aO], (css1_ ++ [[Value.int .i64 aE, .slice aJ aF.length aK, .bool aG, .slice aL aH.length aM, .slice aN aI.length aO]]), rfl, by omega, by rw [qen (by omega)]; exact (hT1_.move ((((((((((((aD.trans ab).trans ac).trans af).trans aB).trans au).trans ah).trans aw).trans bh).trans bi).trans bj).trans bk).trans bn).step immM ((((((((((((aD.trans ab).trans ac).trans af).trans aB).trans au).trans ah).trans aw).trans bh).trans bi).trans bj).trans bk).trans bn).to').snoc (x := (fun i => qaS ((D.f 1).f i)) k1_) (ce.move ((((((ah.trans aw).trans bh).trans bi).trans bj).trans bk).trans bn).step immM ((((((ah.trans aw).trans bh).trans bi).trans bj).trans bk).trans bn).to'), cS.pk, eJ, (((((((((((((de.trans aD).trans ab).trans ac).trans af).trans aB).trans au).trans ah).trans aw).trans bh).trans bi).trans bj).trans bk).trans bn)⟩
  refine (qbA ag cM (e := 37) (size := 5) (len := 1) (cs := [.int .i64 0, .slice none 0 0, .bool false, .slice none 0 0, .slice none 0 0]) (d := 48) kz kz fun dl iP iQ gD gE ax ai eL => ?_)
  have eM := TT.ofW ax ai
  refine ⟨fun _ => eM, ?_⟩
  refine qay (i := 11) kz (qai eL (f := 147) (vs := [.pointer (some ⟨cC, cD + k1_ * 4, none⟩)]) (d := 46) kz Tryz.call147 (qbo 0 ((D.f 1).f k1_) _ _ _ _ (b8.move ai.step nilM ai.imm) (qaV _ ai.step nilM ai.imm (g2e k1_ (by omega)))) ?_)
  rintro e_ iR ⟨gF, rfl, eN, cr⟩
  have cu := eN.move (Step.refl _ Nil) nilM (ai.laid (G := F) cr)
  obtain ⟨aP, aQ, aR, aS, aT, aU, aV, aW, aX, aY, aZ, gG, gH, cw, gi, gj, iS, iT⟩ := cu.open_
  rw [cw] at cu
  have gk := gi.small
  have gl := gj.small
  rw [cw]
  refine ⟨_, rfl, fun iU eO => ?_⟩
  have bE := ai.next_nil cr
  have aC := ai.frN cr
  have eP := TT.ofW (ax.trans aC) bE
  refine ⟨fun _ => eP, ?_⟩
  refine qay (i := 14) kz (qaQ bE eO (k := 0) (d := 49) (t := 34) (e := 37) (size := 5) (bytes := 88) (A := A1_) (As := (some ⟨dl, 0, none⟩)) (m0 := k1_) (c := c1_) (m := 1) (cs := 1) (xs := xs1_) (news := [.int .i64 0, .slice none 0 0, .bool false, .slice none 0 0, .slice none 0 0]) kz kz rfl (qbz (bE.own 1 _ rfl) (qbF kz)) (qbI (bE.own 1 _ rfl)) (by omega) fun ak ay iV iW az cz eQ => ?_)
  have eR := TT.ofW ((ax.trans aC).trans az) cz
  refine ⟨fun _ => eR, ?_⟩
  refine qay (i := 15) kz (qaA eQ (t := 34) (A := (some ⟨aa, 0, none⟩)) (m := 2) (q := 1) (d := 50) kz (e := 37) (size := 5) (bytes := 88) (j := 1) kz (b := aa) (o := 0) rfl rfl (by decide) fun iX eS => ?_)
  have eU := eS.recast 50 (.v (.pointer (some ⟨aa, 0 + 1 * 5, none⟩))) (.p 2 5) rfl rfl (Nat.le_of_ble_eq_true (n := 3) rfl)
  have eV := eU.pk (env' := [(0, .p 0 0), (2, .p 1 0), (3, .p 3 0), (29, .v (.int .i64 (((D.f 1).l : Nat) : Int))), (30, .v (.int .i64 ((k1_ : Nat) : Int))), (36, .v (.slice (some ⟨aa, 0, none⟩) 2 2)), (39, .v (.slice A1_ k1_ c1_)), (43, .v (.slice ((D.f 1).A) ((D.f 1).l) ((D.f 1).c))), (44, .v (.int .i64 ((k1_ : Nat) : Int))), (47, .v (.int .i64 ((k1_ : Nat) : Int))), (45, .v (.pointer (some ⟨cC, cD + k1_ * 4, none⟩))), (48, .v (.slice (some ⟨dl, 0, none⟩) 1 1)), (46, .v (.agg #[.int .i64 aP, .slice aU aQ.length aV, .bool aR, .slice aW aS.length aX, .slice aY aT.length aZ])), (49, .v (.slice ak (k1_ + 1) ay)), (50, .p 2 5)])
  have cT := TT.ofW ((ax.trans aC).trans az) cz
  refine ⟨fun _ => cT, ?_⟩
  refine qaE [16] [(0, .p 0 0), (2, .p 1 0), (3, .p 3 0), (29, .v (.int .i64 (((D.f 1).l : Nat) : Int))), (30, .v (.int .i64 ((k1_ : Nat) : Int))), (46, .v (.agg #[.int .i64 aP, .slice aU aQ.length aV, .bool aR, .slice aW aS.length aX, .slice aY aT.length aZ])), (47, .v (.int .i64 ((k1_ : Nat) : Int))), (49, .v (.slice ak (k1_ + 1) ay)), (51, .p 2 8)] 1 (qaa (qac (qaa (qaa (qac (qaa qaf)))))) (fun _ h => h.cells) cT eV fun iY eW => ?_
  refine qay (i := 17) kz (qaw cz eW (oi := 2) (cs := [.int .i64 (IntKind.i64.wrap ((D.f 0).n)), .slice none 0 0, .bool false, .slice none 0 0, .slice none 0 0, .int .i64 0, .slice none 0 0, .bool (((D.f 1).A).isNone), .slice ak (k1_ + 1) ay, .slice none 0 0]) kz fun gm bo cU eX => ?_)
  refine ⟨fun h => absurd rfl h, ?_⟩
  refine qaC kz ?_ _
  refine qab ?_
  refine qas [0, 1] kz ?_
  have eY : World.ownsRow gm 0 37 5 (.slice ak (k1_ + 1) ay) (k1_ + 1) (xs1_ ++ [.int .i64 0, .slice none 0 0, .bool false, .slice none 0 0, .slice none 0 0]) := cU.own 0 _ rfl
  obtain ⟨eZ, cV⟩ := qbY eY (by omega)
  refine qaj (qaA eX (t := 34) (A := ak) (m := (k1_ + 1)) (q := ((k1_ : Nat) : Int)) (d := 52) kz (e := 37) (size := 5) (bytes := 88) kz (b := eZ) (o := 0) (j := k1_) cV (rfl) (by omega) fun iZ e9 => ?_)
  refine qaj (qb8 cU e9 (k := 0) (g := eZ) (o := k1_ * 5) (c := ay) (m := (k1_ + 1)) (size := 5) (e := 37) (A := ak) (xs := (xs1_ ++ [.int .i64 0, .slice none 0 0, .bool false, .slice none 0 0, .slice none 0 0])) (vs := [.int .i64 aP, .slice aU aQ.length aV, .bool aR, .slice aW aS.length aX, .slice aY aT.length aZ]) kz rfl cV (by simp only [List.length_cons, List.length_nil]; omega) fun i6 bp fa fb => ?_)
  have fe : (⟨ak, ay, 37, 5, k1_ + 1, qbc (xs1_ ++ [.int .i64 0, .slice none 0 0, .bool false, .slice none 0 0, .slice none 0 0]) (k1_ * 5) [.int .i64 aP, .slice aU aQ.length aV, .bool aR, .slice aW aS.length aX, .slice aY aT.length aZ]⟩ : Rw) = ⟨ak, ay, 37, 5, k1_ + 1, xs1_ ++ [.int .i64 aP, .slice aU aQ.length aV, .bool aR, .slice aW aS.length aX, .slice aY aT.length aZ]⟩ := by rw [qe3 (by rw [hT1_.xslen, List.length_take, qd7]; omega)]
  obtain ⟨cW, bq⟩ := fa.rowEq 0 [⟨ak, ay, 37, 5, k1_ + 1, xs1_ ++ [.int .i64 aP, .slice aU aQ.length aV, .bool aR, .slice aW aS.length aX, .slice aY aT.length aZ]⟩, ⟨some ⟨dl, 0, none⟩, 1, 37, 5, 1, [.int .i64 0, .slice none 0 0, .bool false, .slice none 0 0, .slice none 0 0]⟩] fe
  refine qae ?_
  refine qaq ?_
  refine qab ?_
  refine qas [0, 1] kz ?_
  refine qah [0, 1] [] [(0, .p 0 0), (2, .p 1 0), (3, .p 3 0), (29, .v (.int .i64 (((D.f 1).l : Nat) : Int))), (30, .v (.int .i64 (IntKind.i64.wrap (((k1_ : Nat) : Int) + 1))))] cW fb fun i7 ff => ?_
  refine qae (qab ?_)
  obtain ⟨cX, fg, bt⟩ := cW.cutB ff 4 [⟨b, o, [.int .i16 v, .int .i32 ((D.f 0).n), .slice ((D.f 1).A) ((D.f 1).l) ((D.f 1).c), .map D.m], false⟩, ⟨b4, 0, [.int .i64 0, .slice none 0 0, .bool false, .slice none 0 0, .slice none 0 0], true⟩, ⟨aa, 0, [.int .i64 (IntKind.i64.wrap ((D.f 0).n)), .slice none 0 0, .bool false, .slice none 0 0, .slice none 0 0, .int .i64 0, .slice none 0 0, .bool (((D.f 1).A).isNone), .slice ak (k1_ + 1) ay, .slice none 0 0], true⟩, ⟨bw, 0, [.int .i64 0, .slice none 0 0, .bool false, .slice (some ⟨aa, 0, none⟩) 2 2, .slice none 0 0], true⟩] [(0, .p 0 0), (2, .p 1 0), (3, .p 3 0), (29, .v (.int .i64 (((D.f 1).l : Nat) : Int))), (30, .v (.int .i64 (IntKind.i64.wrap (((k1_ : Nat) : Int) + 1))))]
  obtain ⟨fh, bu⟩ := fg.cutR 1 [⟨ak, ay, 37, 5, k1_ + 1, xs1_ ++ [.int .i64 aP, .slice aU aQ.length aV, .bool aR, .slice aW aS.length aX, .slice aY aT.length aZ]⟩]
  have fi : IntKind.i64.wrap (((k1_ : Nat) : Int) + 1) = ((k1_ + 1 : Nat) : Int) := qaJ (by omega)
  rw [fi] at cX
  exact ⟨(D.f 1).l - (k1_ + 1), by omega, k1_ + 1, ak, ay, xs1_ ++ [Value.int .i64 aP, .slice aU aQ.length aV, .bool aR, .slice aW aS.length aX, .slice aY aT.length aZ], (css1_ ++ [[Value.int .i64 aP, .slice aU aQ.length aV, .bool aR, .slice aW aS.length aX, .slice aY aT.length aZ]]), rfl, by omega, by rw [qen (by omega)]; exact (hT1_.move ((((((((((((aD.trans ab).trans ac).trans af).trans aB).trans ax).trans aC).trans az).trans bo).trans bp).trans bq).trans bt).trans bu).step immM ((((((((((((aD.trans ab).trans ac).trans af).trans aB).trans ax).trans aC).trans az).trans bo).trans bp).trans bq).trans bt).trans bu).to').snoc (x := (fun i => qaS ((D.f 1).f i)) k1_) (cu.move (((((az.trans bo).trans bp).trans bq).trans bt).trans bu).step immM (((((az.trans bo).trans bp).trans bq).trans bt).trans bu).to'), cX.pk, fh, (((((((((((((de.trans aD).trans ab).trans ac).trans af).trans aB).trans ax).trans aC).trans az).trans bo).trans bp).trans bq).trans bt).trans bu)⟩
 have gI := of_decide_eq_false dg
 refine wp_exit ?_
 refine qaz ?_
 refine qaz ?_
 refine qaI ?_
 refine qab ?_
 refine qad [0, 1, 2, 3, 4] kz ?_
 refine qah [0, 1, 2] [3, 4] [(2, .p 1 0), (3, .p 3 0), (74, .p 0 3)] aA df fun ja fj => ?_
 refine qaj (qfy fj (v := .func (.func 148) #[] #[.pointer (some ⟨bw, 0, none⟩)]) (d := 75) kz fun jb fk => ?_)
 refine qaj (qai fk (f := 122) (vs := [.pointer (some ⟨b, o + 3, none⟩), .func (.func 148) #[] #[.pointer (some ⟨bw, 0, none⟩)]]) (d := 76) kz Tryz.call122 (qgs (F := (Imm F w gV [⟨b, o, [.int .i16 v, .int .i32 ((D.f 0).n), .slice ((D.f 1).A) ((D.f 1).l) ((D.f 1).c), .map D.m], false⟩, ⟨b4, 0, [.int .i64 0, .slice none 0 0, .bool false, .slice none 0 0, .slice none 0 0], true⟩, ⟨aa, 0, [.int .i64 (IntKind.i64.wrap ((D.f 0).n)), .slice none 0 0, .bool false, .slice none 0 0, .slice none 0 0, .int .i64 0, .slice none 0 0, .bool (((D.f 1).A).isNone), .slice A1_ k1_ c1_, .slice none 0 0], true⟩, ⟨bw, 0, [.int .i64 0, .slice none 0 0, .bool false, .slice (some ⟨aa, 0, none⟩) 2 2, .slice none 0 0], true⟩] [⟨A1_, c1_, 37, 5, k1_, xs1_⟩])) Tryz.call148 qcU ((hat.one 3 rfl).move aA.step nilM aA.imm) (g3.move aA.step nilM aA.imm) (Str.of aA 3 rfl) (imm_n 3 rfl) g3l) ?_)
 rintro e_ jc ⟨rfl, al, am, dp, fm, fo⟩
 obtain ⟨cA, cY, fq⟩ := aA.wrote 3 [⟨b, o, [.int .i16 v, .int .i32 ((D.f 0).n), .slice ((D.f 1).A) ((D.f 1).l) ((D.f 1).c), .map D.m], false⟩, ⟨b4, 0, [.int .i64 0, .slice none 0 0, .bool false, .slice none 0 0, .slice none 0 0], true⟩, ⟨aa, 0, [.int .i64 (IntKind.i64.wrap ((D.f 0).n)), .slice none 0 0, .bool false, .slice none 0 0, .slice none 0 0, .int .i64 0, .slice none 0 0, .bool (((D.f 1).A).isNone), .slice A1_ k1_ c1_, .slice none 0 0], true⟩, ⟨bw, 0, [.int .i64 0, .slice none 0 0, .bool false, .slice (some ⟨aa, 0, none⟩) 2 2, .slice al D.u.length am], true⟩] rfl fo dp
 have cZ := fm.move (Step.refl _ Nil) nilM (fun b_ o_ h_ hb_ => fq (G := F) b_ o_ (.inr h_) hb_)
 refine ⟨_, rfl, fun jd fr => ?_⟩
 have ft := (EnvOk.places (tb' := [⟨b, o, [.int .i16 v, .int .i32 ((D.f 0).n), .slice ((D.f 1).A) ((D.f 1).l) ((D.f 1).c), .map D.m], false⟩, ⟨b4, 0, [.int .i64 0, .slice none 0 0, .bool false, .slice none 0 0, .slice none 0 0], true⟩, ⟨aa, 0, [.int .i64 (IntKind.i64.wrap ((D.f 0).n)), .slice none 0 0, .bool false, .slice none 0 0, .slice none 0 0, .int .i64 0, .slice none 0 0, .bool (((D.f 1).A).isNone), .slice A1_ k1_ c1_, .slice none 0 0], true⟩, ⟨bw, 0, [.int .i64 0, .slice none 0 0, .bool false, .slice (some ⟨aa, 0, none⟩) 2 2, .slice al D.u.length am], true⟩]) fr (show Pl [⟨b, o, [.int .i16 v, .int .i32 ((D.f 0).n), .slice ((D.f 1).A) ((D.f 1).l) ((D.f 1).c), .map D.m], false⟩, ⟨b4, 0, [.int .i64 0, .slice none 0 0, .bool false, .slice none 0 0, .slice none 0 0], true⟩, ⟨aa, 0, [.int .i64 (IntKind.i64.wrap ((D.f 0).n)), .slice none 0 0, .bool false, .slice none 0 0, .slice none 0 0, .int .i64 0, .slice none 0 0, .bool (((D.f 1).A).isNone), .slice A1_ k1_ c1_, .slice none 0 0], true⟩, ⟨bw, 0, [.int .i64 0, .slice none 0 0, .bool false, .slice (some ⟨aa, 0, none⟩) 2 2, .slice none 0 0], true⟩] [⟨b, o, [.int .i16 v, .int .i32 ((D.f 0).n), .slice ((D.f 1).A) ((D.f 1).l) ((D.f 1).c), .map D.m], false⟩, ⟨b4, 0, [.int .i64 0, .slice none 0 0, .bool false, .slice none 0 0, .slice none 0 0], true⟩, ⟨aa, 0, [.int .i64 (IntKind.i64.wrap ((D.f 0).n)), .slice none 0 0, .bool false, .slice none 0 0, .slice none 0 0, .int .i64 0, .slice none 0 0, .bool (((D.f 1).A).isNone), .slice A1_ k1_ c1_, .slice none 0 0], true⟩, ⟨bw, 0, [.int .i64 0, .slice none 0 0, .bool false, .slice (some ⟨aa, 0, none⟩) 2 2, .slice al D.u.length am], true⟩] from ⟨rfl, rfl, ⟨rfl, rfl, ⟨rfl, rfl, ⟨rfl, rfl, trivial⟩⟩⟩⟩)).pk (env' := [(76, .v (.tuple #[])), (2, .p 1 0), (3, .p 3 0), (74, .p 0 3), (75, .v (.func (.func 148) #[] #[.pointer (some ⟨bw, 0, none⟩)]))])
 refine qae (qab ?_)
 refine qad [0, 1, 2] kz ?_
 refine qah [0, 1] [2] [(2, .p 1 0), (3, .p 3 0), (78, .v (.slice al D.u.length am))] cA ft fun je fu => ?_
 refine qaj (qai fu (f := 124) (vs := [.slice al D.u.length am]) (d := 79) kz Tryz.call124 (tSorted cZ g3.sorted) ?_)
 rintro e_ jf ⟨rfl, c5⟩
 refine ⟨_, rfl, fun jg fv => ?_⟩
 have c6 := cA.next_nil c5
 have bF := cA.frN c5
 refine qae (qab ?_)
 refine qad [0, 1] kz ?_
 refine qah [0] [1] [(2, .p 1 0), (80, .v (.agg #[.int .i64 0, .slice none 0 0, .bool false, .slice (some ⟨aa, 0, none⟩) 2 2, .slice al D.u.length am]))] c6 fv fun jh fw => ?_
 refine qaj (qaw c6 fw (oi := 1) (cs := [.int .i64 0, .slice none 0 0, .bool false, .slice (some ⟨aa, 0, none⟩) 2 2, .slice al D.u.length am]) kz fun fx bG cB fy => ?_)
 refine qae (qab ?_)
 refine wp_ret ?_
 refine qaD fy cB.cells (v := .agg #[.int .i64 0, .slice none 0 0, .bool false, .slice (some ⟨aa, 0, none⟩) 2 2, .slice al D.u.length am]) kz ?_
 have da := (hT1_.move ((cY.trans bF).trans bG).step immM ((cY.trans bF).trans bG).to')
 rw [take_all (by omega)] at da
 exact tell_end (u := D.u) (l := [.mk (IntKind.i64.wrap (D.f 0).n) [] false [] [], .mk 0 [] (D.f 1).A.isNone ((List.range (D.f 1).l).map fun i => qaS ((D.f 1).f i)) []]) (css := [[.int .i64 (IntKind.i64.wrap ((D.f 0).n)), .slice none 0 0, .bool false, .slice none 0 0, .slice none 0 0], [.int .i64 0, .slice none 0 0, .bool (((D.f 1).A).isNone), .slice A1_ k1_ c1_, .slice none 0 0]]) cB 2 rfl ⟨(show TreeR _ (Imm F w fx [⟨b, o, [.int .i16 v, .int .i32 ((D.f 0).n), .slice ((D.f 1).A) ((D.f 1).l) ((D.f 1).c), .map D.m], false⟩, ⟨b4, 0, [.int .i64 0, .slice none 0 0, .bool false, .slice (some ⟨aa, 0, none⟩) 2 2, .slice al D.u.length am], true⟩, ⟨aa, 0, [.int .i64 (IntKind.i64.wrap ((D.f 0).n)), .slice none 0 0, .bool false, .slice none 0 0, .slice none 0 0, .int .i64 0, .slice none 0 0, .bool (((D.f 1).A).isNone), .slice A1_ k1_ c1_, .slice none 0 0], true⟩, ⟨bw, 0, [.int .i64 0, .slice none 0 0, .bool false, .slice (some ⟨aa, 0, none⟩) 2 2, .slice al D.u.length am], true⟩] [⟨A1_, c1_, 37, 5, k1_, xs1_⟩]) _ _ from (TreeR.mk (n := IntKind.i64.wrap ((D.f 0).n)) (b := false) (s := []) (l := []) (u := []) (fun _ => []) (Octs.nil _ _) (Slots.nil _ _ _ _) (fun i_ x_ h_ => by simp at h_) (TagsR.nil _ _))).move (Step.refl _ Nil) nilM qbR, tell_list cB (k := 0) rfl da (by rw [qd7]; omega) (by rw [qd7]; omega), trivial⟩ ((show TagsR _ (Imm F w fx [⟨b, o, [.int .i16 v, .int .i32 ((D.f 0).n), .slice ((D.f 1).A) ((D.f 1).l) ((D.f 1).c), .map D.m], false⟩, ⟨b4, 0, [.int .i64 0, .slice none 0 0, .bool false, .slice (some ⟨aa, 0, none⟩) 2 2, .slice al D.u.length am], true⟩, ⟨aa, 0, [.int .i64 (IntKind.i64.wrap ((D.f 0).n)), .slice none 0 0, .bool false, .slice none 0 0, .slice none 0 0, .int .i64 0, .slice none 0 0, .bool (((D.f 1).A).isNone), .slice A1_ k1_ c1_, .slice none 0 0], true⟩, ⟨bw, 0, [.int .i64 0, .slice none 0 0, .bool false, .slice (some ⟨aa, 0, none⟩) 2 2, .slice al D.u.length am], true⟩] [⟨A1_, c1_, 37, 5, k1_, xs1_⟩]) _ _ _ from (cZ.move (bF.trans bG).step immM (bF.trans bG).to')).move (Step.refl _ Nil) nilM qbR)
end Go.Proofs.YtgolpmkenmedoaaGreatDoor.ME
namespace Go.Proofs.YtgolpmkenmedoaaGreatDoor.ME
open Go
set_option linter.unusedVariables false
set_option linter.unusedSimpArgs false
theorem i64_at {t : Tree} (h : t.i64s) (i : Nat) : (t.at_ i).i64s := by
 cases t with
 | mk n s b l u =>
  have h1 : ∀ x ∈ l, x.i64s := qeU h.2
  show (l.getD i .zero).i64s
  rw [List.getD_eq_getElem?_getD]
  cases hx : l[i]? with
  | none => exact ⟨by decide, trivial⟩
  | some x => exact h1 x (List.mem_of_getElem? hx)
theorem i64_thing {t x : Tree} (h : t.i64s) {i : Nat} (hx : (qal t.L)[i]? = some x) : x.i64s := by
 cases t with
 | mk n s b l u =>
  have h1 : ∀ x ∈ l, x.i64s := qeU h.2
  exact h1 x (List.mem_of_mem_take (List.mem_of_getElem? hx))
theorem qdB {k x1 x2 x3 x5 x6 v : Int} {s : List Fld} {flex : Bool} {x : Tree} : Fld.pres (.mk k x1 x2 x3 (-1) x5 x6 s) v flex x = (decide (x1 ≤ v) && (decide (x2 < 0) || decide (v ≤ x2))) := by simp [Fld.pres, Fld.tag, Fld.has]
section
variable {T : List Fld → Tree → Tree → Prop} {U : List Fld → Tree → Prop} {v k x1 x2 x3 x4 x5 x6 n : Int} {sub : List Fld} {x T' : Tree} {A : Option Addr} {s : ByteArray} {o : Bs} {b : Bool}
theorem to0_num (hn : n = qbi k x.N) (hk : k < 7 := by decide) : ToF0 T v (.mk k x1 x2 (-1) x4 x5 x6 sub) x (.mk n [] false [] []) := by
 cases x
 exact ⟨fun h => by omega, fun _ h => by omega, fun _ h => by omega, fun _ h => by omega, fun _ _ _ _ _ _ => hn⟩
theorem to_num (hn : n = qbi k x.N) (hk : k < 7 := by decide) : ToF T v (.mk k x1 x2 (-1) x4 x5 x6 sub) x (.mk n [] false [] []) := ⟨to0_num hn hk, fun h => absurd (show k = 11 from h) (by omega)⟩
theorem to0_text (hs : o = qaB x.S) : ToF0 T v (.mk 8 x1 x2 (-1) x4 x5 x6 sub) x (.mk 0 o false [] []) := by
 cases x with
 | mk a1 a2 a3 a4 a5 =>
  exact ⟨fun _ => nul_no.symm, fun _ _ => hs, fun _ h => by omega, fun _ h => by omega, fun _ _ h => absurd rfl h⟩
theorem to_text (h : s = bs T'.S) (h1 : T'.S = qaB x.S) : ToF T v (.mk 8 x1 x2 (-1) x4 x5 x6 sub) x (.mk 0 (sb s) false [] []) :=
 ⟨to0_text (by rw [h, sb_bs, h1]), fun h => absurd (show (8 : Int) = 11 from h) (by decide)⟩
theorem to_textN (h : s = bs (qbM T') ∧ A.isNone = T'.null) (h1 : qbM T' = (if Fld.nul (.mk 8 x1 x2 x3 x4 x5 x6 sub) v x = true then [] else qaB x.S) ∧ T'.null = Fld.nul (.mk 8 x1 x2 x3 x4 x5 x6 sub) v x) : ToF T v (.mk 8 x1 x2 x3 x4 x5 x6 sub) x (textT A s) := by
 refine ⟨?_, fun h => absurd (show (8 : Int) = 11 from h) (by decide)⟩
 have e : textT A s = .mk 0 (if Fld.nul (.mk 8 x1 x2 x3 x4 x5 x6 sub) v x = true then [] else qaB x.S) (Fld.nul (.mk 8 x1 x2 x3 x4 x5 x6 sub) v x) [] [] := by
  unfold textT
  rw [h.2, h1.2, h.1, sb_bs, h1.1]
  split <;> rfl
 rw [e]
 cases x with
 | mk a1 a2 a3 a4 a5 =>
  exact ⟨fun _ => rfl, fun hn _ => by rw [if_neg (by rw [hn]; decide)]; rfl, fun _ h => by omega, fun _ h => by omega, fun _ _ h => absurd rfl h⟩
theorem to0_part {g : Tree} (hg : g.null = false) (h : T sub x g) : ToF0 T v (.mk 10 x1 x2 (-1) x4 x5 x6 sub) x g := by
 cases x with
 | mk a1 a2 a3 a4 a5 =>
  cases g with
  | mk g1 g2 g3 g4 g5 =>
   exact ⟨fun _ => by rw [nul_no]; exact hg, fun _ h => by omega, fun _ h => by omega, fun _ _ => h, fun _ _ _ _ h => absurd rfl h⟩
theorem to_list {l : Nat} {g : Nat → Tree} {W : Tree → Tree} (hb : x3 ≥ 0 ∧ v ≥ x3 → b = Fld.nul (.mk 11 x1 x2 x3 x4 x5 x6 sub) v x) (hl : l = (lst T').length) (hlst : lst T' = (if Fld.nul (.mk 11 x1 x2 x3 (-1) x5 x6 sub) v x = true then [] else qal x.L).map W)
  (he : ∀ i y, i < l → (lst T').getD i .zero = W y → (qal x.L)[i]? = some y → ToF0 T v (.mk x6 x1 x2 (-1) (-1) x5 x6 sub) y (g i)) : ToF T v (.mk 11 x1 x2 x3 x4 x5 x6 sub) x (.mk 0 [] b ((List.range l).map g) []) := by
 have hn : Fld.nul (.mk 11 x1 x2 x3 (-1) x5 x6 sub) v x = Fld.nul (.mk 11 x1 x2 x3 x4 x5 x6 sub) v x := by cases x; rfl
 refine ⟨?_, fun _ hnn => ?_⟩
 ·cases x with
  | mk a1 a2 a3 a4 a5 =>
   refine ⟨fun h => hb ?_, fun _ h => by omega, fun _ h => by omega, fun _ h => by omega, fun _ _ _ _ _ h => absurd rfl h⟩
   rcases h with h | h | h
   ·omega
   ·omega
   exact h
 rw [hn, hnn, if_neg (by decide)] at hlst
 have hll : l = (qal x.L).length := by rw [hl, hlst, List.length_map]
 refine ⟨by show ((List.range l).map g).length = _; rw [List.length_map, List.length_range, hll], fun i y z hy hz => ?_⟩
 have hi : i < l := by rw [hll]; exact (List.getElem?_eq_some_iff.1 hy).1
 have hz' : ((List.range l).map g)[i]? = some z := hz
 rw [List.getElem?_map, List.getElem?_range hi] at hz'
 obtain rfl := Option.some.inj hz'
 refine he i y hi ?_ hy
 rw [hlst, List.getD_eq_getElem?_getD, List.getElem?_map, hy]
 rfl
theorem us_text' (h : s = ByteArray.empty) (h3 : decide (x3 ≥ 0) = false := by decide) : UsF U (.mk 8 x1 x2 x3 x4 x5 x6 sub) (.mk 0 (sb s) false [] []) := by
 subst h
 exact ⟨fun _ => ⟨h3.symm, rfl⟩, fun h => by omega, fun h => by omega, fun h => by omega, fun _ h => absurd rfl h⟩
theorem us_textN' (h : s = ByteArray.empty ∧ A = none) (h3 : decide (x3 ≥ 0) = true := by decide) : UsF U (.mk 8 x1 x2 x3 x4 x5 x6 sub) (textT A s) := by
 obtain ⟨rfl, rfl⟩ := h
 exact ⟨fun _ => ⟨h3.symm, rfl⟩, fun h => by omega, fun h => by omega, fun h => by omega, fun _ h => absurd rfl h⟩
end
end Go.Proofs.YtgolpmkenmedoaaGreatDoor.ME
namespace Go.Proofs.YtgolpmkenmedoaaGreatDoor.ME
open Go
open Go.RowKit
set_option linter.unusedVariables false
set_option linter.unusedSimpArgs false
set_option maxRecDepth 20000
theorem qce (v : Int) (h0 : 0 ≤ v) (t Y : Tree) (hY : ∀ i, Y.at_ i = (fitT v 7 [(Fld.mk 8 0 (-1) (-1) (-1) 0 0 []), (Fld.mk 2 0 (-1) (-1) (-1) 0 0 []), (Fld.mk 8 3 (-1) 3 (-1) 0 0 [])] t).at_ i) (hU : Y.U = (fitT v 7 [(Fld.mk 8 0 (-1) (-1) (-1) 0 0 []), (Fld.mk 2 0 (-1) (-1) (-1) 0 0 []), (Fld.mk 8 3 (-1) 3 (-1) 0 0 [])] t).U) (hi : t.i64s) (D : DV) (h : qa1 v D Y) : ToldP v (decide (v ≥ qao)) 7 [(Fld.mk 8 0 (-1) (-1) (-1) 0 0 []), (Fld.mk 2 0 (-1) (-1) (-1) 0 0 []), (Fld.mk 8 3 (-1) 3 (-1) 0 0 [])] t (qaS D) := by
 unfold qa1 at h
 obtain ⟨r0, r1, r2, rU, _⟩ := h
 refine ⟨rfl, fun i f y hf hy => ?_, ?_⟩
 ·match i, hf, hy with
  | 0, hf, hy =>
   obtain rfl := Option.some.inj hf
   obtain rfl := Option.some.inj hy
   have e := hY 0
   refine ⟨fun hp => ?_, fun hp => ?_⟩
   ·have hc : True := trivial
    have r := r0
    rw [e] at r
    exact to_text r (fit_t (v := v) (d := 6) (t := t) (show [(Fld.mk 8 0 (-1) (-1) (-1) 0 0 []), (Fld.mk 2 0 (-1) (-1) (-1) 0 0 []), (Fld.mk 8 3 (-1) 3 (-1) 0 0 [])][0]? = _ from rfl) (by decide))
   rw [qdB] at hp; simp at hp; omega
  | 1, hf, hy =>
   obtain rfl := Option.some.inj hf
   obtain rfl := Option.some.inj hy
   have e := hY 1
   refine ⟨fun hp => ?_, fun hp => ?_⟩
   ·have hc : True := trivial
    have r := r1
    rw [e] at r
    rw [(fit_N (v := v) (d := 6) (t := t) (show [(Fld.mk 8 0 (-1) (-1) (-1) 0 0 []), (Fld.mk 2 0 (-1) (-1) (-1) 0 0 []), (Fld.mk 8 3 (-1) 3 (-1) 0 0 [])][1]? = _ from rfl) (by decide))] at r
    exact to_num (by rw [r, qe4]; rfl)
   rw [qdB] at hp; simp at hp; omega
  | 2, hf, hy =>
   obtain rfl := Option.some.inj hf
   obtain rfl := Option.some.inj hy
   have e := hY 2
   refine ⟨fun hp => ?_, fun hp => ?_⟩
   ·have hc : (decide (v ≥ 3)) = true := by rw [qdB] at hp; simp at hp ⊢; try omega
    have r := (r2.1 hc)
    rw [e] at r
    exact to_textN r (fit_o (v := v) (d := 6) (t := t) (show [(Fld.mk 8 0 (-1) (-1) (-1) 0 0 []), (Fld.mk 2 0 (-1) (-1) (-1) 0 0 []), (Fld.mk 8 3 (-1) 3 (-1) 0 0 [])][2]? = _ from rfl) (by decide))
   have hc : (decide (v ≥ 3)) = false := by rw [qdB] at hp; simp at hp ⊢; try omega
   have r := (r2.2 hc)
   exact us_textN' r
  | n_ + 3, hf, hy => exact absurd (List.getElem?_eq_some_iff.1 hf).1 (by show ¬ n_ + 3 < 3; omega)
 show D.u = if (decide (v ≥ qao)) = true then qb5 (qag [(Fld.mk 8 0 (-1) (-1) (-1) 0 0 []), (Fld.mk 2 0 (-1) (-1) (-1) 0 0 []), (Fld.mk 8 3 (-1) 3 (-1) 0 0 [])] t.U) else []
 by_cases hc : (decide (v ≥ 2)) = true
 ·rw [if_pos (show (decide (v ≥ qao)) = true from hc), rU.1 hc, hU, fit_U]
 rw [if_neg (show ¬ (decide (v ≥ qao)) = true from hc), rU.2 (by simpa using hc)]
theorem qcK (v : Int) (h0 : 0 ≤ v) (t Y : Tree) (hY : ∀ i, Y.at_ i = (fitT v 8 sDeleteGroupsResponseF t).at_ i) (hU : Y.U = (fitT v 8 sDeleteGroupsResponseF t).U) (hi : t.i64s) (D : DV) (h : qa6 v D Y) : ToldP v (decide (v ≥ qao)) 8 sDeleteGroupsResponseF t (qa7 D) := by
 unfold qa6 at h
 obtain ⟨r0, r1, rU, _⟩ := h
 refine ⟨rfl, fun i f y hf hy => ?_, ?_⟩
 ·match i, hf, hy with
  | 0, hf, hy =>
   obtain rfl := Option.some.inj hf
   obtain rfl := Option.some.inj hy
   have e := hY 0
   refine ⟨fun hp => ?_, fun hp => ?_⟩
   ·have hc : True := trivial
    have r := r0
    rw [e] at r
    rw [(fit_N (v := v) (d := 7) (t := t) (show sDeleteGroupsResponseF[0]? = _ from rfl) (by decide))] at r
    exact to_num (by rw [r, qe5]; rfl)
   rw [qdB] at hp; simp at hp; omega
  | 1, hf, hy =>
   obtain rfl := Option.some.inj hf
   obtain rfl := Option.some.inj hy
   have e := hY 1
   refine ⟨fun hp => ?_, fun hp => ?_⟩
   ·have hc : True := trivial
    have r := r1
    rw [e] at r
    obtain ⟨_, fl⟩ := fit_11 (v := v) (d := 7) (t := t) (show sDeleteGroupsResponseF[1]? = _ from rfl)
    refine to_list (fun h_ => absurd h_.1 (by decide)) r.1 fl fun i_ y_ hi_ hg_ hy_ => ?_
    have q := r.2 i_ hi_
    rw [hg_] at q
    exact to0_part rfl (qce v h0 y_ _ (fun i => fit_10.1 i) fit_10.2 (i64_thing (i64_at hi 1) hy_) _ q)
   rw [qdB] at hp; simp at hp; omega
  | n_ + 2, hf, hy => exact absurd (List.getElem?_eq_some_iff.1 hf).1 (by show ¬ n_ + 2 < 2; omega)
 show D.u = if (decide (v ≥ qao)) = true then qb5 (qag sDeleteGroupsResponseF t.U) else []
 by_cases hc : (decide (v ≥ 2)) = true
 ·rw [if_pos (show (decide (v ≥ qao)) = true from hc), rU.1 hc, hU, fit_U]
 rw [if_neg (show ¬ (decide (v ≥ qao)) = true from hc), rU.2 (by simpa using hc)]
set_option maxHeartbeats 4000000 in
theorem qc6 (v : Int) (T : Tree) {A2 : Option Addr} {c2 : Nat} {w : World} {F : Nat → Nat → Prop} (hs_ : Octs w F A2 c2 (qak (IntKind.i16.wrap v) T)) (hc : qa2 T) (hkey : T.ranged) (hroom : (qak (IntKind.i16.wrap v) T).length + 16 ≤ 1099511627776) :
  Calls Tryz.prog 33 #[.int .i64 v, .slice A2 (qak (IntKind.i16.wrap v) T).length c2] w (fun e w' => ∃ D cs, e = .returned (.tuple #[.agg cs.toArray, .bool true]) ∧ TreeR w' (Fp NoF w) cs (qa7 D) ∧ qa6 (IntKind.i16.wrap v) D T ∧ Step w w' Nil) := by
 refine enter (n := 20) Tryz.func33 rfl Tryz.ntmps33 kz fun a hE => ?_
 have hW := WOk.start w Nil
 have hsm2 := Slots.small hs_
 refine qad [0, 1] kz ?_
 refine qaj (qaK hW hE (d := 4) (cs := [.int .i64 0, .slice none 0 0, .bool false, .slice none 0 0, .slice none 0 0]) kz fun b1 a2 w3 hb4 hz5 hF6 hW7 hE8 => ?_)
 refine qah [1] [] [(0, .v (.int .i64 v)), (1, .v (.slice A2 ((qak (IntKind.i16.wrap v) T).length) c2)), (4, .p 0 0)] hW7 hE8 fun a9 aT => ?_
 refine qae (qab ?_)
 refine qad [0, 1] kz ?_
 refine qaj (qbC aT (f := 82) (vs := []) (d := 7) (n' := 3) kz Tryz.call82 Tryz.func82 rfl Tryz.ntmps82 kz fun cI aU => ?_)
 refine qan [] hW7 aU fun cJ aV => ?_
 refine qad [0] kz ?_
 refine qaj (qaK hW7 aV (d := 1) (cs := [.int .i16 0, .int .i32 0, .slice none 0 0, .map none]) kz fun aa cK cL ce cm cq ac aW => ?_)
 refine qae (qab ?_)
 refine qad [0] kz ?_
 refine qaj (qbC aW (f := 145) (vs := [.pointer (some ⟨aa, 0, none⟩)]) (d := 2) (n' := 2) kz Tryz.call145 Tryz.func145 rfl Tryz.ntmps145 kz fun cM aX => ?_)
 have aY := aX.recast 0 (.v (.pointer (some ⟨aa, 0, none⟩))) (.p 1 0) rfl rfl (Nat.le_of_ble_eq_true (n := 2) rfl)
 refine wp_skip ?_
 refine qbG aY ac.cells (v := .tuple #[]) kz ?_
 refine ⟨_, rfl, fun cN aZ => ?_⟩
 have ba : EnvOk 3 [⟨b1, 0, [.int .i64 0, .slice none 0 0, .bool false, .slice none 0 0, .slice none 0 0], true⟩, ⟨aa, 0, [.int .i16 0, .int .i32 0, .slice none 0 0, .map none], true⟩] [(2, .v (.tuple #[])), (1, .p 1 0)] _ := aZ.places (⟨rfl, rfl, ⟨rfl, rfl, trivial⟩⟩)
 refine qae (qab ?_)
 refine qan [(0, .p 1 0)] ac ba fun cO bd => ?_
 refine wp_ret ?_
 refine qaD bd ac.cells (v := .pointer (some ⟨aa, 0, none⟩)) kz ?_
 refine ⟨_, rfl, fun cP bf => ?_⟩
 have bg : EnvOk 20 [⟨b1, 0, [.int .i64 0, .slice none 0 0, .bool false, .slice none 0 0, .slice none 0 0], true⟩, ⟨aa, 0, [.int .i16 0, .int .i32 0, .slice none 0 0, .map none], true⟩] [(7, .v (.pointer (some ⟨aa, 0, none⟩))), (0, .v (.int .i64 v)), (1, .v (.slice A2 ((qak (IntKind.i16.wrap v) T).length) c2)), (4, .p 0 0)] _ := bf.places (⟨rfl, rfl, trivial⟩)
 have bh := bg.recast 7 (.v (.pointer (some ⟨aa, 0, none⟩))) (.p 1 0) rfl rfl (Nat.le_of_ble_eq_true (n := 2) rfl)
 have bi := bh.pick (ks := [0, 1, 4, 7]) (env' := [(0, .v (.int .i64 v)), (1, .v (.slice A2 ((qak (IntKind.i16.wrap v) T).length) c2)), (4, .p 0 0), (7, .p 1 0)]) kz
 refine qah [1] [] [(0, .v (.int .i64 v)), (1, .v (.slice A2 ((qak (IntKind.i16.wrap v) T).length) c2)), (4, .p 0 0), (6, .p 1 0)] ac bi fun cQ bj => ?_
 refine qae (qab ?_)
 refine qad [0, 1, 2, 3] kz ?_
 refine qah [0, 1, 2] [3] [(1, .v (.slice A2 ((qak (IntKind.i16.wrap v) T).length) c2)), (4, .p 0 0), (6, .p 1 0), (8, .p 1 0), (10, .v (.int .i16 (IntKind.i16.wrap v)))] ac bj fun cR bk => ?_
 refine qaj (qbC bk (f := 85) (vs := [.pointer (some ⟨aa, 0, none⟩), .int .i16 (IntKind.i16.wrap v)]) (d := 11) (n' := 8) kz Tryz.call85 Tryz.func85 rfl Tryz.ntmps85 kz fun cS bn => ?_)
 have bo := bn.recast 0 (.v (.pointer (some ⟨aa, 0, none⟩))) (.p 1 0) rfl rfl (Nat.le_of_ble_eq_true (n := 2) rfl)
 refine qas [0, 1, 2, 3, 4] kz ?_
 refine qah [0, 1, 2, 3] [4] [(5, .v (.int .i16 (IntKind.i16.wrap v))), (7, .p 1 0)] ac bo fun cT bp => ?_
 refine qaj (qaw ac bp (oi := 1) (cs := [.int .i16 (IntKind.i16.wrap v), .int .i32 0, .slice none 0 0, .map none]) kz fun cU cr ao bq => ?_)
 refine qae ?_
 refine qbG bq ao.cells (v := .tuple #[]) kz ?_
 refine ⟨_, rfl, fun cV bt => ?_⟩
 have bu : EnvOk 20 [⟨b1, 0, [.int .i64 0, .slice none 0 0, .bool false, .slice none 0 0, .slice none 0 0], true⟩, ⟨aa, 0, [.int .i16 (IntKind.i16.wrap v), .int .i32 0, .slice none 0 0, .map none], true⟩] [(11, .v (.tuple #[])), (1, .v (.slice A2 ((qak (IntKind.i16.wrap v) T).length) c2)), (4, .p 0 0), (6, .p 1 0), (8, .p 1 0), (10, .v (.int .i16 (IntKind.i16.wrap v)))] _ := bt.places (⟨rfl, rfl, ⟨rfl, rfl, trivial⟩⟩)
 refine qae (qab ?_)
 refine wp_seq ?_
 refine qad [0, 1, 2, 3, 4] kz ?_
 refine qah [0, 1] [2, 3, 4] [(4, .p 0 0), (6, .p 1 0), (12, .p 1 0), (13, .v (.slice A2 ((qak (IntKind.i16.wrap v) T).length) c2))] ao bu fun cW bw => ?_
 have ah := ao.addNil 5 1
 have cu := ao.frNil 5 1
 refine qaj (qaQ ah bw (k := 0) (d := 14) (t := 22) (e := 5) (size := 1) (bytes := 1) (A := none) (As := A2) (m0 := 0) (c := 0) (m := ((qak (IntKind.i16.wrap v) T).length)) (cs := c2) (xs := []) (news := bc (qak (IntKind.i16.wrap v) T)) kz kz rfl (hs_.move ah.step nilM ah.imm).src (hs_.move ah.step nilM ah.imm).cap (by first | omega | (simp only [List.length_nil]; omega) | (simp; omega)) fun af ag cX cY cw bx bz => ?_)
 have bA : (⟨af, ag, 5, 1, 0 + (qak (IntKind.i16.wrap v) T).length, [] ++ bc (qak (IntKind.i16.wrap v) T)⟩ : Rw) = brow af ag 5 (qak (IntKind.i16.wrap v) T) := by rw [List.nil_append, Nat.zero_add]
 obtain ⟨ap, cz⟩ := bx.rowEq 0 [brow af ag 5 (qak (IntKind.i16.wrap v) T)] bA
 have bB := EnvOk.pick bz (ks := [4, 6, 12, 13, 14]) (env' := [(4, .p 0 0), (6, .p 1 0), (12, .p 1 0), (13, .v (.slice A2 ((qak (IntKind.i16.wrap v) T).length) c2)), (14, .v (.slice af (0 + (qak (IntKind.i16.wrap v) T).length) ag))]) kz
 have bC := bB.cast (env' := [(4, .p 0 0), (6, .p 1 0), (12, .p 1 0), (13, .v (.slice A2 ((qak (IntKind.i16.wrap v) T).length) c2)), (14, .v (.slice af ((qak (IntKind.i16.wrap v) T).length) ag))]) (by simp only [List.length_append, List.length_cons, List.length_nil, Nat.zero_add])
 refine qaj (qbC bC (f := 86) (vs := [.pointer (some ⟨aa, 0, none⟩), .slice af ((qak (IntKind.i16.wrap v) T).length) ag]) (d := 15) (n' := 8) kz Tryz.call86 Tryz.func86 rfl Tryz.ntmps86 kz fun cZ bD => ?_)
 have bE := bD.recast 0 (.v (.pointer (some ⟨aa, 0, none⟩))) (.p 1 0) rfl rfl (Nat.le_of_ble_eq_true (n := 2) rfl)
 refine qan [(0, .p 1 0), (1, .v (.slice af ((qak (IntKind.i16.wrap v) T).length) ag))] ap bE fun c5 bF => ?_
 refine qad [0, 1, 2, 3] kz ?_
 refine qah [0, 1] [2, 3] [(5, .p 1 0), (6, .v (.slice af ((qak (IntKind.i16.wrap v) T).length) ag))] ap bF fun c6 bG => ?_
 have bH := ap.giveUp (G := NoF) 0 [] (show _ = some (brow af ag 5 (qak (IntKind.i16.wrap v) T)) from rfl) (by omega)
 obtain ⟨aH, cA⟩ := ap.cutR 0 []
 refine qaj (qai bG (f := 146) (vs := [.pointer (some ⟨aa, 0, none⟩), .slice af ((qak (IntKind.i16.wrap v) T).length) ag, .bool false]) (d := 7) kz Tryz.call146 (qc4 (IntKind.i16.wrap v) T (Str.of aH 1 rfl) bH (imm_n 1 rfl) hc hkey) ?_)
 rintro e_ da ⟨ab, rfl, bI, bJ, bK, aI⟩
 obtain ⟨ae, cB, bL⟩ := aH.wrote 1 [⟨b1, 0, [.int .i64 0, .slice none 0 0, .bool false, .slice none 0 0, .slice none 0 0], true⟩, ⟨aa, 0, [.int .i16 (IntKind.i16.wrap v), .int .i32 ((ab.f 0).n), .slice ((ab.f 1).A) ((ab.f 1).l) ((ab.f 1).c), .map ab.m], true⟩] rfl aI bI
 have bM := qb6 _ (Step.refl _ Nil) nilM bL bJ
 refine ⟨_, rfl, fun db bN => ?_⟩
 have bO := (EnvOk.places (tb' := [⟨b1, 0, [.int .i64 0, .slice none 0 0, .bool false, .slice none 0 0, .slice none 0 0], true⟩, ⟨aa, 0, [.int .i16 (IntKind.i16.wrap v), .int .i32 ((ab.f 0).n), .slice ((ab.f 1).A) ((ab.f 1).l) ((ab.f 1).c), .map ab.m], true⟩]) bN (show Pl [⟨b1, 0, [.int .i64 0, .slice none 0 0, .bool false, .slice none 0 0, .slice none 0 0], true⟩, ⟨aa, 0, [.int .i16 (IntKind.i16.wrap v), .int .i32 0, .slice none 0 0, .map none], true⟩] [⟨b1, 0, [.int .i64 0, .slice none 0 0, .bool false, .slice none 0 0, .slice none 0 0], true⟩, ⟨aa, 0, [.int .i16 (IntKind.i16.wrap v), .int .i32 ((ab.f 0).n), .slice ((ab.f 1).A) ((ab.f 1).l) ((ab.f 1).c), .map ab.m], true⟩] from ⟨rfl, rfl, ⟨rfl, rfl, trivial⟩⟩)).pk (env' := [(7, .v (.nilIface)), (5, .p 1 0), (6, .v (.slice af ((qak (IntKind.i16.wrap v) T).length) ag))])
 refine qah [3] [] [(4, .v (.nilIface))] ae bO fun dc bP => ?_
 refine qae (qab ?_)
 refine wp_ret ?_
 refine qaD bP ae.cells (v := .nilIface) kz ?_
 refine ⟨_, rfl, fun de bQ => ?_⟩
 have bR : EnvOk 20 [⟨b1, 0, [.int .i64 0, .slice none 0 0, .bool false, .slice none 0 0, .slice none 0 0], true⟩, ⟨aa, 0, [.int .i16 (IntKind.i16.wrap v), .int .i32 ((ab.f 0).n), .slice ((ab.f 1).A) ((ab.f 1).l) ((ab.f 1).c), .map ab.m], true⟩] [(15, .v (.nilIface)), (4, .p 0 0), (6, .p 1 0), (12, .p 1 0), (13, .v (.slice A2 ((qak (IntKind.i16.wrap v) T).length) c2)), (14, .v (.slice af ((qak (IntKind.i16.wrap v) T).length) ag))] _ := bQ.places (⟨rfl, rfl, ⟨rfl, rfl, trivial⟩⟩)
 refine qah [4] [] [(4, .p 0 0), (6, .p 1 0), (16, .v (.bool false))] ae bR fun df aJ => ?_
 refine qae (qab ?_)
 refine qap aJ (b := false) kz rfl ?_
 refine wp_skip ?_
 refine qab ?_
 refine qad [0, 1, 2, 3] kz ?_
 refine qah [0] [1, 2, 3] [(4, .p 0 0), (18, .p 1 0)] ae aJ fun dg bS => ?_
 have aK := bS.recast 18 (.p 1 0) (.v (.pointer (some ⟨aa, 0, none⟩))) rfl rfl trivial
 have aL := aK.pk (env' := [(4, .p 0 0), (18, .v (.pointer (some ⟨aa, 0, none⟩)))])
 have av := WOk.strOut (G := NoF) [⟨b1, 0, [.int .i64 0, .slice none 0 0, .bool false, .slice none 0 0, .slice none 0 0], true⟩] ae
 obtain ⟨aM, ai, ar⟩ := ae.cutB aL 1 [⟨b1, 0, [.int .i64 0, .slice none 0 0, .bool false, .slice none 0 0, .slice none 0 0], true⟩] [(4, .p 0 0), (18, .v (.pointer (some ⟨aa, 0, none⟩)))]
 have aN := qb6 _ ar.step immM ar.to' bM
 refine qaj (qai aM (f := 87) (vs := [.pointer (some ⟨aa, 0, none⟩)]) (d := 19) kz Tryz.call87 (qc5 (IntKind.i16.wrap v) ab aa 0 _ _ av aN) ?_)
 rintro e_ cC ⟨bY, rfl, aO, aj⟩
 have ak := aO.move (Step.refl _ Nil) nilM (ai.laid (G := NoF) aj)
 obtain ⟨aw, ax, ay, az, aA, aB, aC, aD, aE, aF, aG, bZ, b8, al, bT, bU, cD, cE⟩ := ak.open_
 rw [al] at ak
 have bV := bT.small
 have bW := bU.small
 rw [al]
 refine ⟨_, rfl, fun cG aP => ?_⟩
 have aQ := ai.next_nil aj
 have cd := ai.frN aj
 refine qaj (qaw aQ aP (oi := 0) (cs := [.int .i64 aw, .slice aB ax.length aC, .bool ay, .slice aD az.length aE, .slice aF aA.length aG]) kz fun bX au am aR => ?_)
 refine qah [3] [] [(4, .p 0 0), (5, .v (.bool true))] am aR fun cH aS => ?_
 refine qae (qab ?_)
 refine wp_ret ?_
 refine qaD aS am.cells (v := .tuple #[.agg #[.int .i64 aw, .slice aB ax.length aC, .bool ay, .slice aD az.length aE, .slice aF aA.length aG], .bool true]) kz ?_
 exact ⟨ab, _, rfl, (show TreeR _ (Imm NoF w bX [⟨b1, 0, [.int .i64 aw, .slice aB ax.length aC, .bool ay, .slice aD az.length aE, .slice aF aA.length aG], true⟩] []) _ (qa7 ab) from (ak.move au.step immM au.to')).move (Step.refl _ Nil) nilM qbR, bK, am.step⟩
theorem qcV (v : Int) (T : Tree) (B : Bs) {A2 : Option Addr} {c2 : Nat} {w : World} {F : Nat → Nat → Prop} (hB : qak (IntKind.i16.wrap v) T = B) (hs_ : Octs w F A2 c2 B) (hc : qa2 T) (hkey : T.ranged) (hroom : B.length + 16 ≤ 1099511627776) :
  Calls Tryz.prog 33 #[.int .i64 v, .slice A2 B.length c2] w (fun e w' => ∃ D cs, e = .returned (.tuple #[.agg cs.toArray, .bool true]) ∧ TreeR w' (Fp NoF w) cs (qa7 D) ∧ qa6 (IntKind.i16.wrap v) D T ∧ Step w w' Nil) := by
 subst hB
 exact qc6 v T hs_ hc hkey hroom
end Go.Proofs.YtgolpmkenmedoaaGreatDoor.ME