/- The texts of a claim, put together: the engine, the contracts, the law. Own work. -/
import Derived.Test.YtgolpmkenmedoaaGreatDoorWt2P3
namespace Go.Proofs.YtgolpmkenmedoaaGreatDoor.ME
open Go
open Go.RowKit
set_option linter.unusedVariables false
set_option linter.unusedSimpArgs false
set_option maxRecDepth 20000
def GotOK (m : Nat) : Prop := ∀ (ct : List Value) (t : Tree) (w : World) (F : Nat → Nat → Prop), TreeR w F ct t → t.depth ≤ m →
  Calls Tryz.prog 21 #[.agg ct.toArray] w (qdZ w F t)
theorem lGot_step {m : Nat} (hg : GotOK m) (ct : List Value) (t : Tree) (w : World) (F : Nat → Nat → Prop) (ht : TreeR w F ct t) (hd : t.depth ≤ m + 1) :
  Calls Tryz.prog 21 #[.agg ct.toArray] w (qdZ w F t) := by
 obtain ⟨n1, s2, b3, l4, u5, A6, c7, A8, c9, ap, ar, dT, rfl, rfl, dw, dx, dU, dV⟩ := ht.open_
 have dy := dw.small
 have dz := dx.small
 obtain ⟨dW, dA, dX⟩ := dV.ex
 have dB := dA.small
 refine enter (n := 49) Tryz.func21 rfl Tryz.ntmps21 kz fun a hE => ?_
 have hW := WOk.start w Nil
 refine qad [0, 1] kz ?_
 refine qaj (qa7 hW hE (d := 1) (cs := [.int .i64 n1, .slice A6 s2.length c7, .bool b3, .slice A8 l4.length c9, .slice ap u5.length ar]) kz fun bF fk fm dY dZ d5 cY cZ => ?_)
 refine qaj (qaK cY cZ (d := 2) (cs := [.int .i64 0, .slice none 0 0, .bool false, .slice none 0 0, .slice none 0 0]) kz fun bG fo fq d6 d7 d8 bI c5 => ?_)
 refine qae (qab ?_)
 refine qad [0, 1, 2, 3, 4, 5, 6, 7, 8] kz ?_
 refine qah [0, 1, 2, 3, 4, 5, 6] [7, 8] [(1, .p 0 0), (2, .p 1 0), (14, .v (.agg #[.int .i64 n1, .slice A6 s2.length c7, .bool b3, .slice none 0 0, .slice none 0 0]))] bI c5 fun fr c6 => ?_
 refine qaj (qaK bI c6 (d := 3) (cs := [.int .i64 0, .slice none 0 0, .bool false, .slice none 0 0, .slice none 0 0]) kz fun bH ft fu d9 ea eb da db => ?_)
 refine qaj (qav da db (oi := 2) (cs := [.int .i64 n1, .slice A6 s2.length c7, .bool b3, .slice none 0 0, .slice none 0 0]) kz fun fv ec bz dc => ?_)
 refine qae (qab ?_)
 refine wp_seq ?_
 refine qam [(1, .p 0 0), (2, .p 1 0), (3, .p 2 0), (16, .v (.slice A8 l4.length c9)), (17, .v (.int .i64 ((l4.length : Nat) : Int))), (18, .v (.int .i64 0))] bz dc fun fw de => ?_
 refine wp_block ?_
 have bJ := bz.addNil 26 5
 have ee := bz.frNil 26 5
 refine wp_loop_ghost (fun n_ a_ w_ => ∃ (k : Nat) (A_ : Option Addr) (c_ : Nat) (xs : List Value) (css : List (List Value)), n_ = l4.length - k ∧ k ≤ l4.length ∧ (Trees w_ (Imm F w w_ [⟨bF, 0, [.int .i64 n1, .slice A6 s2.length c7, .bool b3, .slice A8 l4.length c9, .slice ap u5.length ar], true⟩, ⟨bG, 0, [.int .i64 0, .slice none 0 0, .bool false, .slice none 0 0, .slice none 0 0], true⟩, ⟨bH, 0, [.int .i64 n1, .slice A6 s2.length c7, .bool b3, .slice A_ k c_, .slice none 0 0], true⟩] [⟨A_, c_, 26, 5, k, xs⟩]) xs (l4.take k) css) ∧ LInv bJ 49 [⟨bF, 0, [.int .i64 n1, .slice A6 s2.length c7, .bool b3, .slice A8 l4.length c9, .slice ap u5.length ar], true⟩, ⟨bG, 0, [.int .i64 0, .slice none 0 0, .bool false, .slice none 0 0, .slice none 0 0], true⟩, ⟨bH, 0, [.int .i64 n1, .slice A6 s2.length c7, .bool b3, .slice A_ k c_, .slice none 0 0], true⟩] [⟨A_, c_, 26, 5, k, xs⟩] [(1, .p 0 0), (2, .p 1 0), (3, .p 2 0), (16, .v (.slice A8 l4.length c9)), (17, .v (.int .i64 ((l4.length : Nat) : Int))), (18, .v (.int .i64 ((k : Nat) : Int)))] a_ w_) (l4.length) ⟨0, none, 0, [], [], by omega, by omega, Trees.nil _ _, de.pk, bJ, Fr.refl _ _ _⟩ ?_
 rintro fx fy fz ⟨k, A_, c_, xs, css, ef, eg, hT, df, aw, dg⟩
 refine qam [(1, .p 0 0), (2, .p 1 0), (3, .p 2 0), (16, .v (.slice A8 l4.length c9)), (17, .v (.int .i64 ((l4.length : Nat) : Int))), (18, .v (.int .i64 ((k : Nat) : Int))), (19, .v (.bool (decide (((k : Nat) : Int) < ((l4.length : Nat) : Int)))))] aw df fun fA bA => ?_
 refine wp_seq ?_
 refine qat bA (b := decide (((k : Nat) : Int) < ((l4.length : Nat) : Int))) kz (fun bB => ?_) (fun bB => ?_)
 ·
  have eh := of_decide_eq_true bB
  refine wp_skip ?_
  refine qab ?_
  refine wp_seq ?_
  refine wp_block ?_
  refine qad [0, 1, 2, 3] kz ?_
  obtain ⟨ei, ej, dh, ek, bf⟩ := Slots.get dx (i := k) (by omega)
  obtain ⟨em, bC⟩ : ∃ x, l4[k]? = some x := ⟨_, List.getElem?_eq_getElem (by omega)⟩
  have bD := dU k em bC
  obtain ⟨bK, bL, bM, bN, bO, bP, bQ, bR, bS, bT, bU, eo, rfl, bg, ep, eu, fB, fC⟩ := bD.open_
  rw [bg] at bD
  have dC := ep.small
  have dD := eu.small
  rw [bg] at bf
  refine qaj (qaA bA (t := 34) (A := A8) (m := l4.length) (q := ((k : Nat) : Int)) (d := 20) kz (e := 37) (size := 5) (bytes := 88) kz dh rfl (by omega) fun fD bV => ?_)
  refine qaj (qaH bV (t := 37) (b := ei) (o := ej + k * 5) (d := 21) kz (cs := [.int .i64 bK, .slice bP bL.length bQ, .bool bM, .slice bR bN.length bS, .slice bT bO.length bU]) (v := .agg #[.int .i64 bK, .slice bP bL.length bQ, .bool bM, .slice bR bN.length bS, .slice bT bO.length bU]) kz (AtF.move bf aw.step nilM qaX).at_ fun ev bW => ?_)
  refine qaj (qaK aw bW (d := 5) (cs := [.int .i64 0, .slice none 0 0, .bool false, .slice none 0 0, .slice none 0 0]) kz fun ew ey ez dE dF ax bX bY => ?_)
  refine qaj (qav bX bY (oi := 3) (cs := [.int .i64 bK, .slice bP bL.length bQ, .bool bM, .slice bR bN.length bS, .slice bT bO.length bU]) kz fun eB ay bZ b8 => ?_)
  refine qae (qab ?_)
  refine qcP 7 kz bZ fun eC az ag cd => ?_
  refine qaF [0, 1, 2] [(1, .p 0 0), (2, .p 1 0), (3, .p 2 0), (16, .v (.slice A8 l4.length c9)), (17, .v (.int .i64 ((l4.length : Nat) : Int))), (18, .v (.int .i64 ((k : Nat) : Int))), (23, .v (.slice A_ k c_)), (24, .v (.agg #[.int .i64 bK, .slice bP bL.length bQ, .bool bM, .slice bR bN.length bS, .slice bT bO.length bU]))] 5 (qac (qaa (qaa (qac (qaa qaf))))) (fun _ h => h.cells) cd b8 fun eD ce => ?_
  refine qay (i := 3) kz (qai ce (f := 21) (vs := [.agg #[.int .i64 bK, .slice bP bL.length bQ, .bool bM, .slice bR bN.length bS, .slice bT bO.length bU]]) (d := 25) kz Tryz.call21 ( hg _ _ _ _ (bD.move ag.step nilM ag.imm) (by have h_ := deep_get bC; rw [qge] at hd; omega)) ?_)
  rintro e_ eE ⟨dG, rfl, cm, aA⟩
  have aB := cm.move (Step.refl _ Nil) nilM (ag.laid (G := F) aA)
  obtain ⟨aC, aD, aE, aF, aG, aH, aI, aJ, aK, aL, aM, dH, dI, aN, di, dj, eF, eG⟩ := aB.open_
  rw [aN] at aB
  have dl := di.small
  have dp := dj.small
  rw [aN]
  refine ⟨_, rfl, fun eH cq => ?_⟩
  have bh := ag.next_nil aA
  have ae := ag.frN aA
  have cr := TT.ofW ae bh
  refine ⟨fun _ => cr, ?_⟩
  refine qay (i := 4) kz (qbE bh cq (e := 26) (size := 5) (len := 1) (cs := [.int .i64 aC, .slice aH aD.length aI, .bool aE, .slice aJ aF.length aK, .slice aL aG.length aM]) (d := 26) kz kz fun dq eI eJ dJ dK aa au cu => ?_)
  have cw := TT.ofW (ae.trans aa) au
  refine ⟨fun _ => cw, ?_⟩
  refine qay (i := 5) kz (qaQ au cu (k := 0) (d := 27) (t := 23) (e := 26) (size := 5) (bytes := 88) (A := A_) (As := (some ⟨dq, 0, none⟩)) (m0 := k) (c := c_) (m := 1) (cs := 1) (xs := xs) (news := [.int .i64 aC, .slice aH aD.length aI, .bool aE, .slice aJ aF.length aK, .slice aL aG.length aM]) kz kz rfl (qbD (au.own 1 _ rfl) (qbJ kz)) (qbL (au.own 1 _ rfl)) (by omega) fun aO aP eK eL af bi cz => ?_)
  have bj := TT.ofW ((ae.trans aa).trans af) bi
  refine ⟨fun _ => bj, ?_⟩
  refine qaF [6] [(1, .p 0 0), (2, .p 1 0), (3, .p 2 0), (16, .v (.slice A8 l4.length c9)), (17, .v (.int .i64 ((l4.length : Nat) : Int))), (18, .v (.int .i64 ((k : Nat) : Int))), (27, .v (.slice aO (k + 1) aP)), (28, .p 2 3)] 1 (qac (qaa (qaa (qac (qaa qaf))))) (fun _ h => h.cells) bj cz fun eM cA => ?_
  refine qay (i := 7) kz (qav bi cA (oi := 2) (cs := [.int .i64 n1, .slice A6 s2.length c7, .bool b3, .slice aO (k + 1) aP, .slice none 0 0]) kz fun eN ah bk cB => ?_)
  refine ⟨fun h => absurd rfl h, ?_⟩
  refine qaC kz ?_ _
  refine qap ?_
  refine qab ?_
  refine qar [0, 1] kz ?_
  refine qah [0, 1] [] [(1, .p 0 0), (2, .p 1 0), (3, .p 2 0), (16, .v (.slice A8 l4.length c9)), (17, .v (.int .i64 ((l4.length : Nat) : Int))), (18, .v (.int .i64 (IntKind.i64.wrap (((k : Nat) : Int) + 1))))] bk cB fun eO cC => ?_
  refine qae (qab ?_)
  obtain ⟨bn, cD, ai⟩ := bk.cutB cC 3 [⟨bF, 0, [.int .i64 n1, .slice A6 s2.length c7, .bool b3, .slice A8 l4.length c9, .slice ap u5.length ar], true⟩, ⟨bG, 0, [.int .i64 0, .slice none 0 0, .bool false, .slice none 0 0, .slice none 0 0], true⟩, ⟨bH, 0, [.int .i64 n1, .slice A6 s2.length c7, .bool b3, .slice aO (k + 1) aP, .slice none 0 0], true⟩] [(1, .p 0 0), (2, .p 1 0), (3, .p 2 0), (16, .v (.slice A8 l4.length c9)), (17, .v (.int .i64 ((l4.length : Nat) : Int))), (18, .v (.int .i64 (IntKind.i64.wrap (((k : Nat) : Int) + 1))))]
  obtain ⟨cE, aj⟩ := cD.cutR 1 [⟨aO, aP, 26, 5, k + 1, xs ++ [.int .i64 aC, .slice aH aD.length aI, .bool aE, .slice aJ aF.length aK, .slice aL aG.length aM]⟩]
  have cG : IntKind.i64.wrap (((k : Nat) : Int) + 1) = ((k + 1 : Nat) : Int) := qaJ (by omega)
  rw [cG] at bn
  exact ⟨l4.length - (k + 1), by omega, k + 1, aO, aP, xs ++ [Value.int .i64 aC, .slice aH aD.length aI, .bool aE, .slice aJ aF.length aK, .slice aL aG.length aM], (css ++ [[Value.int .i64 aC, .slice aH aD.length aI, .bool aE, .slice aJ aF.length aK, .slice aL aG.length aM]]), rfl, by omega, by rw [qcv bC]; exact (hT.move ((((((((ax.trans ay).trans az).trans ae).trans aa).trans af).trans ah).trans ai).trans aj).step immM ((((((((ax.trans ay).trans az).trans ae).trans aa).trans af).trans ah).trans ai).trans aj).to').snoc (aB.move ((((aa.trans af).trans ah).trans ai).trans aj).step immM ((((aa.trans af).trans ah).trans ai).trans aj).to'), bn.pk, cE, (((((((((dg.trans ax).trans ay).trans az).trans ae).trans aa).trans af).trans ah).trans ai).trans aj)⟩
 ·
  have dL := of_decide_eq_false bB
  refine wp_exit ?_
  refine qaz ?_
  refine qaz ?_
  refine qaI ?_
  refine qab ?_
  refine wp_seq ?_
  refine qam [(2, .p 1 0), (3, .p 2 0), (31, .v (.slice ap u5.length ar)), (32, .v (.int .i64 ((u5.length : Nat) : Int))), (33, .v (.int .i64 0))] aw bA fun eP cH => ?_
  refine wp_block ?_
  have hk0 : k = l4.length := by omega
  have bo := aw.addNil 66 2
  have bp := aw.frNil 66 2
  refine wp_loop_ghost (fun n_ a_ w_ => ∃ (q : Nat) (A5_ : Option Addr) (c5_ : Nat) (ys : List Value) (dss : List (List Value)), n_ = u5.length - q ∧ q ≤ u5.length ∧ (Tags w_ (Imm F w w_ [⟨bF, 0, [.int .i64 n1, .slice A6 s2.length c7, .bool b3, .slice A8 l4.length c9, .slice ap u5.length ar], true⟩, ⟨bG, 0, [.int .i64 0, .slice none 0 0, .bool false, .slice none 0 0, .slice none 0 0], true⟩, ⟨bH, 0, [.int .i64 n1, .slice A6 s2.length c7, .bool b3, .slice A_ k c_, .slice A5_ q c5_], true⟩] [⟨A_, c_, 26, 5, k, xs⟩, ⟨A5_, c5_, 66, 2, q, ys⟩]) ys (u5.take q) dss) ∧ LInv bo 49 [⟨bF, 0, [.int .i64 n1, .slice A6 s2.length c7, .bool b3, .slice A8 l4.length c9, .slice ap u5.length ar], true⟩, ⟨bG, 0, [.int .i64 0, .slice none 0 0, .bool false, .slice none 0 0, .slice none 0 0], true⟩, ⟨bH, 0, [.int .i64 n1, .slice A6 s2.length c7, .bool b3, .slice A_ k c_, .slice A5_ q c5_], true⟩] [⟨A_, c_, 26, 5, k, xs⟩, ⟨A5_, c5_, 66, 2, q, ys⟩] [(2, .p 1 0), (3, .p 2 0), (31, .v (.slice ap u5.length ar)), (32, .v (.int .i64 ((u5.length : Nat) : Int))), (33, .v (.int .i64 ((q : Nat) : Int)))] a_ w_) (u5.length) ⟨0, none, 0, [], [], by omega, by omega, Tags.nil _ _, cH.pk, bo, Fr.refl _ _ _⟩ ?_
  rintro eQ eR eS ⟨q, A5_, c5_, ys, dss, dM, dN, hU, cI, ak, aQ⟩
  refine qam [(2, .p 1 0), (3, .p 2 0), (31, .v (.slice ap u5.length ar)), (32, .v (.int .i64 ((u5.length : Nat) : Int))), (33, .v (.int .i64 ((q : Nat) : Int))), (34, .v (.bool (decide (((q : Nat) : Int) < ((u5.length : Nat) : Int)))))] ak cI fun eU aR => ?_
  refine wp_seq ?_
  refine qat aR (b := decide (((q : Nat) : Int) < ((u5.length : Nat) : Int))) kz (fun aS => ?_) (fun aS => ?_)
  ·
   have dO := of_decide_eq_true aS
   refine wp_skip ?_
   refine qab ?_
   refine wp_seq ?_
   refine wp_block ?_
   refine qad [0, 1, 2, 3] kz ?_
   obtain ⟨dr, dt, cJ, dP, aT⟩ := Slots.get dA (i := q) (by omega)
   obtain ⟨⟨ab, ac⟩, bq⟩ : ∃ x, u5[q]? = some x := ⟨_, List.getElem?_eq_getElem (by omega)⟩
   obtain ⟨⟨al, am, bE, cK⟩, du, dv⟩ := dX q ab ac bq
   rw [bE] at aT
   refine qaj (qaA aR (t := 35) (A := ap) (m := u5.length) (q := ((q : Nat) : Int)) (d := 35) kz (e := 69) (size := 2) (bytes := 32) kz cJ rfl (by omega) fun eV cL => ?_)
   refine qaj (qaH cL (t := 69) (b := dr) (o := dt + q * 2) (d := 36) kz (cs := [.int .u32 ab, .slice al ac.length am]) (v := .agg #[.int .u32 ab, .slice al ac.length am]) kz (AtF.move aT ak.step nilM qaX).at_ fun eW cM => ?_)
   refine qaj (qaK ak cM (d := 7) (cs := [.int .u32 0, .slice none 0 0]) kz fun eX eY eZ dQ dR aU cN cO => ?_)
   refine qaj (qav cN cO (oi := 3) (cs := [.int .u32 ab, .slice al ac.length am]) kz fun e9 aV bt cP => ?_)
   refine qae (qab ?_)
   refine qar [0, 1, 2, 3, 4, 5, 6, 7, 8, 9, 10] kz ?_
   refine qah [0, 1, 2, 3, 4, 5, 6] [7, 8, 9, 10] [(2, .p 1 0), (3, .p 2 0), (31, .v (.slice ap u5.length ar)), (32, .v (.int .i64 ((u5.length : Nat) : Int))), (33, .v (.int .i64 ((q : Nat) : Int))), (38, .v (.slice A5_ q c5_)), (43, .v (.agg #[.int .u32 ab, .slice al ac.length am]))] bt cP fun fa cQ => ?_
   refine qb8 bt cQ (k := 1) (e := 66) (size := 2) (len := 1) (cs := [.int .u32 ab, .slice al ac.length am]) (d1 := 44) (d := 45) kz (t := 24) (bytes := 32) kz (fun _ => by kernel_rfl) rfl kz (by omega) fun ba bd fb fe aW bu ⟨_, cR⟩ => ?_
   refine qah [9] [10] [(2, .p 1 0), (3, .p 2 0), (31, .v (.slice ap u5.length ar)), (32, .v (.int .i64 ((u5.length : Nat) : Int))), (33, .v (.int .i64 ((q : Nat) : Int))), (45, .v (.slice ba (q + 1) bd)), (46, .p 2 4)] bu cR fun ff cS => ?_
   refine qaj (qav bu cS (oi := 2) (cs := [.int .i64 n1, .slice A6 s2.length c7, .bool b3, .slice A_ k c_, .slice ba (q + 1) bd]) kz fun fg aX bw cT => ?_)
   refine qae ?_
   refine qap ?_
   refine qab ?_
   refine qar [0, 1] kz ?_
   refine qah [0, 1] [] [(2, .p 1 0), (3, .p 2 0), (31, .v (.slice ap u5.length ar)), (32, .v (.int .i64 ((u5.length : Nat) : Int))), (33, .v (.int .i64 (IntKind.i64.wrap (((q : Nat) : Int) + 1))))] bw cT fun fh cU => ?_
   refine qae (qab ?_)
   obtain ⟨bx, aY, aZ⟩ := bw.cutB cU 3 [⟨bF, 0, [.int .i64 n1, .slice A6 s2.length c7, .bool b3, .slice A8 l4.length c9, .slice ap u5.length ar], true⟩, ⟨bG, 0, [.int .i64 0, .slice none 0 0, .bool false, .slice none 0 0, .slice none 0 0], true⟩, ⟨bH, 0, [.int .i64 n1, .slice A6 s2.length c7, .bool b3, .slice A_ k c_, .slice ba (q + 1) bd], true⟩] [(2, .p 1 0), (3, .p 2 0), (31, .v (.slice ap u5.length ar)), (32, .v (.int .i64 ((u5.length : Nat) : Int))), (33, .v (.int .i64 (IntKind.i64.wrap (((q : Nat) : Int) + 1))))]
   have cV : IntKind.i64.wrap (((q : Nat) : Int) + 1) = ((q + 1 : Nat) : Int) := qaJ (by omega)
   rw [cV] at bx
   exact ⟨u5.length - (q + 1), by omega, q + 1, ba, bd, ys ++ [Value.int .u32 ab, .slice al ac.length am], (dss ++ [[Value.int .u32 ab, .slice al ac.length am]]), rfl, by omega, by rw [qcv bq]; exact (hU.move ((((aU.trans aV).trans aW).trans aX).trans aZ).step immM ((((aU.trans aV).trans aW).trans aX).trans aZ).to').snoc (c := [.int .u32 ab, .slice al ac.length am]) (x := (ab, ac)) ⟨⟨_, _, rfl, (cK.move aY.step nilM aY.imm)⟩, du, dv⟩, bx.pk, aY, (((((aQ.trans aU).trans aV).trans aW).trans aX).trans aZ)⟩
  ·
   have dS := of_decide_eq_false aS
   refine wp_exit ?_
   refine qaz ?_
   refine qaz ?_
   refine qaI ?_
   refine qab ?_
   refine qad [0, 1] kz ?_
   refine qah [0] [1] [(2, .p 1 0), (48, .v (.agg #[.int .i64 n1, .slice A6 s2.length c7, .bool b3, .slice A_ k c_, .slice A5_ q c5_]))] ak aR fun fi cW => ?_
   refine qaj (qav ak cW (oi := 1) (cs := [.int .i64 n1, .slice A6 s2.length c7, .bool b3, .slice A_ k c_, .slice A5_ q c5_]) kz fun fj av ao cX => ?_)
   refine qae (qab ?_)
   refine wp_ret ?_
   refine qaD cX ao.cells (v := .agg #[.int .i64 n1, .slice A6 s2.length c7, .bool b3, .slice A_ k c_, .slice A5_ q c5_]) kz ?_
   have hq0 : q = u5.length := by omega
   have hT' := (hT.move ((bp.trans aQ).trans av).step immM ((bp.trans aQ).trans av).to')
   have hU' := (hU.move av.step immM av.to')
   rw [show l4.take k = l4 by rw [hk0, List.take_length]] at hT'
   rw [show u5.take q = u5 by rw [hq0, List.take_length]] at hU'
   exact tree_end ao rfl (dw.move ao.step nilM startFp) hk0 (trees_fp ao (k := 0) rfl hT' hk0 (by omega)) hq0 (tags_fp ao (k := 1) rfl hU' hq0 (by omega)) rfl
theorem lGot : ∀ m, GotOK m
 | 0 => fun ct t w F ht hd => by
  obtain ⟨n, s, b, l, u, A1, c1, A2, c2, A3, c3, xs, rfl, _⟩ := ht.open_
  rw [qge] at hd; omega
 | m + 1 => lGot_step (lGot m)
theorem tSorted {u : List (Int × Bs)} {A : Option Addr} {c : Nat} {w : World} {F : Nat → Nat → Prop} (hu : TagsR w F A c u) (hsrt : qcI u) : Calls Tryz.prog 124 #[.slice A u.length c] w (qbW w (.tuple #[])) := by
 obtain ⟨cs1, h2, h3⟩ := hu.ex
 have hsm4 := h2.small
 refine enter (n := 45) Tryz.func124 rfl Tryz.ntmps124 kz fun a hE => ?_
 have hW := WOk.start w Nil
 refine qam [(0, .v (.slice A u.length c)), (5, .v (.int .i64 ((u.length : Nat) : Int))), (6, .v (.int .i64 0))] hW hE fun a5 hE6 => ?_
 refine wp_block ?_
 refine wp_loop_ghost (fun n_ a_ w_ => ∃ (k : Nat), n_ = u.length - k ∧ k ≤ u.length ∧ LInv hW 45 [] [] [(0, .v (.slice A u.length c)), (5, .v (.int .i64 ((u.length : Nat) : Int))), (6, .v (.int .i64 ((k : Nat) : Int)))] a_ w_) (u.length) ⟨0, by omega, by omega, hE6.pk, hW, Fr.refl _ _ _⟩ ?_
 rintro n7 a8 w9 ⟨k, aW, aX, aB, ab, aj⟩
 refine qam [(0, .v (.slice A u.length c)), (5, .v (.int .i64 ((u.length : Nat) : Int))), (6, .v (.int .i64 ((k : Nat) : Int))), (7, .v (.bool (decide (((k : Nat) : Int) < ((u.length : Nat) : Int)))))] ab aB fun bn ah => ?_
 refine wp_seq ?_
 refine qat ah (b := decide (((k : Nat) : Int) < ((u.length : Nat) : Int))) kz (fun ai => ?_) (fun ai => ?_)
 ·
  have aY := of_decide_eq_true ai
  refine wp_skip ?_
  refine qab ?_
  refine wp_seq ?_
  refine wp_block ?_
  refine qam [(0, .v (.slice A u.length c)), (2, .v (.int .i64 ((k : Nat) : Int))), (5, .v (.int .i64 ((u.length : Nat) : Int))), (6, .v (.int .i64 ((k : Nat) : Int)))] ab ah fun bo aC => ?_
  refine qam [(0, .v (.slice A u.length c)), (3, .v (.int .i64 ((k : Nat) : Int))), (5, .v (.int .i64 ((u.length : Nat) : Int))), (6, .v (.int .i64 ((k : Nat) : Int)))] ab aC fun bp aD => ?_
  refine wp_block ?_
  refine loop_out ?_
  refine wp_seq ?_
  refine qbM kz ab fun bq ak aa => ?_
  refine qaF [0, 1, 2] [(0, .v (.slice A u.length c)), (3, .v (.int .i64 ((k : Nat) : Int))), (5, .v (.int .i64 ((u.length : Nat) : Int))), (6, .v (.int .i64 ((k : Nat) : Int))), (12, .v (.bool (decide (((k : Nat) : Int) > 0))))] 13 (qaa (qaa (qaa (qac (qac (qaa (qaa (qac qaf)))))))) (fun _ h => h ▸ aa.cells) rfl aD fun bt al => ?_
  refine (Bool.eq_false_or_eq_true (decide (((k : Nat) : Int) > 0))).elim (fun ac => ?_) (fun ac => ?_)
  ·
   have aZ := of_decide_eq_true ac
   have aE := al.cast (env' := [(0, .v (.slice A u.length c)), (3, .v (.int .i64 ((k : Nat) : Int))), (5, .v (.int .i64 ((u.length : Nat) : Int))), (6, .v (.int .i64 ((k : Nat) : Int))), (12, .v (.bool true))]) (by rw [ac])
   refine qaF [3, 4, 8, 9, 10] [(0, .v (.slice A u.length c)), (3, .v (.int .i64 ((k : Nat) : Int))), (5, .v (.int .i64 ((u.length : Nat) : Int))), (6, .v (.int .i64 ((k : Nat) : Int))), (12, .v (.bool true)), (13, .v (.slice A u.length c)), (14, .v (.int .i64 ((k : Nat) : Int))), (18, .v (.slice A u.length c)), (20, .v (.int .i64 (IntKind.i64.wrap (((k : Nat) : Int) - 1))))] 8 (qaa (qaa (qaa (qac (qac (qaa (qaa (qac qaf)))))))) (fun _ h => h ▸ aa.cells) rfl aE fun bu aF => ?_
   obtain ⟨az, aA, aG, ba, ae⟩ := Slots.get h2 (i := k) (by omega)
   obtain ⟨⟨af, bd⟩, am⟩ : ∃ x, u[k]? = some x := ⟨_, List.getElem?_eq_getElem (by omega)⟩
   obtain ⟨⟨bw, bx, ao, bf⟩, bz, bA⟩ := h3 k af bd am
   rw [ao] at ae
   refine qaL aF (i := 5) (t := 35) (A := A) (m := u.length) (q := ((k : Nat) : Int)) (d := 15) kz (e := 69) (size := 2) (bytes := 32) kz aG rfl (by omega) kz kz (qaa (qaa (qaa (qac (qac (qaa (qaa (qac qaf)))))))) rfl fun bB aH => ?_
   refine qaF [6] [(0, .v (.slice A u.length c)), (3, .v (.int .i64 ((k : Nat) : Int))), (5, .v (.int .i64 ((u.length : Nat) : Int))), (6, .v (.int .i64 ((k : Nat) : Int))), (12, .v (.bool true)), (16, .v (.pointer (some ⟨az, aA + k * 2, none⟩))), (18, .v (.slice A u.length c)), (20, .v (.int .i64 (IntKind.i64.wrap (((k : Nat) : Int) - 1))))] 6 (qaa (qaa (qaa (qac (qac (qaa (qaa (qac qaf)))))))) (fun _ h => h ▸ aa.cells) rfl aH fun bC aI => ?_
   refine qaW aI (i := 7) (t := 64) (b := az) (o := aA + k * 2) (d := 17) kz (cs := [.int .u32 af]) (v := .int .u32 af) kz (fun w' h' => h' ▸ (At.drop (AtF.move ae aa.step nilM qaX).at_ 0 1)) kz kz (qaa (qaa (qaa (qac (qac (qaa (qaa (qac qaf)))))))) rfl fun bD aJ => ?_
   have aK : IntKind.i64.wrap (((k : Nat) : Int) - 1) = (((k - 1) : Nat) : Int) := by simp only [qce, qaw, qbn, IntKind.wrap_i64, IntKind.wrap_i32]; omega
   have aL := EnvOk.pick aJ (ks := [0, 3, 5, 6, 12, 16, 18, 20, 17]) (env' := [(0, .v (.slice A u.length c)), (3, .v (.int .i64 ((k : Nat) : Int))), (5, .v (.int .i64 ((u.length : Nat) : Int))), (6, .v (.int .i64 ((k : Nat) : Int))), (12, .v (.bool true)), (16, .v (.pointer (some ⟨az, aA + k * 2, none⟩))), (18, .v (.slice A u.length c)), (20, .v (.int .i64 (IntKind.i64.wrap (((k : Nat) : Int) - 1)))), (17, .v (.int .u32 af))]) kz
   have aM := aL.cast (env' := [(0, .v (.slice A u.length c)), (3, .v (.int .i64 ((k : Nat) : Int))), (5, .v (.int .i64 ((u.length : Nat) : Int))), (6, .v (.int .i64 ((k : Nat) : Int))), (12, .v (.bool true)), (16, .v (.pointer (some ⟨az, aA + k * 2, none⟩))), (18, .v (.slice A u.length c)), (20, .v (.int .i64 (((k - 1) : Nat) : Int))), (17, .v (.int .u32 af))]) (by rw [aK])
   obtain ⟨aU, aV, aN, bg, ag⟩ := Slots.get h2 (i := (k - 1)) (by omega)
   obtain ⟨⟨ap, bh⟩, ar⟩ : ∃ x, u[(k - 1)]? = some x := ⟨_, List.getElem?_eq_getElem (by omega)⟩
   obtain ⟨⟨bE, bF, au, bi⟩, bG, bH⟩ := h3 (k - 1) ap bh ar
   rw [au] at ag
   refine qaL aM (i := 11) (t := 35) (A := A) (m := u.length) (q := (((k - 1) : Nat) : Int)) (d := 21) kz (e := 69) (size := 2) (bytes := 32) kz aN rfl (by omega) kz kz (qaa (qaa (qaa (qac (qac (qaa (qaa (qac qaf)))))))) rfl fun bI aO => ?_
   refine qaF [12] [(0, .v (.slice A u.length c)), (3, .v (.int .i64 ((k : Nat) : Int))), (5, .v (.int .i64 ((u.length : Nat) : Int))), (6, .v (.int .i64 ((k : Nat) : Int))), (12, .v (.bool true)), (17, .v (.int .u32 af)), (22, .v (.pointer (some ⟨aU, aV + (k - 1) * 2, none⟩)))] 3 (qaa (qaa (qaa (qac (qac (qaa (qaa (qac qaf)))))))) (fun _ h => h ▸ aa.cells) rfl aO fun bJ aP => ?_
   refine qaW aP (i := 13) (t := 64) (b := aU) (o := aV + (k - 1) * 2) (d := 23) kz (cs := [.int .u32 ap]) (v := .int .u32 ap) kz (fun w' h' => h' ▸ (At.drop (AtF.move ag aa.step nilM qaX).at_ 0 1)) kz kz (qaa (qaa (qaa (qac (qac (qaa (qaa (qac qaf)))))))) rfl fun bK aQ => ?_
   refine qaF [14, 15] [(0, .v (.slice A u.length c)), (3, .v (.int .i64 ((k : Nat) : Int))), (5, .v (.int .i64 ((u.length : Nat) : Int))), (6, .v (.int .i64 ((k : Nat) : Int))), (25, .v (.bool (decide (af < ap))))] 0 (qaa (qaa (qaa (qac (qac (qaa (qaa (qac qaf)))))))) (fun _ h => h ▸ aa.cells) rfl aQ fun bL av => ?_
   refine qaC kz ?_ _
   refine qab ?_
   refine qan av (b := decide (af < ap)) kz (decide_eq_false (sorted_not hsrt am ar (by omega))) ?_
   refine wp_exit ?_
   refine qaz ?_
   refine qaz ?_
   refine qaI ?_
   refine qap ?_
   refine qab ?_
   refine qar [0, 1] kz ?_
   refine qah [0, 1] [] [(0, .v (.slice A u.length c)), (5, .v (.int .i64 ((u.length : Nat) : Int))), (6, .v (.int .i64 (IntKind.i64.wrap (((k : Nat) : Int) + 1))))] aa av fun bM aw => ?_
   refine qae (qab ?_)
   have aR : IntKind.i64.wrap (((k : Nat) : Int) + 1) = ((k + 1 : Nat) : Int) := qaJ (by omega)
   rw [aR] at aw
   exact ⟨u.length - (k + 1), by omega, k + 1, rfl, by omega, aw.pk, aa, (aj.trans ak)⟩
  ·
   have bj := of_decide_eq_false ac
   have aS := al.cast (env' := [(0, .v (.slice A u.length c)), (3, .v (.int .i64 ((k : Nat) : Int))), (5, .v (.int .i64 ((u.length : Nat) : Int))), (6, .v (.int .i64 ((k : Nat) : Int))), (12, .v (.bool false))]) (by rw [ac])
   refine qaF [3, 4, 5, 6, 7, 8, 9, 10, 11, 12, 13, 14, 15] [(0, .v (.slice A u.length c)), (3, .v (.int .i64 ((k : Nat) : Int))), (5, .v (.int .i64 ((u.length : Nat) : Int))), (6, .v (.int .i64 ((k : Nat) : Int))), (25, .v (.bool false))] 0 (qaa (qaa (qaa (qac (qac (qaa (qaa (qac qaf)))))))) (fun _ h => h ▸ aa.cells) rfl aS fun bN ax => ?_
   refine qaC kz ?_ _
   refine qab ?_
   refine qan ax (b := false) kz rfl ?_
   refine wp_exit ?_
   refine qaz ?_
   refine qaz ?_
   refine qaI ?_
   refine qap ?_
   refine qab ?_
   refine qar [0, 1] kz ?_
   refine qah [0, 1] [] [(0, .v (.slice A u.length c)), (5, .v (.int .i64 ((u.length : Nat) : Int))), (6, .v (.int .i64 (IntKind.i64.wrap (((k : Nat) : Int) + 1))))] aa ax fun bO ay => ?_
   refine qae (qab ?_)
   have aT : IntKind.i64.wrap (((k : Nat) : Int) + 1) = ((k + 1 : Nat) : Int) := qaJ (by omega)
   rw [aT] at ay
   exact ⟨u.length - (k + 1), by omega, k + 1, rfl, by omega, ay.pk, aa, (aj.trans ak)⟩
 ·
  have bk := of_decide_eq_false ai
  refine wp_exit ?_
  refine qaz ?_
  refine qaz ?_
  refine qaI ?_
  refine qbS ah ab.cells (v := .tuple #[]) kz ?_
  exact ⟨rfl, ab.step⟩
theorem tTextN (s : ByteArray) (w : World) (F : Nat → Nat → Prop) : Calls Tryz.prog 139 #[.pointer none] w (qdZ w F (.mk 0 [] true [] [])) := by
 refine enter (n := 11) Tryz.func139 rfl Tryz.ntmps139 kz fun a hE => ?_
 have hW := WOk.start w Nil
 refine qad [0] kz ?_
 refine qaj (qaK hW hE (d := 2) (cs := [.int .i64 0, .slice none 0 0, .bool false, .slice none 0 0, .slice none 0 0]) kz fun b1 a2 w3 hb4 hz5 hF6 hW7 hE8 => ?_)
 refine qae (qab ?_)
 refine wp_seq ?_
 refine qam [(0, .v (.pointer none)), (2, .p 0 0), (4, .v (.bool true))] hW7 hE8 fun a9 aa => ?_
 refine qaV aa (b := true) kz rfl ?_
 refine qad [0, 1] kz ?_
 refine qah [0] [1] [(2, .p 0 0), (5, .v (.agg #[.int .i64 0, .slice none 0 0, .bool true, .slice none 0 0, .slice none 0 0]))] hW7 aa fun ah ac => ?_
 refine qaj (qav hW7 ac (oi := 0) (cs := [.int .i64 0, .slice none 0 0, .bool true, .slice none 0 0, .slice none 0 0]) kz fun af ag ab ae => ?_)
 refine qae (qab ?_)
 refine wp_ret ?_
 refine qal ?_
 refine qaD ae ab.cells (v := .agg #[.int .i64 0, .slice none 0 0, .bool true, .slice none 0 0, .slice none 0 0]) kz ?_
 exact ⟨_, rfl, (show TreeR _ (Imm F w af [⟨b1, 0, [.int .i64 0, .slice none 0 0, .bool true, .slice none 0 0, .slice none 0 0], true⟩] []) _ (Tree.mk 0 [] true [] []) from (TreeR.mk (n := 0) (b := true) (s := []) (l := []) (u := []) (fun _ => []) (Octs.nil _ _) (Slots.nil _ _ _ _) (fun i_ x_ h_ => by simp at h_) (TagsR.nil _ _))).move (Step.refl _ Nil) nilM qbG, ab.step⟩
theorem tTextS (b o : Nat) (s : ByteArray) (w : World) (F : Nat → Nat → Prop) (hat : AtF w F b o [.string s]) (hs : s.size ≤ 1000000) : Calls Tryz.prog 139 #[.pointer (some ⟨b, o, none⟩)] w (qdZ w F (.mk 0 (sb s) false [] [])) := by
 refine enter (n := 11) Tryz.func139 rfl Tryz.ntmps139 kz fun a hE => ?_
 have hW := WOk.start w Nil
 refine qad [0] kz ?_
 refine qaj (qaK hW hE (d := 2) (cs := [.int .i64 0, .slice none 0 0, .bool false, .slice none 0 0, .slice none 0 0]) kz fun b1 a2 w3 hb4 hz5 hF6 hW7 hE8 => ?_)
 refine qae (qab ?_)
 refine wp_seq ?_
 refine qam [(0, .v (.pointer (some ⟨b, o, none⟩))), (2, .p 0 0), (4, .v (.bool false))] hW7 hE8 fun a9 aa => ?_
 refine qan aa (b := false) kz rfl ?_
 refine wp_skip ?_
 refine qab ?_
 refine qad [0, 1, 2, 3, 4, 5] kz ?_
 refine qah [0, 1] [2, 3, 4, 5] [(2, .p 0 0), (7, .v (.pointer (some ⟨b, o, none⟩)))] hW7 aa fun au ah => ?_
 refine qaj (qaH ah (t := 9) (b := b) (o := o) (d := 8) kz (cs := [.string s]) (v := .string s) kz (AtF.move hat hW7.step nilM qaX).at_ fun av ai => ?_)
 refine qaj (wpOp_bytes (d := 9) (src := 9) (dst := 22) (e := 5) (s := s) hW7 ai (by omega) fun af ag aw ax ap ab aj ak => ?_)
 have al := aj F
 refine qah [4] [5] [(2, .p 0 0), (10, .v (.agg #[.int .i64 0, .slice (some ⟨af, 0, none⟩) ((sb s).length) ag, .bool false, .slice none 0 0, .slice none 0 0]))] ab ak fun ay am => ?_
 refine qaj (qav ab am (oi := 0) (cs := [.int .i64 0, .slice (some ⟨af, 0, none⟩) ((sb s).length) ag, .bool false, .slice none 0 0, .slice none 0 0]) kz fun ar ac ae ao => ?_)
 refine qae (qab ?_)
 refine wp_ret ?_
 refine qaD ao ae.cells (v := .agg #[.int .i64 0, .slice (some ⟨af, 0, none⟩) ((sb s).length) ag, .bool false, .slice none 0 0, .slice none 0 0]) kz ?_
 exact ⟨_, rfl, (show TreeR _ (Imm F w ar [⟨b1, 0, [.int .i64 0, .slice (some ⟨af, 0, none⟩) ((sb s).length) ag, .bool false, .slice none 0 0, .slice none 0 0], true⟩] []) _ (Tree.mk 0 (sb s) false [] []) from (TreeR.mk (n := 0) (b := false) (s := (sb s)) (l := []) (u := []) (fun _ => []) (al.move ac.step immM ac.to') (Slots.nil _ _ _ _) (fun i_ x_ h_ => by simp at h_) (TagsR.nil _ _))).move (Step.refl _ Nil) nilM qbG, ae.step⟩
theorem tText (A : Option Addr) (s : ByteArray) (w : World) (F : Nat → Nat → Prop) (hO : ∀ ad, A = some ad → ∃ b o, ad = ⟨b, o, none⟩ ∧ AtF w F b o [.string s]) (hs : s.size ≤ 1000000) : Calls Tryz.prog 139 #[.pointer A] w (qdZ w F (qe8 A s)) := by
 cases A with
 | none => exact tTextN s w F
 | some ad =>
  obtain ⟨b, o, rfl, h⟩ := hO ad rfl
  exact tTextS b o s w F h hs
theorem qet : qfO Tryz.prog 153 69 := by
 intro w B cp c n k A Av x x0 x1 x2 x3 xs G hbx ho hG hn
 refine enter (n := 14) Tryz.func153 rfl Tryz.ntmps153 kz fun a hE => ?_
 have hW := hbx.wok
 have hE0 := (hE.grow ⟨B, 0, [x0, x1, x2, x3, .slice A n cp], true⟩).recast 2 (.v (.pointer (some ⟨B, 0, none⟩))) (.p 0 0) rfl rfl (by simp [SV.ok])
 have hsm := Slots.small ho
 have ap := hE0.pk (env' := [(0, .v (.int .u32 k)), (1, .v (.slice Av x.length c)), (2, .p 0 0)])
 refine qcP 9 kz hW fun w1 hF2 hW3 hT4 => ?_
 refine qaF [0, 1, 2, 3] [(2, .p 0 0), (6, .v (.slice A n cp)), (7, .v (.int .u32 k)), (8, .v (.slice Av x.length c))] 6 qaf (fun _ h => h.cells) hT4 ap fun a5 hE6 => ?_
 have hW7 := hW3.addNil 5 1
 have hF8 := hW3.frNil 5 1
 refine qay (i := 4) kz (qaQ hW7 hE6 (k := 1) (d := 9) (t := 22) (e := 5) (size := 1) (bytes := 1) (A := none) (As := Av) (m0 := 0) (c := 0) (m := x.length) (cs := c) (xs := []) (news := bc x) kz kz rfl (ho.move hW7.step (fun b o h _ => hG b o h) qaX).src (ho.move hW7.step (fun b o h _ => hG b o h) qaX).cap (by first | omega | (simp only [List.length_nil]; omega) | (simp; omega)) fun A9 aa aK aL ac ar au => ?_)
 have av : (⟨A9, aa, 5, 1, 0 + x.length, [] ++ bc x⟩ : Rw) = brow A9 aa 5 x := by rw [List.nil_append, Nat.zero_add]
 obtain ⟨af, ae⟩ := ar.rowEq 1 [⟨A, cp, 69, 2, n, xs⟩, brow A9 aa 5 x] av
 have aw := EnvOk.pick au (ks := [2, 6, 7, 8, 9]) (env' := [(2, .p 0 0), (6, .v (.slice A n cp)), (7, .v (.int .u32 k)), (8, .v (.slice Av x.length c)), (9, .v (.slice A9 (0 + x.length) aa))]) kz
 have ax := aw.cast (env' := [(2, .p 0 0), (6, .v (.slice A n cp)), (7, .v (.int .u32 k)), (8, .v (.slice Av x.length c)), (9, .v (.slice A9 x.length aa))]) (by simp only [List.length_append, List.length_cons, List.length_nil, Nat.zero_add])
 have ag := TT.ofW ((hF8.trans ac).trans ae) af
 refine ⟨fun _ => ag, ?_⟩
 refine qaF [5] [(2, .p 0 0), (6, .v (.slice A n cp)), (10, .v (.agg #[.int .u32 k, .slice A9 x.length aa]))] 4 qaf (fun _ h => h.cells) ag ax fun aM ay => ?_
 refine qay (i := 6) kz (qbE af ay (e := 69) (size := 2) (len := 1) (cs := [.int .u32 k, .slice A9 x.length aa]) (d := 11) kz kz fun aF aN aO aG aH ah ab az => ?_)
 have aA := TT.ofW (((hF8.trans ac).trans ae).trans ah) ab
 refine ⟨fun _ => aA, ?_⟩
 refine qay (i := 7) kz (qaQ ab az (k := 0) (d := 12) (t := 35) (e := 69) (size := 2) (bytes := 32) (A := A) (As := (some ⟨aF, 0, none⟩)) (m0 := n) (c := cp) (m := 1) (cs := 1) (xs := xs) (news := [.int .u32 k, .slice A9 x.length aa]) kz kz rfl (qbD (ab.own 2 _ rfl) (qbJ kz)) (qbL (ab.own 2 _ rfl)) (by first | omega | (simp only [List.length_nil]; omega) | (simp; omega)) fun am ao aP aQ aB ai aC => ?_)
 have aj := TT.ofW ((((hF8.trans ac).trans ae).trans ah).trans aB) ai
 refine ⟨fun _ => aj, ?_⟩
 refine qaF [8] [(12, .v (.slice am (n + 1) ao)), (13, .p 0 4)] 1 qaf (fun _ h => h.cells) aj aC fun aR aD => ?_
 refine qay (i := 9) kz (qav ai aD (oi := 0) (cs := [x0, x1, x2, x3, .slice am (n + 1) ao]) kz fun aS aI ak aE => ?_)
 refine ⟨fun h => absurd rfl h, ?_⟩
 refine qaC kz ?_ _
 refine qbS aE ak.cells (v := .tuple #[]) kz ?_
 obtain ⟨al, aJ⟩ := ak.cutR 2 [⟨am, ao, 69, 2, n + 1, xs ++ [.int .u32 k, .slice A9 x.length aa]⟩, brow A9 aa 5 x]
 have hoo := qe4 (s := x) (Av := A9) (c := aa) (e8 := 5) rfl al (by omega)
 obtain ⟨hb1, hb2, hb3⟩ := tbox_of al (World.lt_of_cell (hbx.str.at_ 0 _ rfl))
 exact ⟨rfl, am, ao, A9, aa, hb1, hoo, hb2, hb3⟩
theorem qdu : qfO Tryz.prog 167 69 := by
 intro w B cp c n k A Av x x0 x1 x2 x3 xs G hbx ho hG hn
 refine enter (n := 14) Tryz.func167 rfl Tryz.ntmps167 kz fun a hE => ?_
 have hW := hbx.wok
 have hE0 := (hE.grow ⟨B, 0, [x0, x1, x2, x3, .slice A n cp], true⟩).recast 2 (.v (.pointer (some ⟨B, 0, none⟩))) (.p 0 0) rfl rfl (by simp [SV.ok])
 have hsm := Slots.small ho
 have ap := hE0.pk (env' := [(0, .v (.int .u32 k)), (1, .v (.slice Av x.length c)), (2, .p 0 0)])
 refine qcP 9 kz hW fun w1 hF2 hW3 hT4 => ?_
 refine qaF [0, 1, 2, 3] [(2, .p 0 0), (6, .v (.slice A n cp)), (7, .v (.int .u32 k)), (8, .v (.slice Av x.length c))] 6 qaf (fun _ h => h.cells) hT4 ap fun a5 hE6 => ?_
 have hW7 := hW3.addNil 5 1
 have hF8 := hW3.frNil 5 1
 refine qay (i := 4) kz (qaQ hW7 hE6 (k := 1) (d := 9) (t := 22) (e := 5) (size := 1) (bytes := 1) (A := none) (As := Av) (m0 := 0) (c := 0) (m := x.length) (cs := c) (xs := []) (news := bc x) kz kz rfl (ho.move hW7.step (fun b o h _ => hG b o h) qaX).src (ho.move hW7.step (fun b o h _ => hG b o h) qaX).cap (by first | omega | (simp only [List.length_nil]; omega) | (simp; omega)) fun A9 aa aK aL ac ar au => ?_)
 have av : (⟨A9, aa, 5, 1, 0 + x.length, [] ++ bc x⟩ : Rw) = brow A9 aa 5 x := by rw [List.nil_append, Nat.zero_add]
 obtain ⟨af, ae⟩ := ar.rowEq 1 [⟨A, cp, 69, 2, n, xs⟩, brow A9 aa 5 x] av
 have aw := EnvOk.pick au (ks := [2, 6, 7, 8, 9]) (env' := [(2, .p 0 0), (6, .v (.slice A n cp)), (7, .v (.int .u32 k)), (8, .v (.slice Av x.length c)), (9, .v (.slice A9 (0 + x.length) aa))]) kz
 have ax := aw.cast (env' := [(2, .p 0 0), (6, .v (.slice A n cp)), (7, .v (.int .u32 k)), (8, .v (.slice Av x.length c)), (9, .v (.slice A9 x.length aa))]) (by simp only [List.length_append, List.length_cons, List.length_nil, Nat.zero_add])
 have ag := TT.ofW ((hF8.trans ac).trans ae) af
 refine ⟨fun _ => ag, ?_⟩
 refine qaF [5] [(2, .p 0 0), (6, .v (.slice A n cp)), (10, .v (.agg #[.int .u32 k, .slice A9 x.length aa]))] 4 qaf (fun _ h => h.cells) ag ax fun aM ay => ?_
 refine qay (i := 6) kz (qbE af ay (e := 69) (size := 2) (len := 1) (cs := [.int .u32 k, .slice A9 x.length aa]) (d := 11) kz kz fun aF aN aO aG aH ah ab az => ?_)
 have aA := TT.ofW (((hF8.trans ac).trans ae).trans ah) ab
 refine ⟨fun _ => aA, ?_⟩
 refine qay (i := 7) kz (qaQ ab az (k := 0) (d := 12) (t := 35) (e := 69) (size := 2) (bytes := 32) (A := A) (As := (some ⟨aF, 0, none⟩)) (m0 := n) (c := cp) (m := 1) (cs := 1) (xs := xs) (news := [.int .u32 k, .slice A9 x.length aa]) kz kz rfl (qbD (ab.own 2 _ rfl) (qbJ kz)) (qbL (ab.own 2 _ rfl)) (by first | omega | (simp only [List.length_nil]; omega) | (simp; omega)) fun am ao aP aQ aB ai aC => ?_)
 have aj := TT.ofW ((((hF8.trans ac).trans ae).trans ah).trans aB) ai
 refine ⟨fun _ => aj, ?_⟩
 refine qaF [8] [(12, .v (.slice am (n + 1) ao)), (13, .p 0 4)] 1 qaf (fun _ h => h.cells) aj aC fun aR aD => ?_
 refine qay (i := 9) kz (qav ai aD (oi := 0) (cs := [x0, x1, x2, x3, .slice am (n + 1) ao]) kz fun aS aI ak aE => ?_)
 refine ⟨fun h => absurd rfl h, ?_⟩
 refine qaC kz ?_ _
 refine qbS aE ak.cells (v := .tuple #[]) kz ?_
 obtain ⟨al, aJ⟩ := ak.cutR 2 [⟨am, ao, 69, 2, n + 1, xs ++ [.int .u32 k, .slice A9 x.length aa]⟩, brow A9 aa 5 x]
 have hoo := qe4 (s := x) (Av := A9) (c := aa) (e8 := 5) rfl al (by omega)
 obtain ⟨hb1, hb2, hb3⟩ := tbox_of al (World.lt_of_cell (hbx.str.at_ 0 _ rfl))
 exact ⟨rfl, am, ao, A9, aa, hb1, hoo, hb2, hb3⟩
theorem qct : qfO Tryz.prog 217 69 := by
 intro w B cp c n k A Av x x0 x1 x2 x3 xs G hbx ho hG hn
 refine enter (n := 14) Tryz.func217 rfl Tryz.ntmps217 kz fun a hE => ?_
 have hW := hbx.wok
 have hE0 := (hE.grow ⟨B, 0, [x0, x1, x2, x3, .slice A n cp], true⟩).recast 2 (.v (.pointer (some ⟨B, 0, none⟩))) (.p 0 0) rfl rfl (by simp [SV.ok])
 have hsm := Slots.small ho
 have ap := hE0.pk (env' := [(0, .v (.int .u32 k)), (1, .v (.slice Av x.length c)), (2, .p 0 0)])
 refine qcP 9 kz hW fun w1 hF2 hW3 hT4 => ?_
 refine qaF [0, 1, 2, 3] [(2, .p 0 0), (6, .v (.slice A n cp)), (7, .v (.int .u32 k)), (8, .v (.slice Av x.length c))] 6 qaf (fun _ h => h.cells) hT4 ap fun a5 hE6 => ?_
 have hW7 := hW3.addNil 5 1
 have hF8 := hW3.frNil 5 1
 refine qay (i := 4) kz (qaQ hW7 hE6 (k := 1) (d := 9) (t := 22) (e := 5) (size := 1) (bytes := 1) (A := none) (As := Av) (m0 := 0) (c := 0) (m := x.length) (cs := c) (xs := []) (news := bc x) kz kz rfl (ho.move hW7.step (fun b o h _ => hG b o h) qaX).src (ho.move hW7.step (fun b o h _ => hG b o h) qaX).cap (by first | omega | (simp only [List.length_nil]; omega) | (simp; omega)) fun A9 aa aK aL ac ar au => ?_)
 have av : (⟨A9, aa, 5, 1, 0 + x.length, [] ++ bc x⟩ : Rw) = brow A9 aa 5 x := by rw [List.nil_append, Nat.zero_add]
 obtain ⟨af, ae⟩ := ar.rowEq 1 [⟨A, cp, 69, 2, n, xs⟩, brow A9 aa 5 x] av
 have aw := EnvOk.pick au (ks := [2, 6, 7, 8, 9]) (env' := [(2, .p 0 0), (6, .v (.slice A n cp)), (7, .v (.int .u32 k)), (8, .v (.slice Av x.length c)), (9, .v (.slice A9 (0 + x.length) aa))]) kz
 have ax := aw.cast (env' := [(2, .p 0 0), (6, .v (.slice A n cp)), (7, .v (.int .u32 k)), (8, .v (.slice Av x.length c)), (9, .v (.slice A9 x.length aa))]) (by simp only [List.length_append, List.length_cons, List.length_nil, Nat.zero_add])
 have ag := TT.ofW ((hF8.trans ac).trans ae) af
 refine ⟨fun _ => ag, ?_⟩
 refine qaF [5] [(2, .p 0 0), (6, .v (.slice A n cp)), (10, .v (.agg #[.int .u32 k, .slice A9 x.length aa]))] 4 qaf (fun _ h => h.cells) ag ax fun aM ay => ?_
 refine qay (i := 6) kz (qbE af ay (e := 69) (size := 2) (len := 1) (cs := [.int .u32 k, .slice A9 x.length aa]) (d := 11) kz kz fun aF aN aO aG aH ah ab az => ?_)
 have aA := TT.ofW (((hF8.trans ac).trans ae).trans ah) ab
 refine ⟨fun _ => aA, ?_⟩
 refine qay (i := 7) kz (qaQ ab az (k := 0) (d := 12) (t := 35) (e := 69) (size := 2) (bytes := 32) (A := A) (As := (some ⟨aF, 0, none⟩)) (m0 := n) (c := cp) (m := 1) (cs := 1) (xs := xs) (news := [.int .u32 k, .slice A9 x.length aa]) kz kz rfl (qbD (ab.own 2 _ rfl) (qbJ kz)) (qbL (ab.own 2 _ rfl)) (by first | omega | (simp only [List.length_nil]; omega) | (simp; omega)) fun am ao aP aQ aB ai aC => ?_)
 have aj := TT.ofW ((((hF8.trans ac).trans ae).trans ah).trans aB) ai
 refine ⟨fun _ => aj, ?_⟩
 refine qaF [8] [(12, .v (.slice am (n + 1) ao)), (13, .p 0 4)] 1 qaf (fun _ h => h.cells) aj aC fun aR aD => ?_
 refine qay (i := 9) kz (qav ai aD (oi := 0) (cs := [x0, x1, x2, x3, .slice am (n + 1) ao]) kz fun aS aI ak aE => ?_)
 refine ⟨fun h => absurd rfl h, ?_⟩
 refine qaC kz ?_ _
 refine qbS aE ak.cells (v := .tuple #[]) kz ?_
 obtain ⟨al, aJ⟩ := ak.cutR 2 [⟨am, ao, 69, 2, n + 1, xs ++ [.int .u32 k, .slice A9 x.length aa]⟩, brow A9 aa 5 x]
 have hoo := qe4 (s := x) (Av := A9) (c := aa) (e8 := 5) rfl al (by omega)
 obtain ⟨hb1, hb2, hb3⟩ := tbox_of al (World.lt_of_cell (hbx.str.at_ 0 _ rfl))
 exact ⟨rfl, am, ao, A9, aa, hb1, hoo, hb2, hb3⟩
end Go.Proofs.YtgolpmkenmedoaaGreatDoor.ME
namespace Go.Proofs.YtgolpmkenmedoaaGreatDoor.ME
open Go
open Go.RowKit
set_option linter.unusedVariables false
set_option linter.unusedSimpArgs false
theorem n8w (x : Int) : IntKind.i8.wrap x = (x + 128) % 256 - 128 := by simp [IntKind.wrap, IntKind.signed, IntKind.bits]; omega
theorem n16w (x : Int) : IntKind.i16.wrap x = (x + 32768) % 65536 - 32768 := by simp [IntKind.wrap, IntKind.signed, IntKind.bits]; omega
theorem n32w (x : Int) : IntKind.i32.wrap x = (x + 2147483648) % 4294967296 - 2147483648 := by simp [IntKind.wrap, IntKind.signed, IntKind.bits]; omega
theorem n64w (x : Int) : IntKind.i64.wrap x = (x + 9223372036854775808) % 18446744073709551616 - 9223372036854775808 := by simp [IntKind.wrap, IntKind.signed, IntKind.bits]; omega
theorem qe9 (x : Int) : IntKind.i64.wrap (IntKind.i8.wrap x) = IntKind.i8.wrap x := by rw [n64w, n8w]; omega
theorem qfq (x : Int) : IntKind.i64.wrap (IntKind.i16.wrap x) = IntKind.i16.wrap x := by rw [n64w, n16w]; omega
theorem qfr (x : Int) : IntKind.i64.wrap (IntKind.i32.wrap x) = IntKind.i32.wrap x := by rw [n64w, n32w]; omega
theorem qeu (x : Int) : IntKind.i64.wrap (IntKind.u16.wrap x) = IntKind.u16.wrap x := by rw [n64w, qbn]; omega
def qbi (k n : Int) : Int := if k = 0 then n % 2 else if k = 1 then IntKind.i8.wrap n else if k = 2 then IntKind.i16.wrap n else if k = 3 then IntKind.i32.wrap n else if k = 5 then IntKind.u16.wrap n else n
structure UsQ (U : List Fld → Tree → Prop) (k x1 x2 x3 x4 x5 x6 : Int) (sub : List Fld) (n : Int) (s : Bs) (b : Bool) (l : List Tree) (u : List (Int × Bs)) : Prop where
 text : k = 8 → b = decide (x3 ≥ 0) ∧ s = []
 uuid : k = 7 → s = List.replicate 16 0
 octs : k = 9 ∨ k = 11 → s = [] ∧ l = []
 part : k = 10 → (x3 ≥ 0 → b = true) ∧ (x3 < 0 → U sub (.mk n s b l u))
 num : k ≠ 7 → k ≠ 8 → k ≠ 9 → k ≠ 10 → k ≠ 11 → n = qbi k x5
def UsF (U : List Fld → Tree → Prop) : Fld → Tree → Prop
 | .mk k x1 x2 x3 x4 x5 x6 sub, .mk n s b l u => UsQ U k x1 x2 x3 x4 x5 x6 sub n s b l u
def UsP (U : List Fld → Tree → Prop) (l : List Fld) (g : Tree) : Prop := g.U = [] ∧ ∀ (i : Nat) (f : Fld), l[i]? = some f → UsF U f (g.at_ i)
def UsualP : Nat → List Fld → Tree → Prop
 | 0 => UsP fun _ _ => False
 | d + 1 => UsP (UsualP d)
structure ToQ (T : List Fld → Tree → Tree → Prop) (v : Int) (f : Fld) (k x3 : Int) (sub : List Fld) (t : Tree) (tn : Int) (ts : Bs) (n : Int) (s : Bs) (b : Bool) (g : Tree) : Prop where
 null : k = 8 ∨ k = 10 ∨ (x3 ≥ 0 ∧ v ≥ x3) → b = f.nul v t
 text : f.nul v t = false → k = 8 ∨ k = 9 → s = qaB ts
 uuid : f.nul v t = false → k = 7 → s = qbd ts
 part : f.nul v t = false → k = 10 → T sub t g
 num : f.nul v t = false → k ≠ 7 → k ≠ 8 → k ≠ 9 → k ≠ 10 → k ≠ 11 → n = qbi k tn
def ToF0 (T : List Fld → Tree → Tree → Prop) (v : Int) : Fld → Tree → Tree → Prop
 | .mk k x1 x2 x3 x4 x5 x6 sub, .mk tn ts tb tl tu, .mk n s b l u => ToQ T v (.mk k x1 x2 x3 x4 x5 x6 sub) k x3 sub (.mk tn ts tb tl tu) tn ts n s b (.mk n s b l u)
def ToF (T : List Fld → Tree → Tree → Prop) (v : Int) (f : Fld) (t g : Tree) : Prop :=
 ToF0 T v f t g ∧ (f.kind = 11 → f.nul v t = false → g.L.length = (qak t.L).length ∧ ∀ (i : Nat) (x y : Tree), (qak t.L)[i]? = some x → g.L[i]? = some y → ToF0 T v f.elem x y)
def Fld.pres (f : Fld) (v : Int) (flex : Bool) (x : Tree) : Bool := (decide (f.tag < 0) && f.has v) || (decide (f.tag ≥ 0) && (flex && !f.usual x))
def ToP (T : List Fld → Tree → Tree → Prop) (U : List Fld → Tree → Prop) (l : List Fld) (v : Int) (flex : Bool) (t g : Tree) : Prop :=
 g.L.length = l.length ∧ (∀ (i : Nat) (f : Fld) (y : Tree), l[i]? = some f → g.L[i]? = some y → (f.pres v flex (t.at_ i) = true → ToF T v f (t.at_ i) y) ∧ (f.pres v flex (t.at_ i) = false → UsF U f y)) ∧
  g.U = (if flex = true then qb7 (qag l t.U) else [])
def ToldP (v : Int) (flex : Bool) : Nat → List Fld → Tree → Tree → Prop
 | 0 => fun l t g => ToP (fun _ _ _ => False) (fun _ _ => False) l v flex t g
 | d + 1 => fun l t g => ToP (ToldP v flex d) (UsualP d) l v flex t g
theorem us_one {U : List Fld → Tree → Prop} {f : Fld} {y : Tree} (h : UsF U f y) : UsP U [f] (.mk 0 [] false [y] []) := by
 refine ⟨rfl, fun i g hg => ?_⟩
 cases i with
 | zero =>
  simp only [List.getElem?_cons_zero, Option.some.injEq] at hg
  subst hg
  exact h
 | succ i => simp at hg
theorem octs_zero {w : World} {e : Nat} {A : Option Addr} {c : Nat} {F : Nat → Nat → Prop} (h : w.ownsRow 0 e 1 (.slice A 16 c) 16 (List.replicate 16 (.int .u8 0))) (hF : ∀ g, A.map (·.block) = some g → ∀ o, F g o) : Octs w F A c (List.replicate 16 0) :=
 qbY (s := List.replicate 16 0) h (by decide) hF
section
variable {U : List Fld → Tree → Prop} {k x1 x2 x3 x4 x5 x6 n : Int} {sub : List Fld} {s : Bs} {b : Bool} {l : List Tree} {u : List (Int × Bs)}
abbrev UsH (U : List Fld → Tree → Prop) (k x1 x2 x3 x4 x5 x6 : Int) (sub : List Fld) (n : Int) (s : Bs) (b : Bool) (l : List Tree) (u : List (Int × Bs)) : Prop := UsF U (.mk k x1 x2 x3 x4 x5 x6 sub) (.mk n s b l u)
theorem us_q (h : UsH U k x1 x2 x3 x4 x5 x6 sub n s b l u) : UsQ U k x1 x2 x3 x4 x5 x6 sub n s b l u := h
theorem qfP (h : UsH U k x1 x2 x3 x4 x5 x6 sub n s b l u) (hk : k = 8) (hc : (b != decide (x3 ≥ 0)) = true) : False := by
 have := ((us_q h).text hk).1
 rw [this] at hc; simp at hc
theorem qfQ (h : UsH U k x1 x2 x3 x4 x5 x6 sub n s b l u) (hk : k = 8) (hc : ((s.length : Nat) : Int) > 0) : False := by
 have := ((us_q h).text hk).2
 rw [this] at hc; simp at hc
theorem us_7 (h : UsH U k x1 x2 x3 x4 x5 x6 sub n s b l u) (hk : k = 7) (hc : (!decide (s = (List.replicate 16 0 : Bs))) = true) : False := by
 have := (us_q h).uuid hk
 rw [this] at hc; simp at hc
theorem qfR (h : UsH U k x1 x2 x3 x4 x5 x6 sub n s b l u) (hk : k = 9) (hc : ((s.length : Nat) : Int) > 0) : False := by
 have := ((us_q h).octs (.inl hk)).1
 rw [this] at hc; simp at hc
theorem qfS (h : UsH U k x1 x2 x3 x4 x5 x6 sub n s b l u) (hk : k = 9) (hc : ((l.length : Nat) : Int) > 0) : False := by
 have := ((us_q h).octs (.inl hk)).2
 rw [this] at hc; simp at hc
theorem qeb (h : UsH U k x1 x2 x3 x4 x5 x6 sub n s b l u) (hk : k = 11) (hc : ((s.length : Nat) : Int) > 0) : False := by
 have := ((us_q h).octs (.inr hk)).1
 rw [this] at hc; simp at hc
theorem qec (h : UsH U k x1 x2 x3 x4 x5 x6 sub n s b l u) (hk : k = 11) (hc : ((l.length : Nat) : Int) > 0) : False := by
 have := ((us_q h).octs (.inr hk)).2
 rw [this] at hc; simp at hc
theorem qfT (h : UsH U k x1 x2 x3 x4 x5 x6 sub n s b l u) (hk : k = 10) (h3 : x3 ≥ 0) (hc : (!b) = true) : False := by
 have := ((us_q h).part hk).1 h3
 rw [this] at hc; simp at hc
theorem us_sub (h : UsH U k x1 x2 x3 x4 x5 x6 sub n s b l u) (hk : k = 10) (h3 : x3 < 0) : U sub (.mk n s b l u) := ((us_q h).part hk).2 h3
theorem us_n (h : UsH U k x1 x2 x3 x4 x5 x6 sub n s b l u) (h7 : k ≠ 7) (h8 : k ≠ 8) (h9 : k ≠ 9) (h10 : k ≠ 10) (h11 : k ≠ 11) (hc : n ≠ qbi k x5) : False := hc ((us_q h).num h7 h8 h9 h10 h11)
theorem us_u {g : Tree} (h : g.U = []) {u : List (Int × Bs)} (e : g.U = u) (hc : ((u.length : Nat) : Int) > 0) : False := by
 rw [← e, h] at hc; simp at hc
end
section
variable {T : List Fld → Tree → Tree → Prop} {v k x1 x2 x3 x4 x5 x6 tn n : Int} {sub : List Fld} {ts s : Bs} {tb b : Bool} {tl l : List Tree} {tu u : List (Int × Bs)}
abbrev ToH (T : List Fld → Tree → Tree → Prop) (v k x1 x2 x3 x4 x5 x6 : Int) (sub : List Fld) (tn : Int) (ts : Bs) (tb : Bool) (tl : List Tree) (tu : List (Int × Bs)) (n : Int) (s : Bs) (b : Bool) (l : List Tree) (u : List (Int × Bs)) : Prop := ToF0 T v (.mk k x1 x2 x3 x4 x5 x6 sub) (.mk tn ts tb tl tu) (.mk n s b l u)
abbrev NulH (v k x1 x2 x3 x4 x5 x6 : Int) (sub : List Fld) (tn : Int) (ts : Bs) (tb : Bool) (tl : List Tree) (tu : List (Int × Bs)) : Bool := Fld.nul (.mk k x1 x2 x3 x4 x5 x6 sub) v (.mk tn ts tb tl tu)
theorem to_q (h : ToH T v k x1 x2 x3 x4 x5 x6 sub tn ts tb tl tu n s b l u) : ToQ T v (.mk k x1 x2 x3 x4 x5 x6 sub) k x3 sub (.mk tn ts tb tl tu) tn ts n s b (.mk n s b l u) := h
theorem to_n8 (h : ToH T v k x1 x2 x3 x4 x5 x6 sub tn ts tb tl tu n s b l u) (hk : k = 8) (hc : (b != NulH v k x1 x2 x3 x4 x5 x6 sub tn ts tb tl tu) = true) : False := by
 rw [(to_q h).null (.inl hk)] at hc; simp at hc
theorem qgw (h : ToH T v k x1 x2 x3 x4 x5 x6 sub tn ts tb tl tu n s b l u) (hk : k = 10) (hc : (b != NulH v k x1 x2 x3 x4 x5 x6 sub tn ts tb tl tu) = true) : False := by
 rw [(to_q h).null (.inr (.inl hk))] at hc; simp at hc
theorem qfU (h : ToH T v k x1 x2 x3 x4 x5 x6 sub tn ts tb tl tu n s b l u) (h1 : x3 ≥ 0) (h2 : v ≥ x3) (hc : (b != NulH v k x1 x2 x3 x4 x5 x6 sub tn ts tb tl tu) = true) : False := by
 rw [(to_q h).null (.inr (.inr ⟨h1, h2⟩))] at hc; simp at hc
theorem to_part (h : ToH T v k x1 x2 x3 x4 x5 x6 sub tn ts tb tl tu n s b l u) (hn : NulH v k x1 x2 x3 x4 x5 x6 sub tn ts tb tl tu = false) (hk : k = 10) : T sub (.mk tn ts tb tl tu) (.mk n s b l u) := (to_q h).part hn hk
theorem qdP (h : ToH T v k x1 x2 x3 x4 x5 x6 sub tn ts tb tl tu n s b l u) (hn : NulH v k x1 x2 x3 x4 x5 x6 sub tn ts tb tl tu = false) (hk : k = 8) : decide (s = qaB ts) = true := decide_eq_true ((to_q h).text hn (.inl hk))
theorem qdQ (h : ToH T v k x1 x2 x3 x4 x5 x6 sub tn ts tb tl tu n s b l u) (hn : NulH v k x1 x2 x3 x4 x5 x6 sub tn ts tb tl tu = false) (hk : k = 9) : decide (s = qaB ts) = true := decide_eq_true ((to_q h).text hn (.inr hk))
theorem to_u (h : ToH T v k x1 x2 x3 x4 x5 x6 sub tn ts tb tl tu n s b l u) (hn : NulH v k x1 x2 x3 x4 x5 x6 sub tn ts tb tl tu = false) (hk : k = 7) : decide (s = qbd ts) = true := decide_eq_true ((to_q h).uuid hn hk)
theorem to_m (h : ToH T v k x1 x2 x3 x4 x5 x6 sub tn ts tb tl tu n s b l u) (hn : NulH v k x1 x2 x3 x4 x5 x6 sub tn ts tb tl tu = false) (h8 : k ≠ 8) (h9 : k ≠ 9) (h7 : k ≠ 7) (h10 : k ≠ 10) (h11 : k ≠ 11) : (n == qbi k tn) = true := by
 rw [(to_q h).num hn h7 h8 h9 h10 h11]; simp
theorem to_len {a c : Nat} (h : a = c) (hc : ((a : Nat) : Int) ≠ ((c : Nat) : Int)) : False := hc (by rw [h])
end
theorem qfV {P : Program} {ops : Array Oper} {Q : Exit → Act → World → Prop} {a : Act} {w : World} {T : World → Prop} {c i j fuel : Nat} {listed : Array Bool} (hr : Region.ready .any ops listed = [i, j]) (h : wpOp P ops Q i (fun a' w' => (i ≠ c → T w') ∧ qbw P ops Q T c fuel (listed.setIfInBounds i true) a' w') a w)
  (h' : wpOp P ops Q j (fun a' w' => (j ≠ c → T w') ∧ qbw P ops Q T c fuel (listed.setIfInBounds j true) a' w') a w) : qbw P ops Q T c (fuel + 1) listed a w := by
 refine ⟨fun h0 => (by rw [hr] at h0; cases h0), fun q hq => ?_⟩
 rw [hr] at hq
 simp only [List.mem_cons, List.not_mem_nil, or_false] at hq
 rcases hq with rfl | rfl
 ·exact h
 ·exact h'
theorem pres_a {k x1 x2 x3 x4 x5 x6 v : Int} {sub : List Fld} {flex : Bool} {x : Tree} (h : x4 < 0) (h2 : Fld.has (.mk k x1 x2 x3 x4 x5 x6 sub) v = true) : Fld.pres (.mk k x1 x2 x3 x4 x5 x6 sub) v flex x = true := by
 simp [Fld.pres, Fld.tag, h, h2]
theorem pres_b {k x1 x2 x3 x4 x5 x6 v : Int} {sub : List Fld} {flex : Bool} {x : Tree} (h : x4 ≥ 0) (h2 : flex = true) (h3 : (!Fld.usual (.mk k x1 x2 x3 x4 x5 x6 sub) x) = true) : Fld.pres (.mk k x1 x2 x3 x4 x5 x6 sub) v flex x = true := by
 subst h2
 simp only [Bool.not_eq_true'] at h3
 simp [Fld.pres, Fld.tag, h, h3]
theorem pres_c {k x1 x2 x3 x4 x5 x6 v : Int} {sub : List Fld} {flex : Bool} {x : Tree} (h : x4 < 0) (h2 : Fld.has (.mk k x1 x2 x3 x4 x5 x6 sub) v = false) : Fld.pres (.mk k x1 x2 x3 x4 x5 x6 sub) v flex x = false := by
 have : ¬ x4 ≥ 0 := by omega
 simp [Fld.pres, Fld.tag, h2, this]
theorem pres_d {k x1 x2 x3 x4 x5 x6 v : Int} {sub : List Fld} {flex : Bool} {x : Tree} (h : ¬ x4 < 0) (h2 : flex = false) : Fld.pres (.mk k x1 x2 x3 x4 x5 x6 sub) v flex x = false := by
 subst h2
 simp [Fld.pres, Fld.tag, h]
theorem pres_e {k x1 x2 x3 x4 x5 x6 v : Int} {sub : List Fld} {flex : Bool} {x : Tree} (h : ¬ x4 < 0) (h3 : (!Fld.usual (.mk k x1 x2 x3 x4 x5 x6 sub) x) = false) : Fld.pres (.mk k x1 x2 x3 x4 x5 x6 sub) v flex x = false := by
 simp only [Bool.not_eq_false'] at h3
 simp [Fld.pres, Fld.tag, h, h3]
theorem pres_f {k x1 x2 x3 x4 x5 x6 v : Int} {sub : List Fld} {flex : Bool} {x : Tree} (h : ¬ x4 < 0) (h2 : flex = true) : Fld.pres (.mk k x1 x2 x3 x4 x5 x6 sub) v flex x = !Fld.usual (.mk k x1 x2 x3 x4 x5 x6 sub) x := by
 subst h2
 have : x4 ≥ 0 := by omega
 simp [Fld.pres, Fld.tag, h, this]
theorem pres_g {k x1 x2 x3 x4 x5 x6 v : Int} {sub : List Fld} {flex : Bool} {x : Tree} (h : x4 < 0) : Fld.pres (.mk k x1 x2 x3 x4 x5 x6 sub) v flex x = Fld.has (.mk k x1 x2 x3 x4 x5 x6 sub) v := by
 have : ¬ x4 ≥ 0 := by omega
 simp [Fld.pres, Fld.tag, h, this]
section
variable {w : World} {F : Nat → Nat → Prop}
theorem at_own {e size b c : Nat} {xs : List Value} {n : Nat} (h : w.ownsRow 0 e size (.slice (some ⟨b, 0, none⟩) n c) n xs) : AtF w (fun _ _ => True) b 0 xs := fun j v hj => ⟨trivial, by
 have := h.cells (g := b) rfl j v hj
 rw [qbv] at this
 exact this⟩
theorem flds_one {e b c : Nat} {cf : List Value} {f : Fld} (h : w.ownsRow 0 e 8 (.slice (some ⟨b, 0, none⟩) 1 c) 1 cf) (hf : FldR w F cf f) (hc : 1 ≤ c) : FldsR w (fun _ _ => True) (some ⟨b, 0, none⟩) c [f] := by
 refine ⟨fun _ => cf, ⟨hc, (by show 1 ≤ 1099511627776; decide), fun h => (by cases h), fun ad hA _ => ?_⟩, fun i x hx => ?_⟩
 ·obtain rfl := Option.some.inj hA
  refine ⟨b, 0, rfl, fun i hi => ⟨hf.eight, ?_⟩⟩
  have : i = 0 := by simp at hi; omega
  subst this
  simpa using at_own h
 ·cases i with
  | zero =>
   simp only [List.getElem?_cons_zero, Option.some.injEq] at hx
   subst hx
   exact hf.move (Step.refl _ Nil) nilM fun _ _ _ _ => trivial
  | succ i => simp at hx
theorem tree_one {e b c : Nat} {cy : List Value} {y : Tree} (h : w.ownsRow 0 e 5 (.slice (some ⟨b, 0, none⟩) 1 c) 1 cy) (hy : TreeR w F cy y) (hc : 1 ≤ c) : TreeR w (fun _ _ => True) [.int .i64 0, .slice none 0 0, .bool false, .slice (some ⟨b, 0, none⟩) 1 c, .slice none 0 0] (.mk 0 [] false [y] []) := by
 refine TreeR.mk (l := [y]) (s := []) (u := []) (fun _ => cy) (Octs.nil _ _) ⟨hc, (by show 1 ≤ 1099511627776; decide), fun h => (by cases h), fun ad hA _ => ?_⟩ (fun i x hx => ?_) (TagsR.nil _ _)
 ·obtain rfl := Option.some.inj hA
  refine ⟨b, 0, rfl, fun i hi => ⟨hy.five, ?_⟩⟩
  have : i = 0 := by simp at hi; omega
  subst this
  simpa using at_own h
 ·cases i with
  | zero =>
   simp only [List.getElem?_cons_zero, Option.some.injEq] at hx
   subst hx
   exact hy.move (Step.refl _ Nil) nilM fun _ _ _ _ => trivial
  | succ i => simp at hx
end
section
variable {gu tu : List (Int × Bs)} {l : List Fld} {flex : Bool} {i : Nat} {k k' : Int} {s s' : Bs}
theorem qed (h : gu = if flex = true then qb7 (qag l tu) else []) (hf : (!flex) = false) (hc : ((gu.length : Nat) : Int) ≠ (((qag l tu).length : Nat) : Int)) : False := by
 cases flex
 ·cases hf
 ·rw [if_pos rfl] at h
  rw [h, qcJ] at hc
  exact hc rfl
theorem qda (h : gu = if flex = true then qb7 (qag l tu) else []) (hf : (!flex) = true) (hc : ((gu.length : Nat) : Int) ≠ 0) : False := by
 cases flex
 ·rw [if_neg (by decide)] at h
  rw [h] at hc
  exact hc rfl
 ·cases hf
theorem told_at (h : gu = if flex = true then qb7 (qag l tu) else []) (hf : (!flex) = false) (hu : (qag l tu)[i]? = some (k, s)) (hg : gu[i]? = some (k', s')) : k' = k ∧ s' = qaB s := by
 cases flex
 ·cases hf
 ·rw [if_pos rfl] at h
  rw [h, wholeU_get hu] at hg
  have := Option.some.inj hg
  exact ⟨(Prod.mk.injEq .. ▸ this).1.symm, (Prod.mk.injEq .. ▸ this).2.symm⟩
theorem qee (h : gu = if flex = true then qb7 (qag l tu) else []) (hf : (!flex) = false) (hu : (qag l tu)[i]? = some (k, s)) (hg : gu[i]? = some (k', s')) (hc : k' ≠ k) : False := hc (told_at h hf hu hg).1
theorem qef (h : gu = if flex = true then qb7 (qag l tu) else []) (hf : (!flex) = false) (hu : (qag l tu)[i]? = some (k, s)) (hg : gu[i]? = some (k', s')) (hc : (!decide (s' = qaB s)) = true) : False := by
 rw [(told_at h hf hu hg).2] at hc; simp at hc
theorem qb6 (h : gu = if flex = true then qb7 (qag l tu) else []) (hf : (!flex) = false) : gu.length = (qag l tu).length := by
 cases flex
 ·cases hf
 ·rw [if_pos rfl] at h
  rw [h, qcJ]
end
end Go.Proofs.YtgolpmkenmedoaaGreatDoor.ME
namespace Go.Proofs.YtgolpmkenmedoaaGreatDoor.ME
open Go
open Go.RowKit
set_option linter.unusedVariables false
set_option linter.unusedSimpArgs false
set_option maxRecDepth 20000
def qaU (D : DV) : Tree := .mk 0 [] false [.mk (IntKind.i64.wrap (D.f 0).n) [] false [] [], qe8 (D.f 1).A (D.f 1).s, .mk (IntKind.i64.wrap (D.f 2).n) [] false [] [], qe8 (D.f 3).A (D.f 3).s, qe8 (D.f 4).A (D.f 4).s, .mk (IntKind.i64.wrap (D.f 5).n) [] false [] [], .mk (IntKind.i64.wrap (D.f 6).n) [] false [] []] D.u
def qbc (D : DV) : Tree := .mk 0 [] false [.mk 0 [] (D.f 0).A.isNone ((List.range (D.f 0).l).map fun i => qaU ((D.f 0).f i)) []] D.u
set_option maxHeartbeats 4000000 in
theorem qbt (v : Int) (D : DV) (b o : Nat) (w : World) (F : Nat → Nat → Prop) (hat : AtF w F b o [.int .i8 ((D.f 0).n), .pointer ((D.f 1).A), .int .i8 ((D.f 2).n), .pointer ((D.f 3).A), .pointer ((D.f 4).A), .int .i8 ((D.f 5).n), .int .i8 ((D.f 6).n), .map D.m]) (hok : qaT w F D) : Calls Tryz.prog 166 #[.pointer (some ⟨b, o, none⟩)] w (qdZ w F (qaU D)) := by
 refine enter (n := 75) Tryz.func166 rfl Tryz.ntmps166 kz fun a hE => ?_
 have hW : WOk w Nil w [⟨b, o, [.int .i8 ((D.f 0).n), .pointer ((D.f 1).A), .int .i8 ((D.f 2).n), .pointer ((D.f 3).A), .pointer ((D.f 4).A), .int .i8 ((D.f 5).n), .int .i8 ((D.f 6).n), .map D.m], false⟩] [] := (WOk.start w Nil).start1 hat rfl rfl
 unfold qaT at hok
 obtain ⟨g1, ⟨g2, g2l⟩, g3, ⟨g4, g4l⟩, ⟨g5, g5l⟩, g6, g7, g8, g8l, g8x, _⟩ := hok
 have hE0 := (EnvOk.ptr0 (cs := [.int .i8 ((D.f 0).n), .pointer ((D.f 1).A), .int .i8 ((D.f 2).n), .pointer ((D.f 3).A), .pointer ((D.f 4).A), .int .i8 ((D.f 5).n), .int .i8 ((D.f 6).n), .map D.m]) (r := false) hE).pk (env' := [(0, .p 0 0)])
 refine qad [0] kz ?_
 refine qaj (qaK hW hE0 (d := 2) (cs := [.int .i64 0, .slice none 0 0, .bool false, .slice none 0 0, .slice none 0 0]) kz fun b9 fk fm ea eb ec dh di => ?_)
 refine qae (qab ?_)
 refine qad [0, 1, 2, 3] kz ?_
 refine qaj (qfp (t := 34) (e := 37) (size := 5) (bytes := 88) (d := 4) (j := 7) (.agg #[.int .i64 0, .slice none 0 0, .bool false, .slice none 0 0, .slice none 0 0]) [.int .i64 0, .slice none 0 0, .bool false, .slice none 0 0, .slice none 0 0, .int .i64 0, .slice none 0 0, .bool false, .slice none 0 0, .slice none 0 0, .int .i64 0, .slice none 0 0, .bool false, .slice none 0 0, .slice none 0 0, .int .i64 0, .slice none 0 0, .bool false, .slice none 0 0, .slice none 0 0, .int .i64 0, .slice none 0 0, .bool false, .slice none 0 0, .slice none 0 0, .int .i64 0, .slice none 0 0, .bool false, .slice none 0 0, .slice none 0 0, .int .i64 0, .slice none 0 0, .bool false, .slice none 0 0, .slice none 0 0] dh di fun aa fo fq ee ef eg bO dj => ?_)
 refine qah [1] [2, 3] [(0, .p 0 0), (2, .p 1 0), (5, .v (.agg #[.int .i64 0, .slice none 0 0, .bool false, .slice (some ⟨aa, 0, none⟩) 7 7, .slice none 0 0]))] bO dj fun fr dl => ?_
 refine qaj (qaK bO dl (d := 3) (cs := [.int .i64 0, .slice none 0 0, .bool false, .slice none 0 0, .slice none 0 0]) kz fun aY ft fu eh ei ej dp dq => ?_)
 refine qaj (qav dp dq (oi := 3) (cs := [.int .i64 0, .slice none 0 0, .bool false, .slice (some ⟨aa, 0, none⟩) 7 7, .slice none 0 0]) kz fun fv ek dr dt => ?_)
 refine qae (qab ?_)
 refine qaE 9 kz dr fun fw em du bP => ?_
 refine qaF [0, 1, 2, 3, 4, 5, 6, 7] [(0, .p 0 0), (2, .p 1 0), (3, .p 3 0), (7, .v (.slice (some ⟨aa, 0, none⟩) 7 7)), (13, .v (.agg #[.int .i64 (IntKind.i64.wrap ((D.f 0).n)), .slice none 0 0, .bool false, .slice none 0 0, .slice none 0 0]))] 2 (qaa qaf) (fun _ h => h.cells) bP dt fun fx dv => ?_
 refine qaL dv (i := 8) (t := 34) (A := (some ⟨aa, 0, none⟩)) (m := 7) (q := 0) (d := 14) kz (e := 37) (size := 5) (bytes := 88) (j := 0) kz (b := aa) (o := 0) rfl rfl (by decide) kz kz (qaa qaf) bP fun fy dw => ?_
 have dx := dw.recast 14 (.v (.pointer (some ⟨aa, 0 + 0 * 5, none⟩))) (.p 2 0) rfl rfl (Nat.le_of_ble_eq_true (n := 3) rfl)
 have dy := dx.pk (env' := [(0, .p 0 0), (2, .p 1 0), (3, .p 3 0), (7, .v (.slice (some ⟨aa, 0, none⟩) 7 7)), (13, .v (.agg #[.int .i64 (IntKind.i64.wrap ((D.f 0).n)), .slice none 0 0, .bool false, .slice none 0 0, .slice none 0 0])), (14, .p 2 0)])
 refine qay (i := 9) kz (qav du dy (oi := 2) (cs := [.int .i64 (IntKind.i64.wrap ((D.f 0).n)), .slice none 0 0, .bool false, .slice none 0 0, .slice none 0 0, .int .i64 0, .slice none 0 0, .bool false, .slice none 0 0, .slice none 0 0, .int .i64 0, .slice none 0 0, .bool false, .slice none 0 0, .slice none 0 0, .int .i64 0, .slice none 0 0, .bool false, .slice none 0 0, .slice none 0 0, .int .i64 0, .slice none 0 0, .bool false, .slice none 0 0, .slice none 0 0, .int .i64 0, .slice none 0 0, .bool false, .slice none 0 0, .slice none 0 0, .int .i64 0, .slice none 0 0, .bool false, .slice none 0 0, .slice none 0 0]) kz fun fz eo dz dA => ?_)
 refine ⟨fun h => absurd rfl h, ?_⟩
 refine qaC kz ?_ _
 refine qab ?_
 refine qaE 8 kz dz fun ep eu bi dB => ?_
 refine qaF [0, 1, 2, 3, 4, 5] [(0, .p 0 0), (2, .p 1 0), (3, .p 3 0), (16, .v (.slice (some ⟨aa, 0, none⟩) 7 7)), (20, .v (.pointer ((D.f 1).A)))] 3 (qaa qaf) (fun _ h => h.cells) dB dA fun fA dC => ?_
 refine qay (i := 6) kz (qai dC (f := 139) (vs := [.pointer ((D.f 1).A)]) (d := 21) kz Tryz.call139 (tText _ (D.f 1).s _ (Imm F w ep [⟨b, o, [.int .i8 ((D.f 0).n), .pointer ((D.f 1).A), .int .i8 ((D.f 2).n), .pointer ((D.f 3).A), .pointer ((D.f 4).A), .int .i8 ((D.f 5).n), .int .i8 ((D.f 6).n), .map D.m], false⟩, ⟨b9, 0, [.int .i64 0, .slice none 0 0, .bool false, .slice none 0 0, .slice none 0 0], true⟩, ⟨aa, 0, [.int .i64 (IntKind.i64.wrap ((D.f 0).n)), .slice none 0 0, .bool false, .slice none 0 0, .slice none 0 0, .int .i64 0, .slice none 0 0, .bool false, .slice none 0 0, .slice none 0 0, .int .i64 0, .slice none 0 0, .bool false, .slice none 0 0, .slice none 0 0, .int .i64 0, .slice none 0 0, .bool false, .slice none 0 0, .slice none 0 0, .int .i64 0, .slice none 0 0, .bool false, .slice none 0 0, .slice none 0 0, .int .i64 0, .slice none 0 0, .bool false, .slice none 0 0, .slice none 0 0, .int .i64 0, .slice none 0 0, .bool false, .slice none 0 0, .slice none 0 0], true⟩, ⟨aY, 0, [.int .i64 0, .slice none 0 0, .bool false, .slice (some ⟨aa, 0, none⟩) 7 7, .slice none 0 0], true⟩] []) (fun ad h_ => by obtain ⟨b', o', g1, g2⟩ := g2 ad h_; exact ⟨b', o', g1, g2.move bi.step nilM bi.imm⟩) g2l) ?_)
 rintro e_ fB ⟨ev, rfl, dD, bL⟩
 have bM := dD.move (Step.refl _ Nil) nilM (bi.laid (G := F) bL)
 obtain ⟨aG, aH, aI, aJ, aK, aL, aM, aN, aO, aP, aQ, ew, ey, bw, ez, eB, fC, fD⟩ := bM.open_
 rw [bw] at bM
 have dX := ez.small
 have dY := eB.small
 rw [bw]
 refine ⟨_, rfl, fun fE dE => ?_⟩
 have bQ := bi.next_nil bL
 have dF := bi.frN bL
 have bR := TT.ofW dF bQ
 refine ⟨fun _ => bR, ?_⟩
 refine qaL dE (i := 7) (t := 34) (A := (some ⟨aa, 0, none⟩)) (m := 7) (q := 1) (d := 22) kz (e := 37) (size := 5) (bytes := 88) (j := 1) kz (b := aa) (o := 0) rfl rfl (by decide) kz kz (qaa qaf) bR fun fF dG => ?_
 have dH := dG.recast 22 (.v (.pointer (some ⟨aa, 0 + 1 * 5, none⟩))) (.p 2 5) rfl rfl (Nat.le_of_ble_eq_true (n := 3) rfl)
 have dI := dH.pk (env' := [(0, .p 0 0), (2, .p 1 0), (3, .p 3 0), (16, .v (.slice (some ⟨aa, 0, none⟩) 7 7)), (20, .v (.pointer ((D.f 1).A))), (21, .v (.agg #[.int .i64 aG, .slice aL aH.length aM, .bool aI, .slice aN aJ.length aO, .slice aP aK.length aQ])), (22, .p 2 5)])
 refine qay (i := 8) kz (qav bQ dI (oi := 2) (cs := [.int .i64 (IntKind.i64.wrap ((D.f 0).n)), .slice none 0 0, .bool false, .slice none 0 0, .slice none 0 0, .int .i64 aG, .slice aL aH.length aM, .bool aI, .slice aN aJ.length aO, .slice aP aK.length aQ, .int .i64 0, .slice none 0 0, .bool false, .slice none 0 0, .slice none 0 0, .int .i64 0, .slice none 0 0, .bool false, .slice none 0 0, .slice none 0 0, .int .i64 0, .slice none 0 0, .bool false, .slice none 0 0, .slice none 0 0, .int .i64 0, .slice none 0 0, .bool false, .slice none 0 0, .slice none 0 0, .int .i64 0, .slice none 0 0, .bool false, .slice none 0 0, .slice none 0 0]) kz fun fG bS dJ dK => ?_)
 refine ⟨fun h => absurd rfl h, ?_⟩
 refine qaC kz ?_ _
 refine qab ?_
 refine qaE 9 kz dJ fun fH bT dL bx => ?_
 refine qaF [0, 1, 2, 3, 4, 5, 6, 7] [(0, .p 0 0), (2, .p 1 0), (3, .p 3 0), (24, .v (.slice (some ⟨aa, 0, none⟩) 7 7)), (30, .v (.agg #[.int .i64 (IntKind.i64.wrap ((D.f 2).n)), .slice none 0 0, .bool false, .slice none 0 0, .slice none 0 0]))] 2 (qaa qaf) (fun _ h => h.cells) bx dK fun eC bU => ?_
 refine qaL bU (i := 8) (t := 34) (A := (some ⟨aa, 0, none⟩)) (m := 7) (q := 2) (d := 31) kz (e := 37) (size := 5) (bytes := 88) (j := 2) kz (b := aa) (o := 0) rfl rfl (by decide) kz kz (qaa qaf) bx fun eD bV => ?_
 have bW := bV.recast 31 (.v (.pointer (some ⟨aa, 0 + 2 * 5, none⟩))) (.p 2 10) rfl rfl (Nat.le_of_ble_eq_true (n := 3) rfl)
 have bX := bW.pk (env' := [(0, .p 0 0), (2, .p 1 0), (3, .p 3 0), (24, .v (.slice (some ⟨aa, 0, none⟩) 7 7)), (30, .v (.agg #[.int .i64 (IntKind.i64.wrap ((D.f 2).n)), .slice none 0 0, .bool false, .slice none 0 0, .slice none 0 0])), (31, .p 2 10)])
 refine qay (i := 9) kz (qav dL bX (oi := 2) (cs := [.int .i64 (IntKind.i64.wrap ((D.f 0).n)), .slice none 0 0, .bool false, .slice none 0 0, .slice none 0 0, .int .i64 aG, .slice aL aH.length aM, .bool aI, .slice aN aJ.length aO, .slice aP aK.length aQ, .int .i64 (IntKind.i64.wrap ((D.f 2).n)), .slice none 0 0, .bool false, .slice none 0 0, .slice none 0 0, .int .i64 0, .slice none 0 0, .bool false, .slice none 0 0, .slice none 0 0, .int .i64 0, .slice none 0 0, .bool false, .slice none 0 0, .slice none 0 0, .int .i64 0, .slice none 0 0, .bool false, .slice none 0 0, .slice none 0 0, .int .i64 0, .slice none 0 0, .bool false, .slice none 0 0, .slice none 0 0]) kz fun eE bz bY bZ => ?_)
 refine ⟨fun h => absurd rfl h, ?_⟩
 refine qaC kz ?_ _
 refine qab ?_
 refine qaE 8 kz bY fun dM bA aZ b8 => ?_
 refine qaF [0, 1, 2, 3, 4, 5] [(0, .p 0 0), (2, .p 1 0), (3, .p 3 0), (33, .v (.slice (some ⟨aa, 0, none⟩) 7 7)), (37, .v (.pointer ((D.f 3).A)))] 3 (qaa qaf) (fun _ h => h.cells) b8 bZ fun eF cd => ?_
 refine qay (i := 6) kz (qai cd (f := 139) (vs := [.pointer ((D.f 3).A)]) (d := 38) kz Tryz.call139 (tText _ (D.f 3).s _ (Imm F w dM [⟨b, o, [.int .i8 ((D.f 0).n), .pointer ((D.f 1).A), .int .i8 ((D.f 2).n), .pointer ((D.f 3).A), .pointer ((D.f 4).A), .int .i8 ((D.f 5).n), .int .i8 ((D.f 6).n), .map D.m], false⟩, ⟨b9, 0, [.int .i64 0, .slice none 0 0, .bool false, .slice none 0 0, .slice none 0 0], true⟩, ⟨aa, 0, [.int .i64 (IntKind.i64.wrap ((D.f 0).n)), .slice none 0 0, .bool false, .slice none 0 0, .slice none 0 0, .int .i64 aG, .slice aL aH.length aM, .bool aI, .slice aN aJ.length aO, .slice aP aK.length aQ, .int .i64 (IntKind.i64.wrap ((D.f 2).n)), .slice none 0 0, .bool false, .slice none 0 0, .slice none 0 0, .int .i64 0, .slice none 0 0, .bool false, .slice none 0 0, .slice none 0 0, .int .i64 0, .slice none 0 0, .bool false, .slice none 0 0, .slice none 0 0, .int .i64 0, .slice none 0 0, .bool false, .slice none 0 0, .slice none 0 0, .int .i64 0, .slice none 0 0, .bool false, .slice none 0 0, .slice none 0 0], true⟩, ⟨aY, 0, [.int .i64 0, .slice none 0 0, .bool false, .slice (some ⟨aa, 0, none⟩) 7 7, .slice none 0 0], true⟩] []) (fun ad h_ => by obtain ⟨b', o', g1, g2⟩ := g4 ad h_; exact ⟨b', o', g1, g2.move aZ.step nilM aZ.imm⟩) g4l) ?_)
 rintro e_ eG ⟨dZ, rfl, ce, bj⟩
 have bk := ce.move (Step.refl _ Nil) nilM (aZ.laid (G := F) bj)
 obtain ⟨ae, af, ag, ah, ai, aj, ak, al, am, ao, ap, d5, d6, bn, dN, dO, eH, eI⟩ := bk.open_
 rw [bn] at bk
 have dP := dN.small
 have dQ := dO.small
 rw [bn]
 refine ⟨_, rfl, fun eJ cm => ?_⟩
 have bB := aZ.next_nil bj
 have bo := aZ.frN bj
 have bC := TT.ofW bo bB
 refine ⟨fun _ => bC, ?_⟩
 refine qaL cm (i := 7) (t := 34) (A := (some ⟨aa, 0, none⟩)) (m := 7) (q := 3) (d := 39) kz (e := 37) (size := 5) (bytes := 88) (j := 3) kz (b := aa) (o := 0) rfl rfl (by decide) kz kz (qaa qaf) bC fun eK cq => ?_
 have cr := cq.recast 39 (.v (.pointer (some ⟨aa, 0 + 3 * 5, none⟩))) (.p 2 15) rfl rfl (Nat.le_of_ble_eq_true (n := 3) rfl)
 have cu := cr.pk (env' := [(0, .p 0 0), (2, .p 1 0), (3, .p 3 0), (33, .v (.slice (some ⟨aa, 0, none⟩) 7 7)), (37, .v (.pointer ((D.f 3).A))), (38, .v (.agg #[.int .i64 ae, .slice aj af.length ak, .bool ag, .slice al ah.length am, .slice ao ai.length ap])), (39, .p 2 15)])
 refine qay (i := 8) kz (qav bB cu (oi := 2) (cs := [.int .i64 (IntKind.i64.wrap ((D.f 0).n)), .slice none 0 0, .bool false, .slice none 0 0, .slice none 0 0, .int .i64 aG, .slice aL aH.length aM, .bool aI, .slice aN aJ.length aO, .slice aP aK.length aQ, .int .i64 (IntKind.i64.wrap ((D.f 2).n)), .slice none 0 0, .bool false, .slice none 0 0, .slice none 0 0, .int .i64 ae, .slice aj af.length ak, .bool ag, .slice al ah.length am, .slice ao ai.length ap, .int .i64 0, .slice none 0 0, .bool false, .slice none 0 0, .slice none 0 0, .int .i64 0, .slice none 0 0, .bool false, .slice none 0 0, .slice none 0 0, .int .i64 0, .slice none 0 0, .bool false, .slice none 0 0, .slice none 0 0]) kz fun eL bg cw cz => ?_)
 refine ⟨fun h => absurd rfl h, ?_⟩
 refine qaC kz ?_ _
 refine qab ?_
 refine qaE 8 kz cw fun dR bh ba cA => ?_
 refine qaF [0, 1, 2, 3, 4, 5] [(0, .p 0 0), (2, .p 1 0), (3, .p 3 0), (41, .v (.slice (some ⟨aa, 0, none⟩) 7 7)), (45, .v (.pointer ((D.f 4).A)))] 3 (qaa qaf) (fun _ h => h.cells) cA cz fun eM cB => ?_
 refine qay (i := 6) kz (qai cB (f := 139) (vs := [.pointer ((D.f 4).A)]) (d := 46) kz Tryz.call139 (tText _ (D.f 4).s _ (Imm F w dR [⟨b, o, [.int .i8 ((D.f 0).n), .pointer ((D.f 1).A), .int .i8 ((D.f 2).n), .pointer ((D.f 3).A), .pointer ((D.f 4).A), .int .i8 ((D.f 5).n), .int .i8 ((D.f 6).n), .map D.m], false⟩, ⟨b9, 0, [.int .i64 0, .slice none 0 0, .bool false, .slice none 0 0, .slice none 0 0], true⟩, ⟨aa, 0, [.int .i64 (IntKind.i64.wrap ((D.f 0).n)), .slice none 0 0, .bool false, .slice none 0 0, .slice none 0 0, .int .i64 aG, .slice aL aH.length aM, .bool aI, .slice aN aJ.length aO, .slice aP aK.length aQ, .int .i64 (IntKind.i64.wrap ((D.f 2).n)), .slice none 0 0, .bool false, .slice none 0 0, .slice none 0 0, .int .i64 ae, .slice aj af.length ak, .bool ag, .slice al ah.length am, .slice ao ai.length ap, .int .i64 0, .slice none 0 0, .bool false, .slice none 0 0, .slice none 0 0, .int .i64 0, .slice none 0 0, .bool false, .slice none 0 0, .slice none 0 0, .int .i64 0, .slice none 0 0, .bool false, .slice none 0 0, .slice none 0 0], true⟩, ⟨aY, 0, [.int .i64 0, .slice none 0 0, .bool false, .slice (some ⟨aa, 0, none⟩) 7 7, .slice none 0 0], true⟩] []) (fun ad h_ => by obtain ⟨b', o', g1, g2⟩ := g5 ad h_; exact ⟨b', o', g1, g2.move ba.step nilM ba.imm⟩) g5l) ?_)
 rintro e_ eN ⟨d7, rfl, cC, bp⟩
 have bq := cC.move (Step.refl _ Nil) nilM (ba.laid (G := F) bp)
 obtain ⟨ar, au, av, aw, ax, ay, az, aA, aB, aC, aD, d8, d9, bt, dS, dT, eO, eP⟩ := bq.open_
 rw [bt] at bq
 have dU := dS.small
 have dV := dT.small
 rw [bt]
 refine ⟨_, rfl, fun eQ cD => ?_⟩
 have bD := ba.next_nil bp
 have bd := ba.frN bp
 have bE := TT.ofW bd bD
 refine ⟨fun _ => bE, ?_⟩
 refine qaL cD (i := 7) (t := 34) (A := (some ⟨aa, 0, none⟩)) (m := 7) (q := 4) (d := 47) kz (e := 37) (size := 5) (bytes := 88) (j := 4) kz (b := aa) (o := 0) rfl rfl (by decide) kz kz (qaa qaf) bE fun eR cE => ?_
 have cG := cE.recast 47 (.v (.pointer (some ⟨aa, 0 + 4 * 5, none⟩))) (.p 2 20) rfl rfl (Nat.le_of_ble_eq_true (n := 3) rfl)
 have cH := cG.pk (env' := [(0, .p 0 0), (2, .p 1 0), (3, .p 3 0), (41, .v (.slice (some ⟨aa, 0, none⟩) 7 7)), (45, .v (.pointer ((D.f 4).A))), (46, .v (.agg #[.int .i64 ar, .slice ay au.length az, .bool av, .slice aA aw.length aB, .slice aC ax.length aD])), (47, .p 2 20)])
 refine qay (i := 8) kz (qav bD cH (oi := 2) (cs := [.int .i64 (IntKind.i64.wrap ((D.f 0).n)), .slice none 0 0, .bool false, .slice none 0 0, .slice none 0 0, .int .i64 aG, .slice aL aH.length aM, .bool aI, .slice aN aJ.length aO, .slice aP aK.length aQ, .int .i64 (IntKind.i64.wrap ((D.f 2).n)), .slice none 0 0, .bool false, .slice none 0 0, .slice none 0 0, .int .i64 ae, .slice aj af.length ak, .bool ag, .slice al ah.length am, .slice ao ai.length ap, .int .i64 ar, .slice ay au.length az, .bool av, .slice aA aw.length aB, .slice aC ax.length aD, .int .i64 0, .slice none 0 0, .bool false, .slice none 0 0, .slice none 0 0, .int .i64 0, .slice none 0 0, .bool false, .slice none 0 0, .slice none 0 0]) kz fun eS aS cI cJ => ?_)
 refine ⟨fun h => absurd rfl h, ?_⟩
 refine qaC kz ?_ _
 refine qab ?_
 refine qaE 9 kz cI fun eU aT cK bF => ?_
 refine qaF [0, 1, 2, 3, 4, 5, 6, 7] [(0, .p 0 0), (2, .p 1 0), (3, .p 3 0), (49, .v (.slice (some ⟨aa, 0, none⟩) 7 7)), (55, .v (.agg #[.int .i64 (IntKind.i64.wrap ((D.f 5).n)), .slice none 0 0, .bool false, .slice none 0 0, .slice none 0 0]))] 2 (qaa qaf) (fun _ h => h.cells) bF cJ fun eV cL => ?_
 refine qaL cL (i := 8) (t := 34) (A := (some ⟨aa, 0, none⟩)) (m := 7) (q := 5) (d := 56) kz (e := 37) (size := 5) (bytes := 88) (j := 5) kz (b := aa) (o := 0) rfl rfl (by decide) kz kz (qaa qaf) bF fun eW cM => ?_
 have cN := cM.recast 56 (.v (.pointer (some ⟨aa, 0 + 5 * 5, none⟩))) (.p 2 25) rfl rfl (Nat.le_of_ble_eq_true (n := 3) rfl)
 have cO := cN.pk (env' := [(0, .p 0 0), (2, .p 1 0), (3, .p 3 0), (49, .v (.slice (some ⟨aa, 0, none⟩) 7 7)), (55, .v (.agg #[.int .i64 (IntKind.i64.wrap ((D.f 5).n)), .slice none 0 0, .bool false, .slice none 0 0, .slice none 0 0])), (56, .p 2 25)])
 refine qay (i := 9) kz (qav cK cO (oi := 2) (cs := [.int .i64 (IntKind.i64.wrap ((D.f 0).n)), .slice none 0 0, .bool false, .slice none 0 0, .slice none 0 0, .int .i64 aG, .slice aL aH.length aM, .bool aI, .slice aN aJ.length aO, .slice aP aK.length aQ, .int .i64 (IntKind.i64.wrap ((D.f 2).n)), .slice none 0 0, .bool false, .slice none 0 0, .slice none 0 0, .int .i64 ae, .slice aj af.length ak, .bool ag, .slice al ah.length am, .slice ao ai.length ap, .int .i64 ar, .slice ay au.length az, .bool av, .slice aA aw.length aB, .slice aC ax.length aD, .int .i64 (IntKind.i64.wrap ((D.f 5).n)), .slice none 0 0, .bool false, .slice none 0 0, .slice none 0 0, .int .i64 0, .slice none 0 0, .bool false, .slice none 0 0, .slice none 0 0]) kz fun eX aU cP cQ => ?_)
 refine ⟨fun h => absurd rfl h, ?_⟩
 refine qaC kz ?_ _
 refine qab ?_
 refine qaE 9 kz cP fun eY aV cR bG => ?_
 refine qaF [0, 1, 2, 3, 4, 5, 6, 7] [(0, .p 0 0), (2, .p 1 0), (3, .p 3 0), (58, .v (.slice (some ⟨aa, 0, none⟩) 7 7)), (64, .v (.agg #[.int .i64 (IntKind.i64.wrap ((D.f 6).n)), .slice none 0 0, .bool false, .slice none 0 0, .slice none 0 0]))] 2 (qaa qaf) (fun _ h => h.cells) bG cQ fun eZ cS => ?_
 refine qaL cS (i := 8) (t := 34) (A := (some ⟨aa, 0, none⟩)) (m := 7) (q := 6) (d := 65) kz (e := 37) (size := 5) (bytes := 88) (j := 6) kz (b := aa) (o := 0) rfl rfl (by decide) kz kz (qaa qaf) bG fun e9 cT => ?_
 have cU := cT.recast 65 (.v (.pointer (some ⟨aa, 0 + 6 * 5, none⟩))) (.p 2 30) rfl rfl (Nat.le_of_ble_eq_true (n := 3) rfl)
 have cV := cU.pk (env' := [(0, .p 0 0), (2, .p 1 0), (3, .p 3 0), (58, .v (.slice (some ⟨aa, 0, none⟩) 7 7)), (64, .v (.agg #[.int .i64 (IntKind.i64.wrap ((D.f 6).n)), .slice none 0 0, .bool false, .slice none 0 0, .slice none 0 0])), (65, .p 2 30)])
 refine qay (i := 9) kz (qav cR cV (oi := 2) (cs := [.int .i64 (IntKind.i64.wrap ((D.f 0).n)), .slice none 0 0, .bool false, .slice none 0 0, .slice none 0 0, .int .i64 aG, .slice aL aH.length aM, .bool aI, .slice aN aJ.length aO, .slice aP aK.length aQ, .int .i64 (IntKind.i64.wrap ((D.f 2).n)), .slice none 0 0, .bool false, .slice none 0 0, .slice none 0 0, .int .i64 ae, .slice aj af.length ak, .bool ag, .slice al ah.length am, .slice ao ai.length ap, .int .i64 ar, .slice ay au.length az, .bool av, .slice aA aw.length aB, .slice aC ax.length aD, .int .i64 (IntKind.i64.wrap ((D.f 5).n)), .slice none 0 0, .bool false, .slice none 0 0, .slice none 0 0, .int .i64 (IntKind.i64.wrap ((D.f 6).n)), .slice none 0 0, .bool false, .slice none 0 0, .slice none 0 0]) kz fun dW aW aR cW => ?_)
 refine ⟨fun h => absurd rfl h, ?_⟩
 refine qaC kz ?_ _
 refine qab ?_
 refine qad [0, 1, 2, 3, 4] kz ?_
 refine qah [0, 1, 2] [3, 4] [(2, .p 1 0), (3, .p 3 0), (68, .p 0 7)] aR cW fun fa cX => ?_
 refine qaj (qfA cX (v := .func (.func 217) #[] #[.pointer (some ⟨aY, 0, none⟩)]) (d := 69) kz fun fb cY => ?_)
 refine qaj (qai cY (f := 122) (vs := [.pointer (some ⟨b, o + 7, none⟩), .func (.func 217) #[] #[.pointer (some ⟨aY, 0, none⟩)]]) (d := 70) kz Tryz.call122 (qgv (F := (Imm F w dW [⟨b, o, [.int .i8 ((D.f 0).n), .pointer ((D.f 1).A), .int .i8 ((D.f 2).n), .pointer ((D.f 3).A), .pointer ((D.f 4).A), .int .i8 ((D.f 5).n), .int .i8 ((D.f 6).n), .map D.m], false⟩, ⟨b9, 0, [.int .i64 0, .slice none 0 0, .bool false, .slice none 0 0, .slice none 0 0], true⟩, ⟨aa, 0, [.int .i64 (IntKind.i64.wrap ((D.f 0).n)), .slice none 0 0, .bool false, .slice none 0 0, .slice none 0 0, .int .i64 aG, .slice aL aH.length aM, .bool aI, .slice aN aJ.length aO, .slice aP aK.length aQ, .int .i64 (IntKind.i64.wrap ((D.f 2).n)), .slice none 0 0, .bool false, .slice none 0 0, .slice none 0 0, .int .i64 ae, .slice aj af.length ak, .bool ag, .slice al ah.length am, .slice ao ai.length ap, .int .i64 ar, .slice ay au.length az, .bool av, .slice aA aw.length aB, .slice aC ax.length aD, .int .i64 (IntKind.i64.wrap ((D.f 5).n)), .slice none 0 0, .bool false, .slice none 0 0, .slice none 0 0, .int .i64 (IntKind.i64.wrap ((D.f 6).n)), .slice none 0 0, .bool false, .slice none 0 0, .slice none 0 0], true⟩, ⟨aY, 0, [.int .i64 0, .slice none 0 0, .bool false, .slice (some ⟨aa, 0, none⟩) 7 7, .slice none 0 0], true⟩] [])) Tryz.call217 qct ((hat.one 7 rfl).move aR.step nilM aR.imm) (g8.move aR.step nilM aR.imm) (Str.of aR 3 rfl) (imm_n 3 rfl) g8l) ?_)
 rintro e_ fe ⟨rfl, ab, ac, bN, cZ, c5⟩
 obtain ⟨bu, aX, c6⟩ := aR.wrote 3 [⟨b, o, [.int .i8 ((D.f 0).n), .pointer ((D.f 1).A), .int .i8 ((D.f 2).n), .pointer ((D.f 3).A), .pointer ((D.f 4).A), .int .i8 ((D.f 5).n), .int .i8 ((D.f 6).n), .map D.m], false⟩, ⟨b9, 0, [.int .i64 0, .slice none 0 0, .bool false, .slice none 0 0, .slice none 0 0], true⟩, ⟨aa, 0, [.int .i64 (IntKind.i64.wrap ((D.f 0).n)), .slice none 0 0, .bool false, .slice none 0 0, .slice none 0 0, .int .i64 aG, .slice aL aH.length aM, .bool aI, .slice aN aJ.length aO, .slice aP aK.length aQ, .int .i64 (IntKind.i64.wrap ((D.f 2).n)), .slice none 0 0, .bool false, .slice none 0 0, .slice none 0 0, .int .i64 ae, .slice aj af.length ak, .bool ag, .slice al ah.length am, .slice ao ai.length ap, .int .i64 ar, .slice ay au.length az, .bool av, .slice aA aw.length aB, .slice aC ax.length aD, .int .i64 (IntKind.i64.wrap ((D.f 5).n)), .slice none 0 0, .bool false, .slice none 0 0, .slice none 0 0, .int .i64 (IntKind.i64.wrap ((D.f 6).n)), .slice none 0 0, .bool false, .slice none 0 0, .slice none 0 0], true⟩, ⟨aY, 0, [.int .i64 0, .slice none 0 0, .bool false, .slice (some ⟨aa, 0, none⟩) 7 7, .slice ab D.u.length ac], true⟩] rfl c5 bN
 have bH := cZ.move (Step.refl _ Nil) nilM (fun b_ o_ h_ hb_ => c6 (G := F) b_ o_ (.inr h_) hb_)
 refine ⟨_, rfl, fun ff da => ?_⟩
 have db := (EnvOk.places (tb' := [⟨b, o, [.int .i8 ((D.f 0).n), .pointer ((D.f 1).A), .int .i8 ((D.f 2).n), .pointer ((D.f 3).A), .pointer ((D.f 4).A), .int .i8 ((D.f 5).n), .int .i8 ((D.f 6).n), .map D.m], false⟩, ⟨b9, 0, [.int .i64 0, .slice none 0 0, .bool false, .slice none 0 0, .slice none 0 0], true⟩, ⟨aa, 0, [.int .i64 (IntKind.i64.wrap ((D.f 0).n)), .slice none 0 0, .bool false, .slice none 0 0, .slice none 0 0, .int .i64 aG, .slice aL aH.length aM, .bool aI, .slice aN aJ.length aO, .slice aP aK.length aQ, .int .i64 (IntKind.i64.wrap ((D.f 2).n)), .slice none 0 0, .bool false, .slice none 0 0, .slice none 0 0, .int .i64 ae, .slice aj af.length ak, .bool ag, .slice al ah.length am, .slice ao ai.length ap, .int .i64 ar, .slice ay au.length az, .bool av, .slice aA aw.length aB, .slice aC ax.length aD, .int .i64 (IntKind.i64.wrap ((D.f 5).n)), .slice none 0 0, .bool false, .slice none 0 0, .slice none 0 0, .int .i64 (IntKind.i64.wrap ((D.f 6).n)), .slice none 0 0, .bool false, .slice none 0 0, .slice none 0 0], true⟩, ⟨aY, 0, [.int .i64 0, .slice none 0 0, .bool false, .slice (some ⟨aa, 0, none⟩) 7 7, .slice ab D.u.length ac], true⟩]) da (show Pl [⟨b, o, [.int .i8 ((D.f 0).n), .pointer ((D.f 1).A), .int .i8 ((D.f 2).n), .pointer ((D.f 3).A), .pointer ((D.f 4).A), .int .i8 ((D.f 5).n), .int .i8 ((D.f 6).n), .map D.m], false⟩, ⟨b9, 0, [.int .i64 0, .slice none 0 0, .bool false, .slice none 0 0, .slice none 0 0], true⟩, ⟨aa, 0, [.int .i64 (IntKind.i64.wrap ((D.f 0).n)), .slice none 0 0, .bool false, .slice none 0 0, .slice none 0 0, .int .i64 aG, .slice aL aH.length aM, .bool aI, .slice aN aJ.length aO, .slice aP aK.length aQ, .int .i64 (IntKind.i64.wrap ((D.f 2).n)), .slice none 0 0, .bool false, .slice none 0 0, .slice none 0 0, .int .i64 ae, .slice aj af.length ak, .bool ag, .slice al ah.length am, .slice ao ai.length ap, .int .i64 ar, .slice ay au.length az, .bool av, .slice aA aw.length aB, .slice aC ax.length aD, .int .i64 (IntKind.i64.wrap ((D.f 5).n)), .slice none 0 0, .bool false, .slice none 0 0, .slice none 0 0, .int .i64 (IntKind.i64.wrap ((D.f 6).n)), .slice none 0 0, .bool false, .slice none 0 0, .slice none 0 0], true⟩, ⟨aY, 0, [.int .i64 0, .slice none 0 0, .bool false, .slice (some ⟨aa, 0, none⟩) 7 7, .slice none 0 0], true⟩] [⟨b, o, [.int .i8 ((D.f 0).n), .pointer ((D.f 1).A), .int .i8 ((D.f 2).n), .pointer ((D.f 3).A), .pointer ((D.f 4).A), .int .i8 ((D.f 5).n), .int .i8 ((D.f 6).n), .map D.m], false⟩, ⟨b9, 0, [.int .i64 0, .slice none 0 0, .bool false, .slice none 0 0, .slice none 0 0], true⟩, ⟨aa, 0, [.int .i64 (IntKind.i64.wrap ((D.f 0).n)), .slice none 0 0, .bool false, .slice none 0 0, .slice none 0 0, .int .i64 aG, .slice aL aH.length aM, .bool aI, .slice aN aJ.length aO, .slice aP aK.length aQ, .int .i64 (IntKind.i64.wrap ((D.f 2).n)), .slice none 0 0, .bool false, .slice none 0 0, .slice none 0 0, .int .i64 ae, .slice aj af.length ak, .bool ag, .slice al ah.length am, .slice ao ai.length ap, .int .i64 ar, .slice ay au.length az, .bool av, .slice aA aw.length aB, .slice aC ax.length aD, .int .i64 (IntKind.i64.wrap ((D.f 5).n)), .slice none 0 0, .bool false, .slice none 0 0, .slice none 0 0, .int .i64 (IntKind.i64.wrap ((D.f 6).n)), .slice none 0 0, .bool false, .slice none 0 0, .slice none 0 0], true⟩, ⟨aY, 0, [.int .i64 0, .slice none 0 0, .bool false, .slice (some ⟨aa, 0, none⟩) 7 7, .slice ab D.u.length ac], true⟩] from ⟨rfl, rfl, ⟨rfl, rfl, ⟨rfl, rfl, ⟨rfl, rfl, trivial⟩⟩⟩⟩)).pk (env' := [(70, .v (.tuple #[])), (2, .p 1 0), (3, .p 3 0), (68, .p 0 7), (69, .v (.func (.func 217) #[] #[.pointer (some ⟨aY, 0, none⟩)]))])
 refine qae (qab ?_)
 refine qad [0, 1, 2] kz ?_
 refine qah [0, 1] [2] [(2, .p 1 0), (3, .p 3 0), (72, .v (.slice ab D.u.length ac))] bu db fun fg dc => ?_
 refine qaj (qai dc (f := 124) (vs := [.slice ab D.u.length ac]) (d := 73) kz Tryz.call124 (tSorted bH g8.sorted) ?_)
 rintro e_ fh ⟨rfl, bI⟩
 refine ⟨_, rfl, fun fi de => ?_⟩
 have bJ := bu.next_nil bI
 have aE := bu.frN bI
 refine qae (qab ?_)
 refine qad [0, 1] kz ?_
 refine qah [0] [1] [(2, .p 1 0), (74, .v (.agg #[.int .i64 0, .slice none 0 0, .bool false, .slice (some ⟨aa, 0, none⟩) 7 7, .slice ab D.u.length ac]))] bJ de fun fj df => ?_
 refine qaj (qav bJ df (oi := 1) (cs := [.int .i64 0, .slice none 0 0, .bool false, .slice (some ⟨aa, 0, none⟩) 7 7, .slice ab D.u.length ac]) kz fun bf aF bK dg => ?_)
 refine qae (qab ?_)
 refine wp_ret ?_
 refine qaD dg bK.cells (v := .agg #[.int .i64 0, .slice none 0 0, .bool false, .slice (some ⟨aa, 0, none⟩) 7 7, .slice ab D.u.length ac]) kz ?_
 exact tell_end (u := D.u) (l := [.mk (IntKind.i64.wrap (D.f 0).n) [] false [] [], qe8 (D.f 1).A (D.f 1).s, .mk (IntKind.i64.wrap (D.f 2).n) [] false [] [], qe8 (D.f 3).A (D.f 3).s, qe8 (D.f 4).A (D.f 4).s, .mk (IntKind.i64.wrap (D.f 5).n) [] false [] [], .mk (IntKind.i64.wrap (D.f 6).n) [] false [] []]) (css := [[.int .i64 (IntKind.i64.wrap ((D.f 0).n)), .slice none 0 0, .bool false, .slice none 0 0, .slice none 0 0], [.int .i64 aG, .slice aL aH.length aM, .bool aI, .slice aN aJ.length aO, .slice aP aK.length aQ], [.int .i64 (IntKind.i64.wrap ((D.f 2).n)), .slice none 0 0, .bool false, .slice none 0 0, .slice none 0 0], [.int .i64 ae, .slice aj af.length ak, .bool ag, .slice al ah.length am, .slice ao ai.length ap], [.int .i64 ar, .slice ay au.length az, .bool av, .slice aA aw.length aB, .slice aC ax.length aD], [.int .i64 (IntKind.i64.wrap ((D.f 5).n)), .slice none 0 0, .bool false, .slice none 0 0, .slice none 0 0], [.int .i64 (IntKind.i64.wrap ((D.f 6).n)), .slice none 0 0, .bool false, .slice none 0 0, .slice none 0 0]]) bK 2 rfl ⟨(show TreeR _ (Imm F w bf [⟨b, o, [.int .i8 ((D.f 0).n), .pointer ((D.f 1).A), .int .i8 ((D.f 2).n), .pointer ((D.f 3).A), .pointer ((D.f 4).A), .int .i8 ((D.f 5).n), .int .i8 ((D.f 6).n), .map D.m], false⟩, ⟨b9, 0, [.int .i64 0, .slice none 0 0, .bool false, .slice (some ⟨aa, 0, none⟩) 7 7, .slice ab D.u.length ac], true⟩, ⟨aa, 0, [.int .i64 (IntKind.i64.wrap ((D.f 0).n)), .slice none 0 0, .bool false, .slice none 0 0, .slice none 0 0, .int .i64 aG, .slice aL aH.length aM, .bool aI, .slice aN aJ.length aO, .slice aP aK.length aQ, .int .i64 (IntKind.i64.wrap ((D.f 2).n)), .slice none 0 0, .bool false, .slice none 0 0, .slice none 0 0, .int .i64 ae, .slice aj af.length ak, .bool ag, .slice al ah.length am, .slice ao ai.length ap, .int .i64 ar, .slice ay au.length az, .bool av, .slice aA aw.length aB, .slice aC ax.length aD, .int .i64 (IntKind.i64.wrap ((D.f 5).n)), .slice none 0 0, .bool false, .slice none 0 0, .slice none 0 0, .int .i64 (IntKind.i64.wrap ((D.f 6).n)), .slice none 0 0, .bool false, .slice none 0 0, .slice none 0 0], true⟩, ⟨aY, 0, [.int .i64 0, .slice none 0 0, .bool false, .slice (some ⟨aa, 0, none⟩) 7 7, .slice ab D.u.length ac], true⟩] []) _ _ from (TreeR.mk (n := IntKind.i64.wrap ((D.f 0).n)) (b := false) (s := []) (l := []) (u := []) (fun _ => []) (Octs.nil _ _) (Slots.nil _ _ _ _) (fun i_ x_ h_ => by simp at h_) (TagsR.nil _ _))).move (Step.refl _ Nil) nilM qbG, (show TreeR _ (Imm F w bf [⟨b, o, [.int .i8 ((D.f 0).n), .pointer ((D.f 1).A), .int .i8 ((D.f 2).n), .pointer ((D.f 3).A), .pointer ((D.f 4).A), .int .i8 ((D.f 5).n), .int .i8 ((D.f 6).n), .map D.m], false⟩, ⟨b9, 0, [.int .i64 0, .slice none 0 0, .bool false, .slice (some ⟨aa, 0, none⟩) 7 7, .slice ab D.u.length ac], true⟩, ⟨aa, 0, [.int .i64 (IntKind.i64.wrap ((D.f 0).n)), .slice none 0 0, .bool false, .slice none 0 0, .slice none 0 0, .int .i64 aG, .slice aL aH.length aM, .bool aI, .slice aN aJ.length aO, .slice aP aK.length aQ, .int .i64 (IntKind.i64.wrap ((D.f 2).n)), .slice none 0 0, .bool false, .slice none 0 0, .slice none 0 0, .int .i64 ae, .slice aj af.length ak, .bool ag, .slice al ah.length am, .slice ao ai.length ap, .int .i64 ar, .slice ay au.length az, .bool av, .slice aA aw.length aB, .slice aC ax.length aD, .int .i64 (IntKind.i64.wrap ((D.f 5).n)), .slice none 0 0, .bool false, .slice none 0 0, .slice none 0 0, .int .i64 (IntKind.i64.wrap ((D.f 6).n)), .slice none 0 0, .bool false, .slice none 0 0, .slice none 0 0], true⟩, ⟨aY, 0, [.int .i64 0, .slice none 0 0, .bool false, .slice (some ⟨aa, 0, none⟩) 7 7, .slice ab D.u.length ac], true⟩] []) _ _ from (bM.move (((((((((((((((bS.trans bT).trans bz).trans bA).trans bo).trans bg).trans bh).trans bd).trans aS).trans aT).trans aU).trans aV).trans aW).trans aX).trans aE).trans aF).step immM (((((((((((((((bS.trans bT).trans bz).trans bA).trans bo).trans bg).trans bh).trans bd).trans aS).trans aT).trans aU).trans aV).trans aW).trans aX).trans aE).trans aF).to')).move (Step.refl _ Nil) nilM qbG, (show TreeR _ (Imm F w bf [⟨b, o, [.int .i8 ((D.f 0).n), .pointer ((D.f 1).A), .int .i8 ((D.f 2).n), .pointer ((D.f 3).A), .pointer ((D.f 4).A), .int .i8 ((D.f 5).n), .int .i8 ((D.f 6).n), .map D.m], false⟩, ⟨b9, 0, [.int .i64 0, .slice none 0 0, .bool false, .slice (some ⟨aa, 0, none⟩) 7 7, .slice ab D.u.length ac], true⟩, ⟨aa, 0, [.int .i64 (IntKind.i64.wrap ((D.f 0).n)), .slice none 0 0, .bool false, .slice none 0 0, .slice none 0 0, .int .i64 aG, .slice aL aH.length aM, .bool aI, .slice aN aJ.length aO, .slice aP aK.length aQ, .int .i64 (IntKind.i64.wrap ((D.f 2).n)), .slice none 0 0, .bool false, .slice none 0 0, .slice none 0 0, .int .i64 ae, .slice aj af.length ak, .bool ag, .slice al ah.length am, .slice ao ai.length ap, .int .i64 ar, .slice ay au.length az, .bool av, .slice aA aw.length aB, .slice aC ax.length aD, .int .i64 (IntKind.i64.wrap ((D.f 5).n)), .slice none 0 0, .bool false, .slice none 0 0, .slice none 0 0, .int .i64 (IntKind.i64.wrap ((D.f 6).n)), .slice none 0 0, .bool false, .slice none 0 0, .slice none 0 0], true⟩, ⟨aY, 0, [.int .i64 0, .slice none 0 0, .bool false, .slice (some ⟨aa, 0, none⟩) 7 7, .slice ab D.u.length ac], true⟩] []) _ _ from (TreeR.mk (n := IntKind.i64.wrap ((D.f 2).n)) (b := false) (s := []) (l := []) (u := []) (fun _ => []) (Octs.nil _ _) (Slots.nil _ _ _ _) (fun i_ x_ h_ => by simp at h_) (TagsR.nil _ _))).move (Step.refl _ Nil) nilM qbG, (show TreeR _ (Imm F w bf [⟨b, o, [.int .i8 ((D.f 0).n), .pointer ((D.f 1).A), .int .i8 ((D.f 2).n), .pointer ((D.f 3).A), .pointer ((D.f 4).A), .int .i8 ((D.f 5).n), .int .i8 ((D.f 6).n), .map D.m], false⟩, ⟨b9, 0, [.int .i64 0, .slice none 0 0, .bool false, .slice (some ⟨aa, 0, none⟩) 7 7, .slice ab D.u.length ac], true⟩, ⟨aa, 0, [.int .i64 (IntKind.i64.wrap ((D.f 0).n)), .slice none 0 0, .bool false, .slice none 0 0, .slice none 0 0, .int .i64 aG, .slice aL aH.length aM, .bool aI, .slice aN aJ.length aO, .slice aP aK.length aQ, .int .i64 (IntKind.i64.wrap ((D.f 2).n)), .slice none 0 0, .bool false, .slice none 0 0, .slice none 0 0, .int .i64 ae, .slice aj af.length ak, .bool ag, .slice al ah.length am, .slice ao ai.length ap, .int .i64 ar, .slice ay au.length az, .bool av, .slice aA aw.length aB, .slice aC ax.length aD, .int .i64 (IntKind.i64.wrap ((D.f 5).n)), .slice none 0 0, .bool false, .slice none 0 0, .slice none 0 0, .int .i64 (IntKind.i64.wrap ((D.f 6).n)), .slice none 0 0, .bool false, .slice none 0 0, .slice none 0 0], true⟩, ⟨aY, 0, [.int .i64 0, .slice none 0 0, .bool false, .slice (some ⟨aa, 0, none⟩) 7 7, .slice ab D.u.length ac], true⟩] []) _ _ from (bk.move ((((((((((bg.trans bh).trans bd).trans aS).trans aT).trans aU).trans aV).trans aW).trans aX).trans aE).trans aF).step immM ((((((((((bg.trans bh).trans bd).trans aS).trans aT).trans aU).trans aV).trans aW).trans aX).trans aE).trans aF).to')).move (Step.refl _ Nil) nilM qbG, (show TreeR _ (Imm F w bf [⟨b, o, [.int .i8 ((D.f 0).n), .pointer ((D.f 1).A), .int .i8 ((D.f 2).n), .pointer ((D.f 3).A), .pointer ((D.f 4).A), .int .i8 ((D.f 5).n), .int .i8 ((D.f 6).n), .map D.m], false⟩, ⟨b9, 0, [.int .i64 0, .slice none 0 0, .bool false, .slice (some ⟨aa, 0, none⟩) 7 7, .slice ab D.u.length ac], true⟩, ⟨aa, 0, [.int .i64 (IntKind.i64.wrap ((D.f 0).n)), .slice none 0 0, .bool false, .slice none 0 0, .slice none 0 0, .int .i64 aG, .slice aL aH.length aM, .bool aI, .slice aN aJ.length aO, .slice aP aK.length aQ, .int .i64 (IntKind.i64.wrap ((D.f 2).n)), .slice none 0 0, .bool false, .slice none 0 0, .slice none 0 0, .int .i64 ae, .slice aj af.length ak, .bool ag, .slice al ah.length am, .slice ao ai.length ap, .int .i64 ar, .slice ay au.length az, .bool av, .slice aA aw.length aB, .slice aC ax.length aD, .int .i64 (IntKind.i64.wrap ((D.f 5).n)), .slice none 0 0, .bool false, .slice none 0 0, .slice none 0 0, .int .i64 (IntKind.i64.wrap ((D.f 6).n)), .slice none 0 0, .bool false, .slice none 0 0, .slice none 0 0], true⟩, ⟨aY, 0, [.int .i64 0, .slice none 0 0, .bool false, .slice (some ⟨aa, 0, none⟩) 7 7, .slice ab D.u.length ac], true⟩] []) _ _ from (bq.move (((((((aS.trans aT).trans aU).trans aV).trans aW).trans aX).trans aE).trans aF).step immM (((((((aS.trans aT).trans aU).trans aV).trans aW).trans aX).trans aE).trans aF).to')).move (Step.refl _ Nil) nilM qbG, (show TreeR _ (Imm F w bf [⟨b, o, [.int .i8 ((D.f 0).n), .pointer ((D.f 1).A), .int .i8 ((D.f 2).n), .pointer ((D.f 3).A), .pointer ((D.f 4).A), .int .i8 ((D.f 5).n), .int .i8 ((D.f 6).n), .map D.m], false⟩, ⟨b9, 0, [.int .i64 0, .slice none 0 0, .bool false, .slice (some ⟨aa, 0, none⟩) 7 7, .slice ab D.u.length ac], true⟩, ⟨aa, 0, [.int .i64 (IntKind.i64.wrap ((D.f 0).n)), .slice none 0 0, .bool false, .slice none 0 0, .slice none 0 0, .int .i64 aG, .slice aL aH.length aM, .bool aI, .slice aN aJ.length aO, .slice aP aK.length aQ, .int .i64 (IntKind.i64.wrap ((D.f 2).n)), .slice none 0 0, .bool false, .slice none 0 0, .slice none 0 0, .int .i64 ae, .slice aj af.length ak, .bool ag, .slice al ah.length am, .slice ao ai.length ap, .int .i64 ar, .slice ay au.length az, .bool av, .slice aA aw.length aB, .slice aC ax.length aD, .int .i64 (IntKind.i64.wrap ((D.f 5).n)), .slice none 0 0, .bool false, .slice none 0 0, .slice none 0 0, .int .i64 (IntKind.i64.wrap ((D.f 6).n)), .slice none 0 0, .bool false, .slice none 0 0, .slice none 0 0], true⟩, ⟨aY, 0, [.int .i64 0, .slice none 0 0, .bool false, .slice (some ⟨aa, 0, none⟩) 7 7, .slice ab D.u.length ac], true⟩] []) _ _ from (TreeR.mk (n := IntKind.i64.wrap ((D.f 5).n)) (b := false) (s := []) (l := []) (u := []) (fun _ => []) (Octs.nil _ _) (Slots.nil _ _ _ _) (fun i_ x_ h_ => by simp at h_) (TagsR.nil _ _))).move (Step.refl _ Nil) nilM qbG, (show TreeR _ (Imm F w bf [⟨b, o, [.int .i8 ((D.f 0).n), .pointer ((D.f 1).A), .int .i8 ((D.f 2).n), .pointer ((D.f 3).A), .pointer ((D.f 4).A), .int .i8 ((D.f 5).n), .int .i8 ((D.f 6).n), .map D.m], false⟩, ⟨b9, 0, [.int .i64 0, .slice none 0 0, .bool false, .slice (some ⟨aa, 0, none⟩) 7 7, .slice ab D.u.length ac], true⟩, ⟨aa, 0, [.int .i64 (IntKind.i64.wrap ((D.f 0).n)), .slice none 0 0, .bool false, .slice none 0 0, .slice none 0 0, .int .i64 aG, .slice aL aH.length aM, .bool aI, .slice aN aJ.length aO, .slice aP aK.length aQ, .int .i64 (IntKind.i64.wrap ((D.f 2).n)), .slice none 0 0, .bool false, .slice none 0 0, .slice none 0 0, .int .i64 ae, .slice aj af.length ak, .bool ag, .slice al ah.length am, .slice ao ai.length ap, .int .i64 ar, .slice ay au.length az, .bool av, .slice aA aw.length aB, .slice aC ax.length aD, .int .i64 (IntKind.i64.wrap ((D.f 5).n)), .slice none 0 0, .bool false, .slice none 0 0, .slice none 0 0, .int .i64 (IntKind.i64.wrap ((D.f 6).n)), .slice none 0 0, .bool false, .slice none 0 0, .slice none 0 0], true⟩, ⟨aY, 0, [.int .i64 0, .slice none 0 0, .bool false, .slice (some ⟨aa, 0, none⟩) 7 7, .slice ab D.u.length ac], true⟩] []) _ _ from (TreeR.mk (n := IntKind.i64.wrap ((D.f 6).n)) (b := false) (s := []) (l := []) (u := []) (fun _ => []) (Octs.nil _ _) (Slots.nil _ _ _ _) (fun i_ x_ h_ => by simp at h_) (TagsR.nil _ _))).move (Step.refl _ Nil) nilM qbG, trivial⟩ ((show TagsR _ (Imm F w bf [⟨b, o, [.int .i8 ((D.f 0).n), .pointer ((D.f 1).A), .int .i8 ((D.f 2).n), .pointer ((D.f 3).A), .pointer ((D.f 4).A), .int .i8 ((D.f 5).n), .int .i8 ((D.f 6).n), .map D.m], false⟩, ⟨b9, 0, [.int .i64 0, .slice none 0 0, .bool false, .slice (some ⟨aa, 0, none⟩) 7 7, .slice ab D.u.length ac], true⟩, ⟨aa, 0, [.int .i64 (IntKind.i64.wrap ((D.f 0).n)), .slice none 0 0, .bool false, .slice none 0 0, .slice none 0 0, .int .i64 aG, .slice aL aH.length aM, .bool aI, .slice aN aJ.length aO, .slice aP aK.length aQ, .int .i64 (IntKind.i64.wrap ((D.f 2).n)), .slice none 0 0, .bool false, .slice none 0 0, .slice none 0 0, .int .i64 ae, .slice aj af.length ak, .bool ag, .slice al ah.length am, .slice ao ai.length ap, .int .i64 ar, .slice ay au.length az, .bool av, .slice aA aw.length aB, .slice aC ax.length aD, .int .i64 (IntKind.i64.wrap ((D.f 5).n)), .slice none 0 0, .bool false, .slice none 0 0, .slice none 0 0, .int .i64 (IntKind.i64.wrap ((D.f 6).n)), .slice none 0 0, .bool false, .slice none 0 0, .slice none 0 0], true⟩, ⟨aY, 0, [.int .i64 0, .slice none 0 0, .bool false, .slice (some ⟨aa, 0, none⟩) 7 7, .slice ab D.u.length ac], true⟩] []) _ _ _ from (bH.move (aE.trans aF).step immM (aE.trans aF).to')).move (Step.refl _ Nil) nilM qbG)
set_option maxHeartbeats 4000000 in
theorem qdR (v : Int) (D : DV) (b o : Nat) (w : World) (F : Nat → Nat → Prop) (hat : AtF w F b o [.int .i16 v, .slice ((D.f 0).A) ((D.f 0).l) ((D.f 0).c), .map D.m]) (hok : qbh w F D) : Calls Tryz.prog 111 #[.pointer (some ⟨b, o, none⟩)] w (qdZ w F (qbc D)) := by
 refine enter (n := 72) Tryz.func111 rfl Tryz.ntmps111 kz fun a hE => ?_
 have hW : WOk w Nil w [⟨b, o, [.int .i16 v, .slice ((D.f 0).A) ((D.f 0).l) ((D.f 0).c), .map D.m], false⟩] [] := (WOk.start w Nil).start1 hat rfl rfl
 unfold qbh at hok
 obtain ⟨⟨g1, g1l, g1e⟩, g2, g2l, g2x, _⟩ := hok
 have hE0 := (EnvOk.ptr0 (cs := [.int .i16 v, .slice ((D.f 0).A) ((D.f 0).l) ((D.f 0).c), .map D.m]) (r := false) hE).pk (env' := [(0, .p 0 0)])
 refine qad [0] kz ?_
 refine qaj (qaK hW hE0 (d := 2) (cs := [.int .i64 0, .slice none 0 0, .bool false, .slice none 0 0, .slice none 0 0]) kz fun b3 a4 w5 hb6 hz7 hF8 hW9 fr => ?_)
 refine qae (qab ?_)
 refine qad [0, 1, 2, 3] kz ?_
 refine qaj (qfp (t := 34) (e := 37) (size := 5) (bytes := 88) (d := 5) (j := 1) (.agg #[.int .i64 0, .slice none 0 0, .bool false, .slice none 0 0, .slice none 0 0]) [.int .i64 0, .slice none 0 0, .bool false, .slice none 0 0, .slice none 0 0] hW9 fr fun aa iX iY gz gA gB dp ft => ?_)
 refine qah [1] [2, 3] [(0, .p 0 0), (2, .p 1 0), (6, .v (.agg #[.int .i64 0, .slice none 0 0, .bool false, .slice (some ⟨aa, 0, none⟩) 1 1, .slice none 0 0]))] dp ft fun iZ fu => ?_
 refine qaj (qaK dp fu (d := 3) (cs := [.int .i64 0, .slice none 0 0, .bool false, .slice none 0 0, .slice none 0 0]) kz fun bu i6 i7 gC gD gE fv fw => ?_)
 refine qaj (qav fv fw (oi := 3) (cs := [.int .i64 0, .slice none 0 0, .bool false, .slice (some ⟨aa, 0, none⟩) 1 1, .slice none 0 0]) kz fun ja gF fx fy => ?_)
 refine qae (qab ?_)
 refine qaE 9 kz fx fun jb gG fz c6 => ?_
 refine qaF [0, 1, 2, 3, 4, 5, 6] [(0, .p 0 0), (2, .p 1 0), (3, .p 3 0), (8, .v (.slice (some ⟨aa, 0, none⟩) 1 1)), (13, .v (.bool (((D.f 0).A).isNone)))] 3 (qaa qaf) (fun _ h => h.cells) c6 fy fun jc fA => ?_
 refine qay (i := 7) kz (qaA fA (t := 34) (A := (some ⟨aa, 0, none⟩)) (m := 1) (q := 0) (d := 14) kz (e := 37) (size := 5) (bytes := 88) (j := 0) kz (b := aa) (o := 0) rfl rfl (by decide) fun jd fB => ?_)
 have fC := fB.recast 14 (.v (.pointer (some ⟨aa, 0 + 0 * 5, none⟩))) (.p 2 0) rfl rfl (Nat.le_of_ble_eq_true (n := 3) rfl)
 have fD := fC.pk (env' := [(0, .p 0 0), (2, .p 1 0), (3, .p 3 0), (8, .v (.slice (some ⟨aa, 0, none⟩) 1 1)), (13, .v (.bool (((D.f 0).A).isNone))), (14, .p 2 0)])
 refine ⟨fun _ => c6, ?_⟩
 refine qaF [8] [(0, .p 0 0), (2, .p 1 0), (3, .p 3 0), (13, .v (.bool (((D.f 0).A).isNone))), (15, .p 2 2)] 1 (qaa qaf) (fun _ h => h.cells) c6 fD fun je fE => ?_
 refine qay (i := 9) kz (qav fz fE (oi := 2) (cs := [.int .i64 0, .slice none 0 0, .bool (((D.f 0).A).isNone), .slice none 0 0, .slice none 0 0]) kz fun jf gH da fF => ?_)
 refine ⟨fun h => absurd rfl h, ?_⟩
 refine qaC kz ?_ _
 refine qab ?_
 refine wp_seq ?_
 refine qam [(0, .p 0 0), (2, .p 1 0), (3, .p 3 0), (20, .v (.int .i64 (((D.f 0).l : Nat) : Int))), (21, .v (.int .i64 0))] da fF fun jg fG => ?_
 refine wp_block ?_
 have dq := da.addNil 37 5
 have gI := da.frNil 37 5
 refine wp_loop_ghost (fun n_ a_ w_ => ∃ (k0_ : Nat) (A0_ : Option Addr) (c0_ : Nat) (xs0_ : List Value) (css0_ : List (List Value)), n_ = (D.f 0).l - k0_ ∧ k0_ ≤ (D.f 0).l ∧ (Trees w_ (Imm F w w_ [⟨b, o, [.int .i16 v, .slice ((D.f 0).A) ((D.f 0).l) ((D.f 0).c), .map D.m], false⟩, ⟨b3, 0, [.int .i64 0, .slice none 0 0, .bool false, .slice none 0 0, .slice none 0 0], true⟩, ⟨aa, 0, [.int .i64 0, .slice none 0 0, .bool (((D.f 0).A).isNone), .slice A0_ k0_ c0_, .slice none 0 0], true⟩, ⟨bu, 0, [.int .i64 0, .slice none 0 0, .bool false, .slice (some ⟨aa, 0, none⟩) 1 1, .slice none 0 0], true⟩] [⟨A0_, c0_, 37, 5, k0_, xs0_⟩]) xs0_ (((List.range (D.f 0).l).map (fun i => qaU ((D.f 0).f i))).take k0_) css0_) ∧ LInv dq 72 [⟨b, o, [.int .i16 v, .slice ((D.f 0).A) ((D.f 0).l) ((D.f 0).c), .map D.m], false⟩, ⟨b3, 0, [.int .i64 0, .slice none 0 0, .bool false, .slice none 0 0, .slice none 0 0], true⟩, ⟨aa, 0, [.int .i64 0, .slice none 0 0, .bool (((D.f 0).A).isNone), .slice A0_ k0_ c0_, .slice none 0 0], true⟩, ⟨bu, 0, [.int .i64 0, .slice none 0 0, .bool false, .slice (some ⟨aa, 0, none⟩) 1 1, .slice none 0 0], true⟩] [⟨A0_, c0_, 37, 5, k0_, xs0_⟩] [(0, .p 0 0), (2, .p 1 0), (3, .p 3 0), (20, .v (.int .i64 (((D.f 0).l : Nat) : Int))), (21, .v (.int .i64 ((k0_ : Nat) : Int)))] a_ w_) ((D.f 0).l) ⟨0, none, 0, [], [], by omega, by omega, Trees.nil _ _, fG.pk, dq, Fr.refl _ _ _⟩ ?_
 rintro jh ji gJ ⟨k0_, A0_, c0_, xs0_, css0_, gK, gL, hT0_, fH, ax, db⟩
 refine qam [(0, .p 0 0), (2, .p 1 0), (3, .p 3 0), (20, .v (.int .i64 (((D.f 0).l : Nat) : Int))), (21, .v (.int .i64 ((k0_ : Nat) : Int))), (22, .v (.bool (decide (((k0_ : Nat) : Int) < (((D.f 0).l : Nat) : Int)))))] ax fH fun jj dc => ?_
 refine wp_seq ?_
 refine qat dc (b := decide (((k0_ : Nat) : Int) < (((D.f 0).l : Nat) : Int))) kz (fun de => ?_) (fun de => ?_)
 ·
  have gM := of_decide_eq_true de
  refine wp_skip ?_
  refine qab ?_
  refine wp_seq ?_
  refine wp_block ?_
  refine qam [(0, .p 0 0), (2, .p 1 0), (3, .p 3 0), (4, .v (.int .i64 ((k0_ : Nat) : Int))), (20, .v (.int .i64 (((D.f 0).l : Nat) : Int))), (21, .v (.int .i64 ((k0_ : Nat) : Int)))] ax dc fun jk fI => ?_
  refine qaE 4 kz ax fun jl aC fJ gN => ?_
  refine qay (i := 0) kz (qaK fJ fI (d := 24) (cs := [.bool false]) kz fun jm jn jo gO gP ab df dr => ?_)
  have fK := TT.ofW ab df
  refine ⟨fun _ => fK, ?_⟩
  refine qfV (i := 1) (j := 2) kz ?_ ?_
  ·
   refine (qav df dr (oi := 4) (cs := [.bool true]) kz fun jp bE dt fL => ?_)
   have fM := TT.ofW (ab.trans bE) dt
   refine ⟨fun _ => fM, ?_⟩
   refine qay (i := 2) kz (qav dt fL (oi := 4) (cs := [.bool false]) kz fun jq bS cz fN => ?_)
   have fO := TT.ofW ((ab.trans bE).trans bS) cz
   refine ⟨fun _ => fO, ?_⟩
   refine qay (i := 3) kz (qa9 [0, 2, 3, 4, 20, 21, 25] cz.cells fN (env' := [(0, .p 0 0), (2, .p 1 0), (3, .p 3 0), (4, .v (.int .i64 ((k0_ : Nat) : Int))), (20, .v (.int .i64 (((D.f 0).l : Nat) : Int))), (21, .v (.int .i64 ((k0_ : Nat) : Int))), (25, .v (.bool false))]) kz fun jr du => ?_)
   have fP := TT.ofW ((ab.trans bE).trans bS) cz
   refine ⟨fun _ => fP, ?_⟩
   refine qaC kz ?_ _
   refine qab ?_
   refine qan du (b := false) kz rfl ?_
   refine qcP 18 kz cz fun js dg bt cA => ?_
   refine qaF [0, 1, 2, 3, 7, 8, 9, 10, 11] [(0, .p 0 0), (2, .p 1 0), (3, .p 3 0), (20, .v (.int .i64 (((D.f 0).l : Nat) : Int))), (21, .v (.int .i64 ((k0_ : Nat) : Int))), (45, .v (.slice (some ⟨aa, 0, none⟩) 1 1)), (47, .v (.slice (some ⟨aa, 0, none⟩) 1 1)), (54, .v (.slice ((D.f 0).A) ((D.f 0).l) ((D.f 0).c))), (55, .v (.int .i64 ((k0_ : Nat) : Int)))] 10 (qac (qaa (qaa (qac (qaa qaf))))) (fun _ h => h.cells) cA du fun jt fQ => ?_
   refine qaL fQ (i := 4) (t := 34) (A := (some ⟨aa, 0, none⟩)) (m := 1) (q := 0) (d := 48) kz (e := 37) (size := 5) (bytes := 88) (j := 0) kz (b := aa) (o := 0) rfl rfl (by decide) kz kz (qac (qaa (qaa (qac (qaa qaf))))) cA fun gQ dv => ?_
   have dw := dv.recast 48 (.v (.pointer (some ⟨aa, 0 + 0 * 5, none⟩))) (.p 2 0) rfl rfl (Nat.le_of_ble_eq_true (n := 3) rfl)
   have dx := dw.pk (env' := [(0, .p 0 0), (2, .p 1 0), (3, .p 3 0), (20, .v (.int .i64 (((D.f 0).l : Nat) : Int))), (21, .v (.int .i64 ((k0_ : Nat) : Int))), (45, .v (.slice (some ⟨aa, 0, none⟩) 1 1)), (47, .v (.slice (some ⟨aa, 0, none⟩) 1 1)), (54, .v (.slice ((D.f 0).A) ((D.f 0).l) ((D.f 0).c))), (55, .v (.int .i64 ((k0_ : Nat) : Int))), (48, .p 2 0)])
   refine qaF [5, 6] [(0, .p 0 0), (2, .p 1 0), (3, .p 3 0), (20, .v (.int .i64 (((D.f 0).l : Nat) : Int))), (21, .v (.int .i64 ((k0_ : Nat) : Int))), (45, .v (.slice (some ⟨aa, 0, none⟩) 1 1)), (50, .v (.slice A0_ k0_ c0_)), (54, .v (.slice ((D.f 0).A) ((D.f 0).l) ((D.f 0).c))), (55, .v (.int .i64 ((k0_ : Nat) : Int)))] 7 (qac (qaa (qaa (qac (qaa qaf))))) (fun _ h => h.cells) cA dx fun gR dy => ?_
   obtain ⟨dz, dA, dB, gc, dh⟩ := Slots.get g1 (i := k0_) (by omega)
   refine qaL dy (i := 12) (t := 176) (A := (D.f 0).A) (m := ((D.f 0).l)) (q := ((k0_ : Nat) : Int)) (d := 56) kz (e := 182) (size := 8) (bytes := 56) kz dB rfl (by omega) kz kz (qac (qaa (qaa (qac (qaa qaf))))) cA fun gS dC => ?_
   refine qay (i := 13) kz (qai dC (f := 166) (vs := [.pointer (some ⟨dz, dA + k0_ * 8, none⟩)]) (d := 57) kz Tryz.call166 (qbt 0 ((D.f 0).f k0_) _ _ _ _ (dh.move bt.step nilM bt.imm) (qaY _ bt.step nilM bt.imm (g1e k0_ (by omega)))) ?_)
   rintro e_ gT ⟨gd, rfl, dD, bT⟩
   have bU := dD.move (Step.refl _ Nil) nilM (bt.laid (G := F) bT)
   obtain ⟨bF, bG, bH, bI, bJ, bK, bL, bM, bN, bO, bP, ge, gg, bV, fR, fS, gU, gV⟩ := bU.open_
   rw [bV] at bU
   have fT := fR.small
   have fU := fS.small
   rw [bV]
   refine ⟨_, rfl, fun gW dE => ?_⟩
   have cD := bt.next_nil bT
   have al := bt.frN bT
   have dF := TT.ofW al cD
   refine ⟨fun _ => dF, ?_⟩
   refine qay (i := 14) kz (qbE cD dE (e := 37) (size := 5) (len := 1) (cs := [.int .i64 bF, .slice bK bG.length bL, .bool bH, .slice bM bI.length bN, .slice bO bJ.length bP]) (d := 58) kz kz fun dG gX gY gh gi ae bw dH => ?_)
   have dI := TT.ofW (al.trans ae) bw
   refine ⟨fun _ => dI, ?_⟩
   refine qay (i := 15) kz (qaQ bw dH (k := 0) (d := 59) (t := 34) (e := 37) (size := 5) (bytes := 88) (A := A0_) (As := (some ⟨dG, 0, none⟩)) (m0 := k0_) (c := c0_) (m := 1) (cs := 1) (xs := xs0_) (news := [.int .i64 bF, .slice bK bG.length bL, .bool bH, .slice bM bI.length bN, .slice bO bJ.length bP]) kz kz rfl (qbD (bw.own 1 _ rfl) (qbJ kz)) (qbL (bw.own 1 _ rfl)) (by omega) fun bQ bR gZ g9 am bW dJ => ?_)
   have dK := TT.ofW ((al.trans ae).trans am) bW
   refine ⟨fun _ => dK, ?_⟩
   refine qay (i := 16) kz (qaA dJ (t := 34) (A := (some ⟨aa, 0, none⟩)) (m := 1) (q := 0) (d := 60) kz (e := 37) (size := 5) (bytes := 88) (j := 0) kz (b := aa) (o := 0) rfl rfl (by decide) fun hC dL => ?_)
   have dM := dL.recast 60 (.v (.pointer (some ⟨aa, 0 + 0 * 5, none⟩))) (.p 2 0) rfl rfl (Nat.le_of_ble_eq_true (n := 3) rfl)
   have dN := dM.pk (env' := [(0, .p 0 0), (2, .p 1 0), (3, .p 3 0), (20, .v (.int .i64 (((D.f 0).l : Nat) : Int))), (21, .v (.int .i64 ((k0_ : Nat) : Int))), (45, .v (.slice (some ⟨aa, 0, none⟩) 1 1)), (50, .v (.slice A0_ k0_ c0_)), (54, .v (.slice ((D.f 0).A) ((D.f 0).l) ((D.f 0).c))), (55, .v (.int .i64 ((k0_ : Nat) : Int))), (56, .v (.pointer (some ⟨dz, dA + k0_ * 8, none⟩))), (57, .v (.agg #[.int .i64 bF, .slice bK bG.length bL, .bool bH, .slice bM bI.length bN, .slice bO bJ.length bP])), (58, .v (.slice (some ⟨dG, 0, none⟩) 1 1)), (59, .v (.slice bQ (k0_ + 1) bR)), (60, .p 2 0)])
   have cE := TT.ofW ((al.trans ae).trans am) bW
   refine ⟨fun _ => cE, ?_⟩
   refine qaF [17] [(0, .p 0 0), (2, .p 1 0), (3, .p 3 0), (20, .v (.int .i64 (((D.f 0).l : Nat) : Int))), (21, .v (.int .i64 ((k0_ : Nat) : Int))), (59, .v (.slice bQ (k0_ + 1) bR)), (61, .p 2 3)] 1 (qac (qaa (qaa (qac (qaa qaf))))) (fun _ h => h.cells) cE dN fun hJ dO => ?_
   refine qay (i := 18) kz (qav bW dO (oi := 2) (cs := [.int .i64 0, .slice none 0 0, .bool (((D.f 0).A).isNone), .slice bQ (k0_ + 1) bR, .slice none 0 0]) kz fun hK aZ cG dP => ?_)
   refine ⟨fun h => absurd rfl h, ?_⟩
   refine qaC kz ?_ _
   refine qap ?_
   refine qab ?_
   refine qar [0, 1] kz ?_
   refine qah [0, 1] [] [(0, .p 0 0), (2, .p 1 0), (3, .p 3 0), (20, .v (.int .i64 (((D.f 0).l : Nat) : Int))), (21, .v (.int .i64 (IntKind.i64.wrap (((k0_ : Nat) : Int) + 1))))] cG dP fun hZ dQ => ?_
   refine qae (qab ?_)
   obtain ⟨cH, dR, ba⟩ := cG.cutB dQ 4 [⟨b, o, [.int .i16 v, .slice ((D.f 0).A) ((D.f 0).l) ((D.f 0).c), .map D.m], false⟩, ⟨b3, 0, [.int .i64 0, .slice none 0 0, .bool false, .slice none 0 0, .slice none 0 0], true⟩, ⟨aa, 0, [.int .i64 0, .slice none 0 0, .bool (((D.f 0).A).isNone), .slice bQ (k0_ + 1) bR, .slice none 0 0], true⟩, ⟨bu, 0, [.int .i64 0, .slice none 0 0, .bool false, .slice (some ⟨aa, 0, none⟩) 1 1, .slice none 0 0], true⟩] [(0, .p 0 0), (2, .p 1 0), (3, .p 3 0), (20, .v (.int .i64 (((D.f 0).l : Nat) : Int))), (21, .v (.int .i64 (IntKind.i64.wrap (((k0_ : Nat) : Int) + 1))))]
   obtain ⟨dS, bd⟩ := dR.cutR 1 [⟨bQ, bR, 37, 5, k0_ + 1, xs0_ ++ [.int .i64 bF, .slice bK bG.length bL, .bool bH, .slice bM bI.length bN, .slice bO bJ.length bP]⟩]
   have dT : IntKind.i64.wrap (((k0_ : Nat) : Int) + 1) = ((k0_ + 1 : Nat) : Int) := qaJ (by omega)
   rw [dT] at cH
   exact ⟨(D.f 0).l - (k0_ + 1), by omega, k0_ + 1, bQ, bR, xs0_ ++ [Value.int .i64 bF, .slice bK bG.length bL, .bool bH, .slice bM bI.length bN, .slice bO bJ.length bP], (css0_ ++ [[Value.int .i64 bF, .slice bK bG.length bL, .bool bH, .slice bM bI.length bN, .slice bO bJ.length bP]]), rfl, by omega, by rw [qes (by omega)]; exact (hT0_.move ((((((((((aC.trans ab).trans bE).trans bS).trans dg).trans al).trans ae).trans am).trans aZ).trans ba).trans bd).step immM ((((((((((aC.trans ab).trans bE).trans bS).trans dg).trans al).trans ae).trans am).trans aZ).trans ba).trans bd).to').snoc (x := (fun i => qaU ((D.f 0).f i)) k0_) (bU.move ((((ae.trans am).trans aZ).trans ba).trans bd).step immM ((((ae.trans am).trans aZ).trans ba).trans bd).to'), cH.pk, dS, (((((((((((db.trans aC).trans ab).trans bE).trans bS).trans dg).trans al).trans ae).trans am).trans aZ).trans ba).trans bd)⟩
  ·
   refine (qav df dr (oi := 4) (cs := [.bool false]) kz fun ia ac cI dU => ?_)
   have dV := TT.ofW (ab.trans ac) cI
   refine ⟨fun _ => dV, ?_⟩
   refine qay (i := 1) kz (qav cI dU (oi := 4) (cs := [.bool true]) kz fun ib af bx dW => ?_)
   have dX := TT.ofW ((ab.trans ac).trans af) bx
   refine ⟨fun _ => dX, ?_⟩
   refine qay (i := 3) kz (qa9 [0, 2, 3, 4, 20, 21, 25] bx.cells dW (env' := [(0, .p 0 0), (2, .p 1 0), (3, .p 3 0), (4, .v (.int .i64 ((k0_ : Nat) : Int))), (20, .v (.int .i64 (((D.f 0).l : Nat) : Int))), (21, .v (.int .i64 ((k0_ : Nat) : Int))), (25, .v (.bool true))]) kz fun ic cJ => ?_)
   have dY := TT.ofW ((ab.trans ac).trans af) bx
   refine ⟨fun _ => dY, ?_⟩
   refine qaC kz ?_ _
   refine qab ?_
   refine qaV cJ (b := true) kz rfl ?_
   refine qaE 17 kz bx fun ig aA ag bz => ?_
   refine qaF [0, 1, 5, 6, 7, 8, 9] [(0, .p 0 0), (2, .p 1 0), (3, .p 3 0), (20, .v (.int .i64 (((D.f 0).l : Nat) : Int))), (21, .v (.int .i64 ((k0_ : Nat) : Int))), (27, .v (.slice (some ⟨aa, 0, none⟩) 1 1)), (34, .v (.slice ((D.f 0).A) ((D.f 0).l) ((D.f 0).c))), (35, .v (.int .i64 ((k0_ : Nat) : Int)))] 11 (qaa (qac (qaa (qaa (qac (qaa qaf)))))) (fun _ h => h.cells) bz cJ fun ii dZ => ?_
   refine qaL dZ (i := 2) (t := 34) (A := (some ⟨aa, 0, none⟩)) (m := 1) (q := 0) (d := 28) kz (e := 37) (size := 5) (bytes := 88) (j := 0) kz (b := aa) (o := 0) rfl rfl (by decide) kz kz (qaa (qac (qaa (qaa (qac (qaa qaf)))))) bz fun ij d5 => ?_
   have d6 := d5.recast 28 (.v (.pointer (some ⟨aa, 0 + 0 * 5, none⟩))) (.p 2 0) rfl rfl (Nat.le_of_ble_eq_true (n := 3) rfl)
   have d7 := d6.pk (env' := [(0, .p 0 0), (2, .p 1 0), (3, .p 3 0), (20, .v (.int .i64 (((D.f 0).l : Nat) : Int))), (21, .v (.int .i64 ((k0_ : Nat) : Int))), (27, .v (.slice (some ⟨aa, 0, none⟩) 1 1)), (34, .v (.slice ((D.f 0).A) ((D.f 0).l) ((D.f 0).c))), (35, .v (.int .i64 ((k0_ : Nat) : Int))), (28, .p 2 0)])
   refine qaF [3, 4, 12] [(0, .p 0 0), (2, .p 1 0), (3, .p 3 0), (20, .v (.int .i64 (((D.f 0).l : Nat) : Int))), (21, .v (.int .i64 ((k0_ : Nat) : Int))), (27, .v (.slice (some ⟨aa, 0, none⟩) 1 1)), (30, .v (.slice A0_ k0_ c0_)), (34, .v (.slice ((D.f 0).A) ((D.f 0).l) ((D.f 0).c))), (35, .v (.int .i64 ((k0_ : Nat) : Int))), (38, .v (.int .i64 ((k0_ : Nat) : Int)))] 7 (qaa (qac (qaa (qaa (qac (qaa qaf)))))) (fun _ h => h.cells) bz d7 fun ik d8 => ?_
   obtain ⟨cB, cC, d9, gj, bX⟩ := Slots.get g1 (i := k0_) (by omega)
   refine qaL d8 (i := 10) (t := 176) (A := (D.f 0).A) (m := ((D.f 0).l)) (q := ((k0_ : Nat) : Int)) (d := 36) kz (e := 182) (size := 8) (bytes := 56) kz d9 rfl (by omega) kz kz (qaa (qac (qaa (qaa (qac (qaa qaf)))))) bz fun il cK => ?_
   refine qfV (i := 11) (j := 13) kz ?_ ?_
   ·
    refine (qai cK (f := 166) (vs := [.pointer (some ⟨cB, cC + k0_ * 8, none⟩)]) (d := 37) kz Tryz.call166 (qbt 0 ((D.f 0).f k0_) _ _ _ _ (bX.move ag.step nilM ag.imm) (qaY _ ag.step nilM ag.imm (g1e k0_ (by omega)))) ?_)
    rintro e_ im ⟨gk, rfl, ea, bY⟩
    have bZ := ea.move (Step.refl _ Nil) nilM (ag.laid (G := F) bY)
    obtain ⟨aD, aE, aF, aG, aH, aI, aJ, aK, aL, aM, aN, gl, gm, b8, fV, fW, io, ip⟩ := bZ.open_
    rw [b8] at bZ
    have fX := fV.small
    have fY := fW.small
    rw [b8]
    refine ⟨_, rfl, fun iq eb => ?_⟩
    have cL := ag.next_nil bY
    have ao := ag.frN bY
    have ec := TT.ofW ao cL
    refine ⟨fun _ => ec, ?_⟩
    refine qay (i := 13) kz (qbE cL eb (e := 37) (size := 5) (len := 1) (cs := [.int .i64 0, .slice none 0 0, .bool false, .slice none 0 0, .slice none 0 0]) (d := 39) kz kz fun di ir iu gn gp ah bA ee => ?_)
    have ef := TT.ofW (ao.trans ah) bA
    refine ⟨fun _ => ef, ?_⟩
    refine qay (i := 14) kz (qaQ bA ee (k := 0) (d := 40) (t := 34) (e := 37) (size := 5) (bytes := 88) (A := A0_) (As := (some ⟨di, 0, none⟩)) (m0 := k0_) (c := c0_) (m := 1) (cs := 1) (xs := xs0_) (news := [.int .i64 0, .slice none 0 0, .bool false, .slice none 0 0, .slice none 0 0]) kz kz rfl (qbD (bA.own 1 _ rfl) (qbJ kz)) (qbL (bA.own 1 _ rfl)) (by omega) fun aj ap iv iw ar cd eg => ?_)
    have eh := TT.ofW ((ao.trans ah).trans ar) cd
    refine ⟨fun _ => eh, ?_⟩
    refine qay (i := 15) kz (qaA eg (t := 34) (A := (some ⟨aa, 0, none⟩)) (m := 1) (q := 0) (d := 41) kz (e := 37) (size := 5) (bytes := 88) (j := 0) kz (b := aa) (o := 0) rfl rfl (by decide) fun ix ei => ?_)
    have ej := ei.recast 41 (.v (.pointer (some ⟨aa, 0 + 0 * 5, none⟩))) (.p 2 0) rfl rfl (Nat.le_of_ble_eq_true (n := 3) rfl)
    have ek := ej.pk (env' := [(0, .p 0 0), (2, .p 1 0), (3, .p 3 0), (20, .v (.int .i64 (((D.f 0).l : Nat) : Int))), (21, .v (.int .i64 ((k0_ : Nat) : Int))), (27, .v (.slice (some ⟨aa, 0, none⟩) 1 1)), (30, .v (.slice A0_ k0_ c0_)), (34, .v (.slice ((D.f 0).A) ((D.f 0).l) ((D.f 0).c))), (35, .v (.int .i64 ((k0_ : Nat) : Int))), (38, .v (.int .i64 ((k0_ : Nat) : Int))), (36, .v (.pointer (some ⟨cB, cC + k0_ * 8, none⟩))), (37, .v (.agg #[.int .i64 aD, .slice aI aE.length aJ, .bool aF, .slice aK aG.length aL, .slice aM aH.length aN])), (39, .v (.slice (some ⟨di, 0, none⟩) 1 1)), (40, .v (.slice aj (k0_ + 1) ap)), (41, .p 2 0)])
    have cM := TT.ofW ((ao.trans ah).trans ar) cd
    refine ⟨fun _ => cM, ?_⟩
    refine qaF [16] [(0, .p 0 0), (2, .p 1 0), (3, .p 3 0), (20, .v (.int .i64 (((D.f 0).l : Nat) : Int))), (21, .v (.int .i64 ((k0_ : Nat) : Int))), (37, .v (.agg #[.int .i64 aD, .slice aI aE.length aJ, .bool aF, .slice aK aG.length aL, .slice aM aH.length aN])), (38, .v (.int .i64 ((k0_ : Nat) : Int))), (40, .v (.slice aj (k0_ + 1) ap)), (42, .p 2 3)] 1 (qaa (qac (qaa (qaa (qac (qaa qaf)))))) (fun _ h => h.cells) cM ek fun iy em => ?_
    refine qay (i := 17) kz (qav cd em (oi := 2) (cs := [.int .i64 0, .slice none 0 0, .bool (((D.f 0).A).isNone), .slice aj (k0_ + 1) ap, .slice none 0 0]) kz fun fZ bf cN eo => ?_)
    refine ⟨fun h => absurd rfl h, ?_⟩
    refine qaC kz ?_ _
    refine qab ?_
    refine qar [0, 1] kz ?_
    have ep : World.ownsRow fZ 0 37 5 (.slice aj (k0_ + 1) ap) (k0_ + 1) (xs0_ ++ [.int .i64 0, .slice none 0 0, .bool false, .slice none 0 0, .slice none 0 0]) := cN.own 0 _ rfl
    obtain ⟨eu, cO⟩ := qb0 ep (by omega)
    refine qaj (qaA eo (t := 34) (A := aj) (m := (k0_ + 1)) (q := ((k0_ : Nat) : Int)) (d := 43) kz (e := 37) (size := 5) (bytes := 88) kz (b := eu) (o := 0) (j := k0_) cO (rfl) (by omega) fun iz ev => ?_)
    refine qaj (qb9 cN ev (k := 0) (g := eu) (o := k0_ * 5) (c := ap) (m := (k0_ + 1)) (size := 5) (e := 37) (A := aj) (xs := (xs0_ ++ [.int .i64 0, .slice none 0 0, .bool false, .slice none 0 0, .slice none 0 0])) (vs := [.int .i64 aD, .slice aI aE.length aJ, .bool aF, .slice aK aG.length aL, .slice aM aH.length aN]) kz rfl cO (by simp only [List.length_cons, List.length_nil]; omega) fun iA bg ew ey => ?_)
    have ez : (⟨aj, ap, 37, 5, k0_ + 1, qba (xs0_ ++ [.int .i64 0, .slice none 0 0, .bool false, .slice none 0 0, .slice none 0 0]) (k0_ * 5) [.int .i64 aD, .slice aI aE.length aJ, .bool aF, .slice aK aG.length aL, .slice aM aH.length aN]⟩ : Rw) = ⟨aj, ap, 37, 5, k0_ + 1, xs0_ ++ [.int .i64 aD, .slice aI aE.length aJ, .bool aF, .slice aK aG.length aL, .slice aM aH.length aN]⟩ := by rw [qe5 (by rw [hT0_.xslen, List.length_take, qea]; omega)]
    obtain ⟨cP, bh⟩ := ew.rowEq 0 [⟨aj, ap, 37, 5, k0_ + 1, xs0_ ++ [.int .i64 aD, .slice aI aE.length aJ, .bool aF, .slice aK aG.length aL, .slice aM aH.length aN]⟩, ⟨some ⟨di, 0, none⟩, 1, 37, 5, 1, [.int .i64 0, .slice none 0 0, .bool false, .slice none 0 0, .slice none 0 0]⟩] ez
    refine qae ?_
    refine qap ?_
    refine qab ?_
    refine qar [0, 1] kz ?_
    refine qah [0, 1] [] [(0, .p 0 0), (2, .p 1 0), (3, .p 3 0), (20, .v (.int .i64 (((D.f 0).l : Nat) : Int))), (21, .v (.int .i64 (IntKind.i64.wrap (((k0_ : Nat) : Int) + 1))))] cP ey fun iB eB => ?_
    refine qae (qab ?_)
    obtain ⟨cQ, eC, bi⟩ := cP.cutB eB 4 [⟨b, o, [.int .i16 v, .slice ((D.f 0).A) ((D.f 0).l) ((D.f 0).c), .map D.m], false⟩, ⟨b3, 0, [.int .i64 0, .slice none 0 0, .bool false, .slice none 0 0, .slice none 0 0], true⟩, ⟨aa, 0, [.int .i64 0, .slice none 0 0, .bool (((D.f 0).A).isNone), .slice aj (k0_ + 1) ap, .slice none 0 0], true⟩, ⟨bu, 0, [.int .i64 0, .slice none 0 0, .bool false, .slice (some ⟨aa, 0, none⟩) 1 1, .slice none 0 0], true⟩] [(0, .p 0 0), (2, .p 1 0), (3, .p 3 0), (20, .v (.int .i64 (((D.f 0).l : Nat) : Int))), (21, .v (.int .i64 (IntKind.i64.wrap (((k0_ : Nat) : Int) + 1))))]
    obtain ⟨eD, bj⟩ := eC.cutR 1 [⟨aj, ap, 37, 5, k0_ + 1, xs0_ ++ [.int .i64 aD, .slice aI aE.length aJ, .bool aF, .slice aK aG.length aL, .slice aM aH.length aN]⟩]
    have eE : IntKind.i64.wrap (((k0_ : Nat) : Int) + 1) = ((k0_ + 1 : Nat) : Int) := qaJ (by omega)
    rw [eE] at cQ
    exact ⟨(D.f 0).l - (k0_ + 1), by omega, k0_ + 1, aj, ap, xs0_ ++ [Value.int .i64 aD, .slice aI aE.length aJ, .bool aF, .slice aK aG.length aL, .slice aM aH.length aN], (css0_ ++ [[Value.int .i64 aD, .slice aI aE.length aJ, .bool aF, .slice aK aG.length aL, .slice aM aH.length aN]]), rfl, by omega, by rw [qes (by omega)]; exact (hT0_.move ((((((((((((aC.trans ab).trans ac).trans af).trans aA).trans ao).trans ah).trans ar).trans bf).trans bg).trans bh).trans bi).trans bj).step immM ((((((((((((aC.trans ab).trans ac).trans af).trans aA).trans ao).trans ah).trans ar).trans bf).trans bg).trans bh).trans bi).trans bj).to').snoc (x := (fun i => qaU ((D.f 0).f i)) k0_) (bZ.move ((((((ah.trans ar).trans bf).trans bg).trans bh).trans bi).trans bj).step immM ((((((ah.trans ar).trans bf).trans bg).trans bh).trans bi).trans bj).to'), cQ.pk, eD, (((((((((((((db.trans aC).trans ab).trans ac).trans af).trans aA).trans ao).trans ah).trans ar).trans bf).trans bg).trans bh).trans bi).trans bj)⟩
   ·
    refine (qbE ag cK (e := 37) (size := 5) (len := 1) (cs := [.int .i64 0, .slice none 0 0, .bool false, .slice none 0 0, .slice none 0 0]) (d := 39) kz kz fun dj iC iD gq gt au ai eF => ?_)
    have eG := TT.ofW au ai
    refine ⟨fun _ => eG, ?_⟩
    refine qay (i := 11) kz (qai eF (f := 166) (vs := [.pointer (some ⟨cB, cC + k0_ * 8, none⟩)]) (d := 37) kz Tryz.call166 (qbt 0 ((D.f 0).f k0_) _ _ _ _ (bX.move ai.step nilM ai.imm) (qaY _ ai.step nilM ai.imm (g1e k0_ (by omega)))) ?_)
    rintro e_ iE ⟨gv, rfl, eH, ce⟩
    have cm := eH.move (Step.refl _ Nil) nilM (ai.laid (G := F) ce)
    obtain ⟨aO, aP, aQ, aR, aS, aT, aU, aV, aW, aX, aY, gw, gx, cq, f5, f7, iF, iG⟩ := cm.open_
    rw [cq] at cm
    have f8 := f5.small
    have f9 := f7.small
    rw [cq]
    refine ⟨_, rfl, fun iH eI => ?_⟩
    have bB := ai.next_nil ce
    have aB := ai.frN ce
    have eJ := TT.ofW (au.trans aB) bB
    refine ⟨fun _ => eJ, ?_⟩
    refine qay (i := 14) kz (qaQ bB eI (k := 0) (d := 40) (t := 34) (e := 37) (size := 5) (bytes := 88) (A := A0_) (As := (some ⟨dj, 0, none⟩)) (m0 := k0_) (c := c0_) (m := 1) (cs := 1) (xs := xs0_) (news := [.int .i64 0, .slice none 0 0, .bool false, .slice none 0 0, .slice none 0 0]) kz kz rfl (qbD (bB.own 1 _ rfl) (qbJ kz)) (qbL (bB.own 1 _ rfl)) (by omega) fun ak av iI iJ aw cr eK => ?_)
    have eL := TT.ofW ((au.trans aB).trans aw) cr
    refine ⟨fun _ => eL, ?_⟩
    refine qay (i := 15) kz (qaA eK (t := 34) (A := (some ⟨aa, 0, none⟩)) (m := 1) (q := 0) (d := 41) kz (e := 37) (size := 5) (bytes := 88) (j := 0) kz (b := aa) (o := 0) rfl rfl (by decide) fun iK eM => ?_)
    have eN := eM.recast 41 (.v (.pointer (some ⟨aa, 0 + 0 * 5, none⟩))) (.p 2 0) rfl rfl (Nat.le_of_ble_eq_true (n := 3) rfl)
    have eO := eN.pk (env' := [(0, .p 0 0), (2, .p 1 0), (3, .p 3 0), (20, .v (.int .i64 (((D.f 0).l : Nat) : Int))), (21, .v (.int .i64 ((k0_ : Nat) : Int))), (27, .v (.slice (some ⟨aa, 0, none⟩) 1 1)), (30, .v (.slice A0_ k0_ c0_)), (34, .v (.slice ((D.f 0).A) ((D.f 0).l) ((D.f 0).c))), (35, .v (.int .i64 ((k0_ : Nat) : Int))), (38, .v (.int .i64 ((k0_ : Nat) : Int))), (36, .v (.pointer (some ⟨cB, cC + k0_ * 8, none⟩))), (39, .v (.slice (some ⟨dj, 0, none⟩) 1 1)), (37, .v (.agg #[.int .i64 aO, .slice aT aP.length aU, .bool aQ, .slice aV aR.length aW, .slice aX aS.length aY])), (40, .v (.slice ak (k0_ + 1) av)), (41, .p 2 0)])
    have cR := TT.ofW ((au.trans aB).trans aw) cr
    refine ⟨fun _ => cR, ?_⟩
    refine qaF [16] [(0, .p 0 0), (2, .p 1 0), (3, .p 3 0), (20, .v (.int .i64 (((D.f 0).l : Nat) : Int))), (21, .v (.int .i64 ((k0_ : Nat) : Int))), (37, .v (.agg #[.int .i64 aO, .slice aT aP.length aU, .bool aQ, .slice aV aR.length aW, .slice aX aS.length aY])), (38, .v (.int .i64 ((k0_ : Nat) : Int))), (40, .v (.slice ak (k0_ + 1) av)), (42, .p 2 3)] 1 (qaa (qac (qaa (qaa (qac (qaa qaf)))))) (fun _ h => h.cells) cR eO fun iL eP => ?_
    refine qay (i := 17) kz (qav cr eP (oi := 2) (cs := [.int .i64 0, .slice none 0 0, .bool (((D.f 0).A).isNone), .slice ak (k0_ + 1) av, .slice none 0 0]) kz fun ga bk cS eQ => ?_)
    refine ⟨fun h => absurd rfl h, ?_⟩
    refine qaC kz ?_ _
    refine qab ?_
    refine qar [0, 1] kz ?_
    have eR : World.ownsRow ga 0 37 5 (.slice ak (k0_ + 1) av) (k0_ + 1) (xs0_ ++ [.int .i64 0, .slice none 0 0, .bool false, .slice none 0 0, .slice none 0 0]) := cS.own 0 _ rfl
    obtain ⟨eS, cT⟩ := qb0 eR (by omega)
    refine qaj (qaA eQ (t := 34) (A := ak) (m := (k0_ + 1)) (q := ((k0_ : Nat) : Int)) (d := 43) kz (e := 37) (size := 5) (bytes := 88) kz (b := eS) (o := 0) (j := k0_) cT (rfl) (by omega) fun iM eU => ?_)
    refine qaj (qb9 cS eU (k := 0) (g := eS) (o := k0_ * 5) (c := av) (m := (k0_ + 1)) (size := 5) (e := 37) (A := ak) (xs := (xs0_ ++ [.int .i64 0, .slice none 0 0, .bool false, .slice none 0 0, .slice none 0 0])) (vs := [.int .i64 aO, .slice aT aP.length aU, .bool aQ, .slice aV aR.length aW, .slice aX aS.length aY]) kz rfl cT (by simp only [List.length_cons, List.length_nil]; omega) fun iN bn eV eW => ?_)
    have eX : (⟨ak, av, 37, 5, k0_ + 1, qba (xs0_ ++ [.int .i64 0, .slice none 0 0, .bool false, .slice none 0 0, .slice none 0 0]) (k0_ * 5) [.int .i64 aO, .slice aT aP.length aU, .bool aQ, .slice aV aR.length aW, .slice aX aS.length aY]⟩ : Rw) = ⟨ak, av, 37, 5, k0_ + 1, xs0_ ++ [.int .i64 aO, .slice aT aP.length aU, .bool aQ, .slice aV aR.length aW, .slice aX aS.length aY]⟩ := by rw [qe5 (by rw [hT0_.xslen, List.length_take, qea]; omega)]
    obtain ⟨cU, bo⟩ := eV.rowEq 0 [⟨ak, av, 37, 5, k0_ + 1, xs0_ ++ [.int .i64 aO, .slice aT aP.length aU, .bool aQ, .slice aV aR.length aW, .slice aX aS.length aY]⟩, ⟨some ⟨dj, 0, none⟩, 1, 37, 5, 1, [.int .i64 0, .slice none 0 0, .bool false, .slice none 0 0, .slice none 0 0]⟩] eX
    refine qae ?_
    refine qap ?_
    refine qab ?_
    refine qar [0, 1] kz ?_
    refine qah [0, 1] [] [(0, .p 0 0), (2, .p 1 0), (3, .p 3 0), (20, .v (.int .i64 (((D.f 0).l : Nat) : Int))), (21, .v (.int .i64 (IntKind.i64.wrap (((k0_ : Nat) : Int) + 1))))] cU eW fun iO eY => ?_
    refine qae (qab ?_)
    obtain ⟨cV, eZ, bp⟩ := cU.cutB eY 4 [⟨b, o, [.int .i16 v, .slice ((D.f 0).A) ((D.f 0).l) ((D.f 0).c), .map D.m], false⟩, ⟨b3, 0, [.int .i64 0, .slice none 0 0, .bool false, .slice none 0 0, .slice none 0 0], true⟩, ⟨aa, 0, [.int .i64 0, .slice none 0 0, .bool (((D.f 0).A).isNone), .slice ak (k0_ + 1) av, .slice none 0 0], true⟩, ⟨bu, 0, [.int .i64 0, .slice none 0 0, .bool false, .slice (some ⟨aa, 0, none⟩) 1 1, .slice none 0 0], true⟩] [(0, .p 0 0), (2, .p 1 0), (3, .p 3 0), (20, .v (.int .i64 (((D.f 0).l : Nat) : Int))), (21, .v (.int .i64 (IntKind.i64.wrap (((k0_ : Nat) : Int) + 1))))]
    obtain ⟨e9, bq⟩ := eZ.cutR 1 [⟨ak, av, 37, 5, k0_ + 1, xs0_ ++ [.int .i64 aO, .slice aT aP.length aU, .bool aQ, .slice aV aR.length aW, .slice aX aS.length aY]⟩]
    have fa : IntKind.i64.wrap (((k0_ : Nat) : Int) + 1) = ((k0_ + 1 : Nat) : Int) := qaJ (by omega)
    rw [fa] at cV
    exact ⟨(D.f 0).l - (k0_ + 1), by omega, k0_ + 1, ak, av, xs0_ ++ [Value.int .i64 aO, .slice aT aP.length aU, .bool aQ, .slice aV aR.length aW, .slice aX aS.length aY], (css0_ ++ [[Value.int .i64 aO, .slice aT aP.length aU, .bool aQ, .slice aV aR.length aW, .slice aX aS.length aY]]), rfl, by omega, by rw [qes (by omega)]; exact (hT0_.move ((((((((((((aC.trans ab).trans ac).trans af).trans aA).trans au).trans aB).trans aw).trans bk).trans bn).trans bo).trans bp).trans bq).step immM ((((((((((((aC.trans ab).trans ac).trans af).trans aA).trans au).trans aB).trans aw).trans bk).trans bn).trans bo).trans bp).trans bq).to').snoc (x := (fun i => qaU ((D.f 0).f i)) k0_) (cm.move (((((aw.trans bk).trans bn).trans bo).trans bp).trans bq).step immM (((((aw.trans bk).trans bn).trans bo).trans bp).trans bq).to'), cV.pk, e9, (((((((((((((db.trans aC).trans ab).trans ac).trans af).trans aA).trans au).trans aB).trans aw).trans bk).trans bn).trans bo).trans bp).trans bq)⟩
 ·
  have gy := of_decide_eq_false de
  refine wp_exit ?_
  refine qaz ?_
  refine qaz ?_
  refine qaI ?_
  refine qab ?_
  refine qad [0, 1, 2, 3, 4] kz ?_
  refine qah [0, 1, 2] [3, 4] [(2, .p 1 0), (3, .p 3 0), (65, .p 0 2)] ax dc fun iP fb => ?_
  refine qaj (qfA fb (v := .func (.func 167) #[] #[.pointer (some ⟨bu, 0, none⟩)]) (d := 66) kz fun iQ fe => ?_)
  refine qaj (qai fe (f := 122) (vs := [.pointer (some ⟨b, o + 2, none⟩), .func (.func 167) #[] #[.pointer (some ⟨bu, 0, none⟩)]]) (d := 67) kz Tryz.call122 (qgv (F := (Imm F w gJ [⟨b, o, [.int .i16 v, .slice ((D.f 0).A) ((D.f 0).l) ((D.f 0).c), .map D.m], false⟩, ⟨b3, 0, [.int .i64 0, .slice none 0 0, .bool false, .slice none 0 0, .slice none 0 0], true⟩, ⟨aa, 0, [.int .i64 0, .slice none 0 0, .bool (((D.f 0).A).isNone), .slice A0_ k0_ c0_, .slice none 0 0], true⟩, ⟨bu, 0, [.int .i64 0, .slice none 0 0, .bool false, .slice (some ⟨aa, 0, none⟩) 1 1, .slice none 0 0], true⟩] [⟨A0_, c0_, 37, 5, k0_, xs0_⟩])) Tryz.call167 qdu ((hat.one 2 rfl).move ax.step nilM ax.imm) (g2.move ax.step nilM ax.imm) (Str.of ax 3 rfl) (imm_n 3 rfl) g2l) ?_)
  rintro e_ iR ⟨rfl, ay, az, dl, ff, fg⟩
  obtain ⟨cu, cW, fh⟩ := ax.wrote 3 [⟨b, o, [.int .i16 v, .slice ((D.f 0).A) ((D.f 0).l) ((D.f 0).c), .map D.m], false⟩, ⟨b3, 0, [.int .i64 0, .slice none 0 0, .bool false, .slice none 0 0, .slice none 0 0], true⟩, ⟨aa, 0, [.int .i64 0, .slice none 0 0, .bool (((D.f 0).A).isNone), .slice A0_ k0_ c0_, .slice none 0 0], true⟩, ⟨bu, 0, [.int .i64 0, .slice none 0 0, .bool false, .slice (some ⟨aa, 0, none⟩) 1 1, .slice ay D.u.length az], true⟩] rfl fg dl
  have cX := ff.move (Step.refl _ Nil) nilM (fun b_ o_ h_ hb_ => fh (G := F) b_ o_ (.inr h_) hb_)
  refine ⟨_, rfl, fun iS fi => ?_⟩
  have fj := (EnvOk.places (tb' := [⟨b, o, [.int .i16 v, .slice ((D.f 0).A) ((D.f 0).l) ((D.f 0).c), .map D.m], false⟩, ⟨b3, 0, [.int .i64 0, .slice none 0 0, .bool false, .slice none 0 0, .slice none 0 0], true⟩, ⟨aa, 0, [.int .i64 0, .slice none 0 0, .bool (((D.f 0).A).isNone), .slice A0_ k0_ c0_, .slice none 0 0], true⟩, ⟨bu, 0, [.int .i64 0, .slice none 0 0, .bool false, .slice (some ⟨aa, 0, none⟩) 1 1, .slice ay D.u.length az], true⟩]) fi (show Pl [⟨b, o, [.int .i16 v, .slice ((D.f 0).A) ((D.f 0).l) ((D.f 0).c), .map D.m], false⟩, ⟨b3, 0, [.int .i64 0, .slice none 0 0, .bool false, .slice none 0 0, .slice none 0 0], true⟩, ⟨aa, 0, [.int .i64 0, .slice none 0 0, .bool (((D.f 0).A).isNone), .slice A0_ k0_ c0_, .slice none 0 0], true⟩, ⟨bu, 0, [.int .i64 0, .slice none 0 0, .bool false, .slice (some ⟨aa, 0, none⟩) 1 1, .slice none 0 0], true⟩] [⟨b, o, [.int .i16 v, .slice ((D.f 0).A) ((D.f 0).l) ((D.f 0).c), .map D.m], false⟩, ⟨b3, 0, [.int .i64 0, .slice none 0 0, .bool false, .slice none 0 0, .slice none 0 0], true⟩, ⟨aa, 0, [.int .i64 0, .slice none 0 0, .bool (((D.f 0).A).isNone), .slice A0_ k0_ c0_, .slice none 0 0], true⟩, ⟨bu, 0, [.int .i64 0, .slice none 0 0, .bool false, .slice (some ⟨aa, 0, none⟩) 1 1, .slice ay D.u.length az], true⟩] from ⟨rfl, rfl, ⟨rfl, rfl, ⟨rfl, rfl, ⟨rfl, rfl, trivial⟩⟩⟩⟩)).pk (env' := [(67, .v (.tuple #[])), (2, .p 1 0), (3, .p 3 0), (65, .p 0 2), (66, .v (.func (.func 167) #[] #[.pointer (some ⟨bu, 0, none⟩)]))])
  refine qae (qab ?_)
  refine qad [0, 1, 2] kz ?_
  refine qah [0, 1] [2] [(2, .p 1 0), (3, .p 3 0), (69, .v (.slice ay D.u.length az))] cu fj fun iT fk => ?_
  refine qaj (qai fk (f := 124) (vs := [.slice ay D.u.length az]) (d := 70) kz Tryz.call124 (tSorted cX g2.sorted) ?_)
  rintro e_ iU ⟨rfl, cY⟩
  refine ⟨_, rfl, fun iV fm => ?_⟩
  have cZ := cu.next_nil cY
  have bC := cu.frN cY
  refine qae (qab ?_)
  refine qad [0, 1] kz ?_
  refine qah [0] [1] [(2, .p 1 0), (71, .v (.agg #[.int .i64 0, .slice none 0 0, .bool false, .slice (some ⟨aa, 0, none⟩) 1 1, .slice ay D.u.length az]))] cZ fm fun iW fo => ?_
  refine qaj (qav cZ fo (oi := 1) (cs := [.int .i64 0, .slice none 0 0, .bool false, .slice (some ⟨aa, 0, none⟩) 1 1, .slice ay D.u.length az]) kz fun gb bD cw fq => ?_)
  refine qae (qab ?_)
  refine wp_ret ?_
  refine qaD fq cw.cells (v := .agg #[.int .i64 0, .slice none 0 0, .bool false, .slice (some ⟨aa, 0, none⟩) 1 1, .slice ay D.u.length az]) kz ?_
  have c5 := (hT0_.move ((cW.trans bC).trans bD).step immM ((cW.trans bC).trans bD).to')
  rw [take_all (by omega)] at c5
  exact tell_end (u := D.u) (l := [.mk 0 [] (D.f 0).A.isNone ((List.range (D.f 0).l).map fun i => qaU ((D.f 0).f i)) []]) (css := [[.int .i64 0, .slice none 0 0, .bool (((D.f 0).A).isNone), .slice A0_ k0_ c0_, .slice none 0 0]]) cw 2 rfl ⟨tell_list cw (k := 0) rfl c5 (by rw [qea]; omega) (by rw [qea]; omega), trivial⟩ ((show TagsR _ (Imm F w gb [⟨b, o, [.int .i16 v, .slice ((D.f 0).A) ((D.f 0).l) ((D.f 0).c), .map D.m], false⟩, ⟨b3, 0, [.int .i64 0, .slice none 0 0, .bool false, .slice (some ⟨aa, 0, none⟩) 1 1, .slice ay D.u.length az], true⟩, ⟨aa, 0, [.int .i64 0, .slice none 0 0, .bool (((D.f 0).A).isNone), .slice A0_ k0_ c0_, .slice none 0 0], true⟩, ⟨bu, 0, [.int .i64 0, .slice none 0 0, .bool false, .slice (some ⟨aa, 0, none⟩) 1 1, .slice ay D.u.length az], true⟩] [⟨A0_, c0_, 37, 5, k0_, xs0_⟩]) _ _ _ from (cX.move (bC.trans bD).step immM (bC.trans bD).to')).move (Step.refl _ Nil) nilM qbG)
end Go.Proofs.YtgolpmkenmedoaaGreatDoor.ME
namespace Go.Proofs.YtgolpmkenmedoaaGreatDoor.ME
open Go
set_option linter.unusedVariables false
set_option linter.unusedSimpArgs false
theorem i64_at {t : Tree} (h : t.i64s) (i : Nat) : (t.at_ i).i64s := by
 cases t with
 | mk n s b l u =>
  have h1 : ∀ x ∈ l, x.i64s := qeW h.2
  show (l.getD i .zero).i64s
  rw [List.getD_eq_getElem?_getD]
  cases hx : l[i]? with
  | none => exact ⟨by decide, trivial⟩
  | some x => exact h1 x (List.mem_of_getElem? hx)
theorem i64_thing {t x : Tree} (h : t.i64s) {i : Nat} (hx : (qak t.L)[i]? = some x) : x.i64s := by
 cases t with
 | mk n s b l u =>
  have h1 : ∀ x ∈ l, x.i64s := qeW h.2
  exact h1 x (List.mem_of_mem_take (List.mem_of_getElem? hx))
theorem qcf {k x1 x2 x3 x5 x6 v : Int} {s : List Fld} {flex : Bool} {x : Tree} : Fld.pres (.mk k x1 x2 x3 (-1) x5 x6 s) v flex x = (decide (x1 ≤ v) && (decide (x2 < 0) || decide (v ≤ x2))) := by simp [Fld.pres, Fld.tag, Fld.has]
section
variable {T : List Fld → Tree → Tree → Prop} {U : List Fld → Tree → Prop} {v k x1 x2 x3 x4 x5 x6 n : Int} {sub : List Fld} {x T' : Tree} {A : Option Addr} {s : ByteArray} {o : Bs} {b : Bool}
theorem to0_num (hn : n = qbi k x.N) (hk : k < 7 := by decide) : ToF0 T v (.mk k x1 x2 (-1) x4 x5 x6 sub) x (.mk n [] false [] []) := by
 cases x
 exact ⟨fun h => by omega, fun _ h => by omega, fun _ h => by omega, fun _ h => by omega, fun _ _ _ _ _ _ => hn⟩
theorem to_num (hn : n = qbi k x.N) (hk : k < 7 := by decide) : ToF T v (.mk k x1 x2 (-1) x4 x5 x6 sub) x (.mk n [] false [] []) := ⟨to0_num hn hk, fun h => absurd (show k = 11 from h) (by omega)⟩
theorem to0_text (hs : o = qaB x.S) : ToF0 T v (.mk 8 x1 x2 (-1) x4 x5 x6 sub) x (.mk 0 o false [] []) := by
 cases x with
 | mk a1 a2 a3 a4 a5 =>
  exact ⟨fun _ => nul_no.symm, fun _ _ => hs, fun _ h => by omega, fun _ h => by omega, fun _ _ h => absurd rfl h⟩
theorem qfW (h : s = bs (qa1 T') ∧ A.isNone = T'.null) (h1 : qa1 T' = (if Fld.nul (.mk 8 x1 x2 x3 x4 x5 x6 sub) v x = true then [] else qaB x.S) ∧ T'.null = Fld.nul (.mk 8 x1 x2 x3 x4 x5 x6 sub) v x) : ToF T v (.mk 8 x1 x2 x3 x4 x5 x6 sub) x (qe8 A s) := by
 refine ⟨?_, fun h => absurd (show (8 : Int) = 11 from h) (by decide)⟩
 have e : qe8 A s = .mk 0 (if Fld.nul (.mk 8 x1 x2 x3 x4 x5 x6 sub) v x = true then [] else qaB x.S) (Fld.nul (.mk 8 x1 x2 x3 x4 x5 x6 sub) v x) [] [] := by
  unfold qe8
  rw [h.2, h1.2, h.1, sb_bs, h1.1]
  split <;> rfl
 rw [e]
 cases x with
 | mk a1 a2 a3 a4 a5 =>
  exact ⟨fun _ => rfl, fun hn _ => by rw [if_neg (by rw [hn]; decide)]; rfl, fun _ h => by omega, fun _ h => by omega, fun _ _ h => absurd rfl h⟩
theorem to0_part {g : Tree} (hg : g.null = false) (h : T sub x g) : ToF0 T v (.mk 10 x1 x2 (-1) x4 x5 x6 sub) x g := by
 cases x with
 | mk a1 a2 a3 a4 a5 =>
  cases g with
  | mk g1 g2 g3 g4 g5 =>
   exact ⟨fun _ => by rw [nul_no]; exact hg, fun _ h => by omega, fun _ h => by omega, fun _ _ => h, fun _ _ _ _ h => absurd rfl h⟩
theorem to_list {l : Nat} {g : Nat → Tree} {W : Tree → Tree} (hb : x3 ≥ 0 ∧ v ≥ x3 → b = Fld.nul (.mk 11 x1 x2 x3 x4 x5 x6 sub) v x) (hl : l = (lst T').length) (hlst : lst T' = (if Fld.nul (.mk 11 x1 x2 x3 (-1) x5 x6 sub) v x = true then [] else qak x.L).map W)
  (he : ∀ i y, i < l → (lst T').getD i .zero = W y → (qak x.L)[i]? = some y → ToF0 T v (.mk x6 x1 x2 (-1) (-1) x5 x6 sub) y (g i)) : ToF T v (.mk 11 x1 x2 x3 x4 x5 x6 sub) x (.mk 0 [] b ((List.range l).map g) []) := by
 have hn : Fld.nul (.mk 11 x1 x2 x3 (-1) x5 x6 sub) v x = Fld.nul (.mk 11 x1 x2 x3 x4 x5 x6 sub) v x := by cases x; rfl
 refine ⟨?_, fun _ hnn => ?_⟩
 ·cases x with
  | mk a1 a2 a3 a4 a5 =>
   refine ⟨fun h => hb ?_, fun _ h => by omega, fun _ h => by omega, fun _ h => by omega, fun _ _ _ _ _ h => absurd rfl h⟩
   rcases h with h | h | h
   ·omega
   ·omega
   ·exact h
 ·rw [hn, hnn, if_neg (by decide)] at hlst
  have hll : l = (qak x.L).length := by rw [hl, hlst, List.length_map]
  refine ⟨by show ((List.range l).map g).length = _; rw [List.length_map, List.length_range, hll], fun i y z hy hz => ?_⟩
  have hi : i < l := by rw [hll]; exact (List.getElem?_eq_some_iff.1 hy).1
  have hz' : ((List.range l).map g)[i]? = some z := hz
  rw [List.getElem?_map, List.getElem?_range hi] at hz'
  obtain rfl := Option.some.inj hz'
  refine he i y hi ?_ hy
  rw [hlst, List.getD_eq_getElem?_getD, List.getElem?_map, hy]
  rfl
theorem us_num' (hn : n = qbi k x5) (hk : k < 7 := by decide) : UsF U (.mk k x1 x2 x3 x4 x5 x6 sub) (.mk n [] false [] []) := ⟨fun h => by omega, fun h => by omega, fun h => by omega, fun h => by omega, fun _ _ _ _ _ => hn⟩
end
end Go.Proofs.YtgolpmkenmedoaaGreatDoor.ME
namespace Go.Proofs.YtgolpmkenmedoaaGreatDoor.ME
open Go
open Go.RowKit
set_option linter.unusedVariables false
set_option linter.unusedSimpArgs false
set_option maxRecDepth 20000
theorem qcs (v : Int) (h0 : 0 ≤ v) (t Y : Tree) (hY : ∀ i, Y.at_ i = (fitT v 7 [(Fld.mk 1 0 (-1) (-1) (-1) 0 0 []), (Fld.mk 8 0 (-1) 0 (-1) 0 0 []), (Fld.mk 1 1 (-1) (-1) (-1) 3 0 []), (Fld.mk 8 0 (-1) 0 (-1) 0 0 []), (Fld.mk 8 0 (-1) 0 (-1) 0 0 []), (Fld.mk 1 0 (-1) (-1) (-1) 0 0 []), (Fld.mk 1 0 (-1) (-1) (-1) 0 0 [])] t).at_ i) (hU : Y.U = (fitT v 7 [(Fld.mk 1 0 (-1) (-1) (-1) 0 0 []), (Fld.mk 8 0 (-1) 0 (-1) 0 0 []), (Fld.mk 1 1 (-1) (-1) (-1) 3 0 []), (Fld.mk 8 0 (-1) 0 (-1) 0 0 []), (Fld.mk 8 0 (-1) 0 (-1) 0 0 []), (Fld.mk 1 0 (-1) (-1) (-1) 0 0 []), (Fld.mk 1 0 (-1) (-1) (-1) 0 0 [])] t).U) (hi : t.i64s) (D : DV) (h : qa3 v D Y) : ToldP v (decide (v ≥ qas)) 7 [(Fld.mk 1 0 (-1) (-1) (-1) 0 0 []), (Fld.mk 8 0 (-1) 0 (-1) 0 0 []), (Fld.mk 1 1 (-1) (-1) (-1) 3 0 []), (Fld.mk 8 0 (-1) 0 (-1) 0 0 []), (Fld.mk 8 0 (-1) 0 (-1) 0 0 []), (Fld.mk 1 0 (-1) (-1) (-1) 0 0 []), (Fld.mk 1 0 (-1) (-1) (-1) 0 0 [])] t (qaU D) := by
 unfold qa3 at h
 obtain ⟨r0, r1, r2, r3, r4, r5, r6, rU, _⟩ := h
 refine ⟨rfl, fun i f y hf hy => ?_, ?_⟩
 ·match i, hf, hy with
  | 0, hf, hy =>
   obtain rfl := Option.some.inj hf
   obtain rfl := Option.some.inj hy
   have e := hY 0
   refine ⟨fun hp => ?_, fun hp => ?_⟩
   ·have hc : True := trivial
    have r := r0
    rw [e] at r
    rw [(qgk (v := v) (d := 6) (t := t) (show [(Fld.mk 1 0 (-1) (-1) (-1) 0 0 []), (Fld.mk 8 0 (-1) 0 (-1) 0 0 []), (Fld.mk 1 1 (-1) (-1) (-1) 3 0 []), (Fld.mk 8 0 (-1) 0 (-1) 0 0 []), (Fld.mk 8 0 (-1) 0 (-1) 0 0 []), (Fld.mk 1 0 (-1) (-1) (-1) 0 0 []), (Fld.mk 1 0 (-1) (-1) (-1) 0 0 [])][0]? = _ from rfl) (by decide))] at r
    exact to_num (by rw [r, qe9]; rfl)
   ·rw [qcf] at hp; simp at hp; omega
  | 1, hf, hy =>
   obtain rfl := Option.some.inj hf
   obtain rfl := Option.some.inj hy
   have e := hY 1
   refine ⟨fun hp => ?_, fun hp => ?_⟩
   ·have hc : True := trivial
    have r := r1
    rw [e] at r
    exact qfW r (fit_o (v := v) (d := 6) (t := t) (show [(Fld.mk 1 0 (-1) (-1) (-1) 0 0 []), (Fld.mk 8 0 (-1) 0 (-1) 0 0 []), (Fld.mk 1 1 (-1) (-1) (-1) 3 0 []), (Fld.mk 8 0 (-1) 0 (-1) 0 0 []), (Fld.mk 8 0 (-1) 0 (-1) 0 0 []), (Fld.mk 1 0 (-1) (-1) (-1) 0 0 []), (Fld.mk 1 0 (-1) (-1) (-1) 0 0 [])][1]? = _ from rfl) (by decide))
   ·rw [qcf] at hp; simp at hp; omega
  | 2, hf, hy =>
   obtain rfl := Option.some.inj hf
   obtain rfl := Option.some.inj hy
   have e := hY 2
   refine ⟨fun hp => ?_, fun hp => ?_⟩
   ·have hc : (decide (v ≥ 1)) = true := by rw [qcf] at hp; simp at hp ⊢; try omega
    have r := (r2.1 hc)
    rw [e] at r
    rw [(qgk (v := v) (d := 6) (t := t) (show [(Fld.mk 1 0 (-1) (-1) (-1) 0 0 []), (Fld.mk 8 0 (-1) 0 (-1) 0 0 []), (Fld.mk 1 1 (-1) (-1) (-1) 3 0 []), (Fld.mk 8 0 (-1) 0 (-1) 0 0 []), (Fld.mk 8 0 (-1) 0 (-1) 0 0 []), (Fld.mk 1 0 (-1) (-1) (-1) 0 0 []), (Fld.mk 1 0 (-1) (-1) (-1) 0 0 [])][2]? = _ from rfl) (by decide))] at r
    exact to_num (by rw [r, qe9]; rfl)
   ·have hc : (decide (v ≥ 1)) = false := by rw [qcf] at hp; simp at hp ⊢; try omega
    have r := (r2.2 hc)
    exact us_num' (by rw [r]; first | rfl | decide)
  | 3, hf, hy =>
   obtain rfl := Option.some.inj hf
   obtain rfl := Option.some.inj hy
   have e := hY 3
   refine ⟨fun hp => ?_, fun hp => ?_⟩
   ·have hc : True := trivial
    have r := r3
    rw [e] at r
    exact qfW r (fit_o (v := v) (d := 6) (t := t) (show [(Fld.mk 1 0 (-1) (-1) (-1) 0 0 []), (Fld.mk 8 0 (-1) 0 (-1) 0 0 []), (Fld.mk 1 1 (-1) (-1) (-1) 3 0 []), (Fld.mk 8 0 (-1) 0 (-1) 0 0 []), (Fld.mk 8 0 (-1) 0 (-1) 0 0 []), (Fld.mk 1 0 (-1) (-1) (-1) 0 0 []), (Fld.mk 1 0 (-1) (-1) (-1) 0 0 [])][3]? = _ from rfl) (by decide))
   ·rw [qcf] at hp; simp at hp; omega
  | 4, hf, hy =>
   obtain rfl := Option.some.inj hf
   obtain rfl := Option.some.inj hy
   have e := hY 4
   refine ⟨fun hp => ?_, fun hp => ?_⟩
   ·have hc : True := trivial
    have r := r4
    rw [e] at r
    exact qfW r (fit_o (v := v) (d := 6) (t := t) (show [(Fld.mk 1 0 (-1) (-1) (-1) 0 0 []), (Fld.mk 8 0 (-1) 0 (-1) 0 0 []), (Fld.mk 1 1 (-1) (-1) (-1) 3 0 []), (Fld.mk 8 0 (-1) 0 (-1) 0 0 []), (Fld.mk 8 0 (-1) 0 (-1) 0 0 []), (Fld.mk 1 0 (-1) (-1) (-1) 0 0 []), (Fld.mk 1 0 (-1) (-1) (-1) 0 0 [])][4]? = _ from rfl) (by decide))
   ·rw [qcf] at hp; simp at hp; omega
  | 5, hf, hy =>
   obtain rfl := Option.some.inj hf
   obtain rfl := Option.some.inj hy
   have e := hY 5
   refine ⟨fun hp => ?_, fun hp => ?_⟩
   ·have hc : True := trivial
    have r := r5
    rw [e] at r
    rw [(qgk (v := v) (d := 6) (t := t) (show [(Fld.mk 1 0 (-1) (-1) (-1) 0 0 []), (Fld.mk 8 0 (-1) 0 (-1) 0 0 []), (Fld.mk 1 1 (-1) (-1) (-1) 3 0 []), (Fld.mk 8 0 (-1) 0 (-1) 0 0 []), (Fld.mk 8 0 (-1) 0 (-1) 0 0 []), (Fld.mk 1 0 (-1) (-1) (-1) 0 0 []), (Fld.mk 1 0 (-1) (-1) (-1) 0 0 [])][5]? = _ from rfl) (by decide))] at r
    exact to_num (by rw [r, qe9]; rfl)
   ·rw [qcf] at hp; simp at hp; omega
  | 6, hf, hy =>
   obtain rfl := Option.some.inj hf
   obtain rfl := Option.some.inj hy
   have e := hY 6
   refine ⟨fun hp => ?_, fun hp => ?_⟩
   ·have hc : True := trivial
    have r := r6
    rw [e] at r
    rw [(qgk (v := v) (d := 6) (t := t) (show [(Fld.mk 1 0 (-1) (-1) (-1) 0 0 []), (Fld.mk 8 0 (-1) 0 (-1) 0 0 []), (Fld.mk 1 1 (-1) (-1) (-1) 3 0 []), (Fld.mk 8 0 (-1) 0 (-1) 0 0 []), (Fld.mk 8 0 (-1) 0 (-1) 0 0 []), (Fld.mk 1 0 (-1) (-1) (-1) 0 0 []), (Fld.mk 1 0 (-1) (-1) (-1) 0 0 [])][6]? = _ from rfl) (by decide))] at r
    exact to_num (by rw [r, qe9]; rfl)
   ·rw [qcf] at hp; simp at hp; omega
  | n_ + 7, hf, hy => exact absurd (List.getElem?_eq_some_iff.1 hf).1 (by show ¬ n_ + 7 < 7; omega)
 ·show D.u = if (decide (v ≥ qas)) = true then qb7 (qag [(Fld.mk 1 0 (-1) (-1) (-1) 0 0 []), (Fld.mk 8 0 (-1) 0 (-1) 0 0 []), (Fld.mk 1 1 (-1) (-1) (-1) 3 0 []), (Fld.mk 8 0 (-1) 0 (-1) 0 0 []), (Fld.mk 8 0 (-1) 0 (-1) 0 0 []), (Fld.mk 1 0 (-1) (-1) (-1) 0 0 []), (Fld.mk 1 0 (-1) (-1) (-1) 0 0 [])] t.U) else []
  by_cases hc : (decide (v ≥ 2)) = true
  ·rw [if_pos (show (decide (v ≥ qas)) = true from hc), rU.1 hc, hU, fit_U]
  ·rw [if_neg (show ¬ (decide (v ≥ qas)) = true from hc), rU.2 (by simpa using hc)]
theorem qdb (v : Int) (h0 : 0 ≤ v) (t Y : Tree) (hY : ∀ i, Y.at_ i = (fitT v 8 sDeleteACLsRequestF t).at_ i) (hU : Y.U = (fitT v 8 sDeleteACLsRequestF t).U) (hi : t.i64s) (D : DV) (h : qbb v D Y) : ToldP v (decide (v ≥ qas)) 8 sDeleteACLsRequestF t (qbc D) := by
 unfold qbb at h
 obtain ⟨r0, rU, _⟩ := h
 refine ⟨rfl, fun i f y hf hy => ?_, ?_⟩
 ·match i, hf, hy with
  | 0, hf, hy =>
   obtain rfl := Option.some.inj hf
   obtain rfl := Option.some.inj hy
   have e := hY 0
   refine ⟨fun hp => ?_, fun hp => ?_⟩
   ·have hc : True := trivial
    have r := r0
    rw [e] at r
    obtain ⟨_, fl⟩ := fit_11 (v := v) (d := 7) (t := t) (show sDeleteACLsRequestF[0]? = _ from rfl)
    refine to_list (fun h_ => absurd h_.1 (by decide)) r.1 fl fun i_ y_ hi_ hg_ hy_ => ?_
    have q := r.2 i_ hi_
    rw [hg_] at q
    exact to0_part rfl (qcs v h0 y_ _ (fun i => fit_10.1 i) fit_10.2 (i64_thing (i64_at hi 0) hy_) _ q)
   ·rw [qcf] at hp; simp at hp; omega
  | n_ + 1, hf, hy => exact absurd (List.getElem?_eq_some_iff.1 hf).1 (by show ¬ n_ + 1 < 1; omega)
 ·show D.u = if (decide (v ≥ qas)) = true then qb7 (qag sDeleteACLsRequestF t.U) else []
  by_cases hc : (decide (v ≥ 2)) = true
  ·rw [if_pos (show (decide (v ≥ qas)) = true from hc), rU.1 hc, hU, fit_U]
  ·rw [if_neg (show ¬ (decide (v ≥ qas)) = true from hc), rU.2 (by simpa using hc)]
set_option maxHeartbeats 4000000 in
theorem qdS (v : Int) (T : Tree) {A2 : Option Addr} {c2 : Nat} {w : World} {F : Nat → Nat → Prop} (hs_ : Octs w F A2 c2 (qao (IntKind.i16.wrap v) T)) (hc : qa8 T) (hkey : T.ranged) (hroom : (qao (IntKind.i16.wrap v) T).length + 16 ≤ 1099511627776) :
  Calls Tryz.prog 45 #[.int .i64 v, .slice A2 (qao (IntKind.i16.wrap v) T).length c2] w (fun e w' => ∃ D cs, e = .returned (.tuple #[.agg cs.toArray, .bool true]) ∧ TreeR w' (Fp NoF w) cs (qbc D) ∧ qbb (IntKind.i16.wrap v) D T ∧ Step w w' Nil) := by
 refine enter (n := 20) Tryz.func45 rfl Tryz.ntmps45 kz fun a hE => ?_
 have hW := WOk.start w Nil
 have hsm2 := Slots.small hs_
 refine qad [0, 1] kz ?_
 refine qaj (qaK hW hE (d := 4) (cs := [.int .i64 0, .slice none 0 0, .bool false, .slice none 0 0, .slice none 0 0]) kz fun b1 a2 w3 hb4 hz5 hF6 hW7 hE8 => ?_)
 refine qah [1] [] [(0, .v (.int .i64 v)), (1, .v (.slice A2 ((qao (IntKind.i16.wrap v) T).length) c2)), (4, .p 0 0)] hW7 hE8 fun a9 aT => ?_
 refine qae (qab ?_)
 refine qad [0, 1] kz ?_
 refine qaj (qbs aT (f := 106) (vs := []) (d := 7) (n' := 3) kz Tryz.call106 Tryz.func106 rfl Tryz.ntmps106 kz fun cI aU => ?_)
 refine qam [] hW7 aU fun cJ aV => ?_
 refine qad [0] kz ?_
 refine qaj (qaK hW7 aV (d := 1) (cs := [.int .i16 0, .slice none 0 0, .map none]) kz fun aa cK cL ce cm cq ac aW => ?_)
 refine qae (qab ?_)
 refine qad [0] kz ?_
 refine qaj (qbs aW (f := 164) (vs := [.pointer (some ⟨aa, 0, none⟩)]) (d := 2) (n' := 2) kz Tryz.call164 Tryz.func164 rfl Tryz.ntmps164 kz fun cM aX => ?_)
 have aY := aX.recast 0 (.v (.pointer (some ⟨aa, 0, none⟩))) (.p 1 0) rfl rfl (Nat.le_of_ble_eq_true (n := 2) rfl)
 refine wp_skip ?_
 refine qbS aY ac.cells (v := .tuple #[]) kz ?_
 refine ⟨_, rfl, fun cN aZ => ?_⟩
 have ba : EnvOk 3 [⟨b1, 0, [.int .i64 0, .slice none 0 0, .bool false, .slice none 0 0, .slice none 0 0], true⟩, ⟨aa, 0, [.int .i16 0, .slice none 0 0, .map none], true⟩] [(2, .v (.tuple #[])), (1, .p 1 0)] _ := aZ.places (⟨rfl, rfl, ⟨rfl, rfl, trivial⟩⟩)
 refine qae (qab ?_)
 refine qam [(0, .p 1 0)] ac ba fun cO bd => ?_
 refine wp_ret ?_
 refine qaD bd ac.cells (v := .pointer (some ⟨aa, 0, none⟩)) kz ?_
 refine ⟨_, rfl, fun cP bf => ?_⟩
 have bg : EnvOk 20 [⟨b1, 0, [.int .i64 0, .slice none 0 0, .bool false, .slice none 0 0, .slice none 0 0], true⟩, ⟨aa, 0, [.int .i16 0, .slice none 0 0, .map none], true⟩] [(7, .v (.pointer (some ⟨aa, 0, none⟩))), (0, .v (.int .i64 v)), (1, .v (.slice A2 ((qao (IntKind.i16.wrap v) T).length) c2)), (4, .p 0 0)] _ := bf.places (⟨rfl, rfl, trivial⟩)
 have bh := bg.recast 7 (.v (.pointer (some ⟨aa, 0, none⟩))) (.p 1 0) rfl rfl (Nat.le_of_ble_eq_true (n := 2) rfl)
 have bi := bh.pick (ks := [0, 1, 4, 7]) (env' := [(0, .v (.int .i64 v)), (1, .v (.slice A2 ((qao (IntKind.i16.wrap v) T).length) c2)), (4, .p 0 0), (7, .p 1 0)]) kz
 refine qah [1] [] [(0, .v (.int .i64 v)), (1, .v (.slice A2 ((qao (IntKind.i16.wrap v) T).length) c2)), (4, .p 0 0), (6, .p 1 0)] ac bi fun cQ bj => ?_
 refine qae (qab ?_)
 refine qad [0, 1, 2, 3] kz ?_
 refine qah [0, 1, 2] [3] [(1, .v (.slice A2 ((qao (IntKind.i16.wrap v) T).length) c2)), (4, .p 0 0), (6, .p 1 0), (8, .p 1 0), (10, .v (.int .i16 (IntKind.i16.wrap v)))] ac bj fun cR bk => ?_
 refine qaj (qbs bk (f := 109) (vs := [.pointer (some ⟨aa, 0, none⟩), .int .i16 (IntKind.i16.wrap v)]) (d := 11) (n' := 8) kz Tryz.call109 Tryz.func109 rfl Tryz.ntmps109 kz fun cS bn => ?_)
 have bo := bn.recast 0 (.v (.pointer (some ⟨aa, 0, none⟩))) (.p 1 0) rfl rfl (Nat.le_of_ble_eq_true (n := 2) rfl)
 refine qar [0, 1, 2, 3, 4] kz ?_
 refine qah [0, 1, 2, 3] [4] [(5, .v (.int .i16 (IntKind.i16.wrap v))), (7, .p 1 0)] ac bo fun cT bp => ?_
 refine qaj (qav ac bp (oi := 1) (cs := [.int .i16 (IntKind.i16.wrap v), .slice none 0 0, .map none]) kz fun cU cr ao bq => ?_)
 refine qae ?_
 refine qbS bq ao.cells (v := .tuple #[]) kz ?_
 refine ⟨_, rfl, fun cV bt => ?_⟩
 have bu : EnvOk 20 [⟨b1, 0, [.int .i64 0, .slice none 0 0, .bool false, .slice none 0 0, .slice none 0 0], true⟩, ⟨aa, 0, [.int .i16 (IntKind.i16.wrap v), .slice none 0 0, .map none], true⟩] [(11, .v (.tuple #[])), (1, .v (.slice A2 ((qao (IntKind.i16.wrap v) T).length) c2)), (4, .p 0 0), (6, .p 1 0), (8, .p 1 0), (10, .v (.int .i16 (IntKind.i16.wrap v)))] _ := bt.places (⟨rfl, rfl, ⟨rfl, rfl, trivial⟩⟩)
 refine qae (qab ?_)
 refine wp_seq ?_
 refine qad [0, 1, 2, 3, 4] kz ?_
 refine qah [0, 1] [2, 3, 4] [(4, .p 0 0), (6, .p 1 0), (12, .p 1 0), (13, .v (.slice A2 ((qao (IntKind.i16.wrap v) T).length) c2))] ao bu fun cW bw => ?_
 have ah := ao.addNil 5 1
 have cu := ao.frNil 5 1
 refine qaj (qaQ ah bw (k := 0) (d := 14) (t := 22) (e := 5) (size := 1) (bytes := 1) (A := none) (As := A2) (m0 := 0) (c := 0) (m := ((qao (IntKind.i16.wrap v) T).length)) (cs := c2) (xs := []) (news := bc (qao (IntKind.i16.wrap v) T)) kz kz rfl (hs_.move ah.step nilM ah.imm).src (hs_.move ah.step nilM ah.imm).cap (by first | omega | (simp only [List.length_nil]; omega) | (simp; omega)) fun af ag cX cY cw bx bz => ?_)
 have bA : (⟨af, ag, 5, 1, 0 + (qao (IntKind.i16.wrap v) T).length, [] ++ bc (qao (IntKind.i16.wrap v) T)⟩ : Rw) = brow af ag 5 (qao (IntKind.i16.wrap v) T) := by rw [List.nil_append, Nat.zero_add]
 obtain ⟨ap, cz⟩ := bx.rowEq 0 [brow af ag 5 (qao (IntKind.i16.wrap v) T)] bA
 have bB := EnvOk.pick bz (ks := [4, 6, 12, 13, 14]) (env' := [(4, .p 0 0), (6, .p 1 0), (12, .p 1 0), (13, .v (.slice A2 ((qao (IntKind.i16.wrap v) T).length) c2)), (14, .v (.slice af (0 + (qao (IntKind.i16.wrap v) T).length) ag))]) kz
 have bC := bB.cast (env' := [(4, .p 0 0), (6, .p 1 0), (12, .p 1 0), (13, .v (.slice A2 ((qao (IntKind.i16.wrap v) T).length) c2)), (14, .v (.slice af ((qao (IntKind.i16.wrap v) T).length) ag))]) (by simp only [List.length_append, List.length_cons, List.length_nil, Nat.zero_add])
 refine qaj (qbs bC (f := 110) (vs := [.pointer (some ⟨aa, 0, none⟩), .slice af ((qao (IntKind.i16.wrap v) T).length) ag]) (d := 15) (n' := 8) kz Tryz.call110 Tryz.func110 rfl Tryz.ntmps110 kz fun cZ bD => ?_)
 have bE := bD.recast 0 (.v (.pointer (some ⟨aa, 0, none⟩))) (.p 1 0) rfl rfl (Nat.le_of_ble_eq_true (n := 2) rfl)
 refine qam [(0, .p 1 0), (1, .v (.slice af ((qao (IntKind.i16.wrap v) T).length) ag))] ap bE fun c5 bF => ?_
 refine qad [0, 1, 2, 3] kz ?_
 refine qah [0, 1] [2, 3] [(5, .p 1 0), (6, .v (.slice af ((qao (IntKind.i16.wrap v) T).length) ag))] ap bF fun c6 bG => ?_
 have bH := ap.giveUp (G := NoF) 0 [] (show _ = some (brow af ag 5 (qao (IntKind.i16.wrap v) T)) from rfl) (by omega)
 obtain ⟨aH, cA⟩ := ap.cutR 0 []
 refine qaj (qai bG (f := 165) (vs := [.pointer (some ⟨aa, 0, none⟩), .slice af ((qao (IntKind.i16.wrap v) T).length) ag, .bool false]) (d := 7) kz Tryz.call165 (qdO (IntKind.i16.wrap v) T (Str.of aH 1 rfl) bH (imm_n 1 rfl) hc hkey) ?_)
 rintro e_ da ⟨ab, rfl, bI, bJ, bK, aI⟩
 obtain ⟨ae, cB, bL⟩ := aH.wrote 1 [⟨b1, 0, [.int .i64 0, .slice none 0 0, .bool false, .slice none 0 0, .slice none 0 0], true⟩, ⟨aa, 0, [.int .i16 (IntKind.i16.wrap v), .slice ((ab.f 0).A) ((ab.f 0).l) ((ab.f 0).c), .map ab.m], true⟩] rfl aI bI
 have bM := qcr _ (Step.refl _ Nil) nilM bL bJ
 refine ⟨_, rfl, fun db bN => ?_⟩
 have bO := (EnvOk.places (tb' := [⟨b1, 0, [.int .i64 0, .slice none 0 0, .bool false, .slice none 0 0, .slice none 0 0], true⟩, ⟨aa, 0, [.int .i16 (IntKind.i16.wrap v), .slice ((ab.f 0).A) ((ab.f 0).l) ((ab.f 0).c), .map ab.m], true⟩]) bN (show Pl [⟨b1, 0, [.int .i64 0, .slice none 0 0, .bool false, .slice none 0 0, .slice none 0 0], true⟩, ⟨aa, 0, [.int .i16 (IntKind.i16.wrap v), .slice none 0 0, .map none], true⟩] [⟨b1, 0, [.int .i64 0, .slice none 0 0, .bool false, .slice none 0 0, .slice none 0 0], true⟩, ⟨aa, 0, [.int .i16 (IntKind.i16.wrap v), .slice ((ab.f 0).A) ((ab.f 0).l) ((ab.f 0).c), .map ab.m], true⟩] from ⟨rfl, rfl, ⟨rfl, rfl, trivial⟩⟩)).pk (env' := [(7, .v (.nilIface)), (5, .p 1 0), (6, .v (.slice af ((qao (IntKind.i16.wrap v) T).length) ag))])
 refine qah [3] [] [(4, .v (.nilIface))] ae bO fun dc bP => ?_
 refine qae (qab ?_)
 refine wp_ret ?_
 refine qaD bP ae.cells (v := .nilIface) kz ?_
 refine ⟨_, rfl, fun de bQ => ?_⟩
 have bR : EnvOk 20 [⟨b1, 0, [.int .i64 0, .slice none 0 0, .bool false, .slice none 0 0, .slice none 0 0], true⟩, ⟨aa, 0, [.int .i16 (IntKind.i16.wrap v), .slice ((ab.f 0).A) ((ab.f 0).l) ((ab.f 0).c), .map ab.m], true⟩] [(15, .v (.nilIface)), (4, .p 0 0), (6, .p 1 0), (12, .p 1 0), (13, .v (.slice A2 ((qao (IntKind.i16.wrap v) T).length) c2)), (14, .v (.slice af ((qao (IntKind.i16.wrap v) T).length) ag))] _ := bQ.places (⟨rfl, rfl, ⟨rfl, rfl, trivial⟩⟩)
 refine qah [4] [] [(4, .p 0 0), (6, .p 1 0), (16, .v (.bool false))] ae bR fun df aJ => ?_
 refine qae (qab ?_)
 refine qan aJ (b := false) kz rfl ?_
 refine wp_skip ?_
 refine qab ?_
 refine qad [0, 1, 2, 3] kz ?_
 refine qah [0] [1, 2, 3] [(4, .p 0 0), (18, .p 1 0)] ae aJ fun dg bS => ?_
 have aK := bS.recast 18 (.p 1 0) (.v (.pointer (some ⟨aa, 0, none⟩))) rfl rfl trivial
 have aL := aK.pk (env' := [(4, .p 0 0), (18, .v (.pointer (some ⟨aa, 0, none⟩)))])
 have av := WOk.strOut (G := NoF) [⟨b1, 0, [.int .i64 0, .slice none 0 0, .bool false, .slice none 0 0, .slice none 0 0], true⟩] ae
 obtain ⟨aM, ai, ar⟩ := ae.cutB aL 1 [⟨b1, 0, [.int .i64 0, .slice none 0 0, .bool false, .slice none 0 0, .slice none 0 0], true⟩] [(4, .p 0 0), (18, .v (.pointer (some ⟨aa, 0, none⟩)))]
 have aN := qcr _ ar.step immM ar.to' bM
 refine qaj (qai aM (f := 111) (vs := [.pointer (some ⟨aa, 0, none⟩)]) (d := 19) kz Tryz.call111 (qdR (IntKind.i16.wrap v) ab aa 0 _ _ av aN) ?_)
 rintro e_ cC ⟨bY, rfl, aO, aj⟩
 have ak := aO.move (Step.refl _ Nil) nilM (ai.laid (G := NoF) aj)
 obtain ⟨aw, ax, ay, az, aA, aB, aC, aD, aE, aF, aG, bZ, b8, al, bT, bU, cD, cE⟩ := ak.open_
 rw [al] at ak
 have bV := bT.small
 have bW := bU.small
 rw [al]
 refine ⟨_, rfl, fun cG aP => ?_⟩
 have aQ := ai.next_nil aj
 have cd := ai.frN aj
 refine qaj (qav aQ aP (oi := 0) (cs := [.int .i64 aw, .slice aB ax.length aC, .bool ay, .slice aD az.length aE, .slice aF aA.length aG]) kz fun bX au am aR => ?_)
 refine qah [3] [] [(4, .p 0 0), (5, .v (.bool true))] am aR fun cH aS => ?_
 refine qae (qab ?_)
 refine wp_ret ?_
 refine qaD aS am.cells (v := .tuple #[.agg #[.int .i64 aw, .slice aB ax.length aC, .bool ay, .slice aD az.length aE, .slice aF aA.length aG], .bool true]) kz ?_
 exact ⟨ab, _, rfl, (show TreeR _ (Imm NoF w bX [⟨b1, 0, [.int .i64 aw, .slice aB ax.length aC, .bool ay, .slice aD az.length aE, .slice aF aA.length aG], true⟩] []) _ (qbc ab) from (ak.move au.step immM au.to')).move (Step.refl _ Nil) nilM qbG, bK, am.step⟩
theorem qdv (v : Int) (T : Tree) (B : Bs) {A2 : Option Addr} {c2 : Nat} {w : World} {F : Nat → Nat → Prop} (hB : qao (IntKind.i16.wrap v) T = B) (hs_ : Octs w F A2 c2 B) (hc : qa8 T) (hkey : T.ranged) (hroom : B.length + 16 ≤ 1099511627776) :
  Calls Tryz.prog 45 #[.int .i64 v, .slice A2 B.length c2] w (fun e w' => ∃ D cs, e = .returned (.tuple #[.agg cs.toArray, .bool true]) ∧ TreeR w' (Fp NoF w) cs (qbc D) ∧ qbb (IntKind.i16.wrap v) D T ∧ Step w w' Nil) := by
 subst hB
 exact qdS v T hs_ hc hkey hroom
end Go.Proofs.YtgolpmkenmedoaaGreatDoor.ME