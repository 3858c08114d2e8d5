/- The texts of a claim, put together: the engine, the contracts, the law. Own work. -/
import Derived.Test.YtgolpmkenmedoaaGreatDoorWt1P3
namespace Go.Proofs.YtgolpmkenmedoaaGreatDoor.ME
open Go
open Go.RowKit
set_option linter.unusedVariables false
set_option linter.unusedSimpArgs false
set_option maxRecDepth 20000
def GotOK (m : Nat) : Prop := ∀ (ct : List Value) (t : Tree) (w : World) (F : Nat → Nat → Prop), TreeR w F ct t → t.depth ≤ m →
  Calls Tryz.prog 21 #[.agg ct.toArray] w (GivesT w F t)
theorem lGot_step {m : Nat} (hg : GotOK m) (ct : List Value) (t : Tree) (w : World) (F : Nat → Nat → Prop) (ht : TreeR w F ct t) (hd : t.depth ≤ m + 1) :
  Calls Tryz.prog 21 #[.agg ct.toArray] w (GivesT w F t) := by
 obtain ⟨n1, s2, b3, l4, u5, A6, c7, A8, c9, av, aw, dT, rfl, rfl, dw, dx, dU, dV⟩ := ht.open_
 have dy := dw.small
 have dz := dx.small
 obtain ⟨dW, dA, dX⟩ := dV.ex
 have dB := dA.small
 refine enter (n := 49) Tryz.func21 rfl Tryz.ntmps21 kz fun a hE => ?_
 have hW := WOk.start w Nil
 refine go_seq_region [0, 1] kz ?_
 refine of_op (wpOp_box hW hE (d := 1) (cs := [.int .i64 n1, .slice A6 s2.length c7, .bool b3, .slice A8 l4.length c9, .slice av u5.length aw]) kz fun cq fk fm dY dZ d5 cw cz => ?_)
 clear hE hW
 refine of_op (wpOp_alloc cw cz (d := 2) (cs := [.int .i64 0, .slice none 0 0, .bool false, .slice none 0 0, .slice none 0 0]) kz fun cr fo fq d6 d7 d8 bZ cA => ?_)
 clear cz cw
 refine wpOps_nil (then_normal ?_)
 refine go_seq_region [0, 1, 2, 3, 4, 5, 6, 7, 8] kz ?_
 refine go_rn [0, 1, 2, 3, 4, 5, 6] [7, 8] [(1, .p 0 0), (2, .p 1 0), (14, .v (.agg #[.int .i64 n1, .slice A6 s2.length c7, .bool b3, .slice none 0 0, .slice none 0 0]))] bZ cA fun fr cB => ?_
 clear cA
 refine of_op (wpOp_alloc bZ cB (d := 3) (cs := [.int .i64 0, .slice none 0 0, .bool false, .slice none 0 0, .slice none 0 0]) kz fun cu ft fu d9 ea eb cC cD => ?_)
 clear cB bZ
 refine of_op (wpOp_store cC cD (oi := 2) (cs := [.int .i64 n1, .slice A6 s2.length c7, .bool b3, .slice none 0 0, .slice none 0 0]) kz fun fv ec bi cE => ?_)
 clear cD cC
 refine wpOps_nil (then_normal ?_)
 refine wp_seq ?_
 refine go_sp [(1, .p 0 0), (2, .p 1 0), (3, .p 2 0), (16, .v (.slice A8 l4.length c9)), (17, .v (.int .i64 ((l4.length : Nat) : Int))), (18, .v (.int .i64 0))] bi cE fun fw cG => ?_
 clear cE
 refine wp_block ?_
 have cH := bi.addNil 26 5
 have ee := bi.frNil 26 5
 clear bi
 refine wp_loop_ghost (fun n_ a_ w_ => ∃ (k : Nat) (A_ : Option Addr) (c_ : Nat) (xs : List Value) (css : List (List Value)), n_ = l4.length - k ∧ k ≤ l4.length ∧ (Trees w_ (Imm F w w_ [⟨cq, 0, [.int .i64 n1, .slice A6 s2.length c7, .bool b3, .slice A8 l4.length c9, .slice av u5.length aw], true⟩, ⟨cr, 0, [.int .i64 0, .slice none 0 0, .bool false, .slice none 0 0, .slice none 0 0], true⟩, ⟨cu, 0, [.int .i64 n1, .slice A6 s2.length c7, .bool b3, .slice A_ k c_, .slice none 0 0], true⟩] [⟨A_, c_, 26, 5, k, xs⟩]) xs (l4.take k) css) ∧ LInv cH 49 [⟨cq, 0, [.int .i64 n1, .slice A6 s2.length c7, .bool b3, .slice A8 l4.length c9, .slice av u5.length aw], true⟩, ⟨cr, 0, [.int .i64 0, .slice none 0 0, .bool false, .slice none 0 0, .slice none 0 0], true⟩, ⟨cu, 0, [.int .i64 n1, .slice A6 s2.length c7, .bool b3, .slice A_ k c_, .slice none 0 0], true⟩] [⟨A_, c_, 26, 5, k, xs⟩] [(1, .p 0 0), (2, .p 1 0), (3, .p 2 0), (16, .v (.slice A8 l4.length c9)), (17, .v (.int .i64 ((l4.length : Nat) : Int))), (18, .v (.int .i64 ((k : Nat) : Int)))] a_ w_) (l4.length) ⟨0, none, 0, [], [], by omega, by omega, Trees.nil _ _, cG.pk, cH, Fr.refl _ _ _⟩ ?_
 clear cG
 rintro fx fy fz ⟨k, A_, c_, xs, css, ef, eg, hT, cI, ah, dg⟩
 refine go_sp [(1, .p 0 0), (2, .p 1 0), (3, .p 2 0), (16, .v (.slice A8 l4.length c9)), (17, .v (.int .i64 ((l4.length : Nat) : Int))), (18, .v (.int .i64 ((k : Nat) : Int))), (19, .v (.bool (decide (((k : Nat) : Int) < ((l4.length : Nat) : Int)))))] ah cI fun fA ay => ?_
 clear cI
 refine wp_seq ?_
 refine cond_of ay (b := decide (((k : Nat) : Int) < ((l4.length : Nat) : Int))) kz (fun b8 => ?_) (fun b8 => ?_)
 ·
  have eh := of_decide_eq_true b8
  refine wp_skip ?_
  refine then_normal ?_
  refine wp_seq ?_
  refine wp_block ?_
  refine go_seq_region [0, 1, 2, 3] kz ?_
  obtain ⟨ei, ej, dh, ek, bn⟩ := Slots.get dx (i := k) (by omega)
  obtain ⟨em, cd⟩ : ∃ x, l4[k]? = some x := ⟨_, List.getElem?_eq_getElem (by omega)⟩
  have ce := dU k em cd
  obtain ⟨cJ, cK, cL, cM, cN, cO, cP, cQ, cR, cS, cT, eo, rfl, bo, ep, eu, fB, fC⟩ := ce.open_
  rw [bo] at ce
  have dC := ep.small
  have dD := eu.small
  rw [bo] at bn
  refine of_op (wpOp_index ay (t := 34) (A := A8) (m := l4.length) (q := ((k : Nat) : Int)) (d := 20) kz (e := 37) (size := 5) (bytes := 88) kz dh rfl (by omega) fun fD bp => ?_)
  clear ay
  refine of_op (wpOp_load bp (t := 37) (b := ei) (o := ej + k * 5) (d := 21) kz (cs := [.int .i64 cJ, .slice cO cK.length cP, .bool cL, .slice cQ cM.length cR, .slice cS cN.length cT]) (v := .agg #[.int .i64 cJ, .slice cO cK.length cP, .bool cL, .slice cQ cM.length cR, .slice cS cN.length cT]) kz (AtF.move bn ah.step nilM keepF).at_ fun ev bq => ?_)
  clear bp
  refine of_op (wpOp_alloc ah bq (d := 5) (cs := [.int .i64 0, .slice none 0 0, .bool false, .slice none 0 0, .slice none 0 0]) kz fun ew ey ez dE dF az bt bu => ?_)
  clear bq ah
  refine of_op (wpOp_store bt bu (oi := 3) (cs := [.int .i64 cJ, .slice cO cK.length cP, .bool cL, .slice cQ cM.length cR, .slice cS cN.length cT]) kz fun eB aA bw bx => ?_)
  clear bu bt
  refine wpOps_nil (then_normal ?_)
  refine go_drawK 7 kz bw fun eC aB ai cU => ?_
  clear bw
  refine go_rnD [0, 1, 2] [(1, .p 0 0), (2, .p 1 0), (3, .p 2 0), (16, .v (.slice A8 l4.length c9)), (17, .v (.int .i64 ((l4.length : Nat) : Int))), (18, .v (.int .i64 ((k : Nat) : Int))), (23, .v (.slice A_ k c_)), (24, .v (.agg #[.int .i64 cJ, .slice cO cK.length cP, .bool cL, .slice cQ cM.length cR, .slice cS cN.length cT]))] 5 (panicFree_block (panicFree_then (panicFree_then (panicFree_block (panicFree_then panicFree_body))))) (fun _ h => h.cells) cU bx fun eD bz => ?_
  clear bx
  refine anyC_op (i := 3) kz (wpOp_call bz (f := 21) (vs := [.agg #[.int .i64 cJ, .slice cO cK.length cP, .bool cL, .slice cQ cM.length cR, .slice cS cN.length cT]]) (d := 25) kz Tryz.call21 ( hg _ _ _ _ (ce.move ai.step nilM ai.imm) (by have h_ := deep_get cd; rw [tdepth_mk] at hd; omega)) ?_)
  rintro e_ eE ⟨dG, rfl, cV, aC⟩
  have aD := cV.move (Step.refl _ Nil) nilM (ai.laid (G := F) aC)
  obtain ⟨aE, aF, aG, aH, aI, aJ, aK, aL, aM, aN, aO, dH, dI, aP, di, dj, eF, eG⟩ := aD.open_
  rw [aP] at aD
  have dl := di.small
  have dp := dj.small
  rw [aP]
  refine ⟨_, rfl, fun eH bA => ?_⟩
  have aQ := ai.next_nil aC
  have af := ai.frN aC
  clear bz
  have cW := TT.ofW af aQ
  refine ⟨fun _ => cW, ?_⟩
  refine anyC_op (i := 4) kz (wpOp_lit aQ bA (e := 26) (size := 5) (len := 1) (cs := [.int .i64 aE, .slice aJ aF.length aK, .bool aG, .slice aL aH.length aM, .slice aN aI.length aO]) (d := 26) kz kz fun dq eI eJ dJ dK aa aj bB => ?_)
  clear bA aQ
  have cX := TT.ofW (af.trans aa) aj
  refine ⟨fun _ => cX, ?_⟩
  refine anyC_op (i := 5) kz (wpOp_append aj bB (k := 0) (d := 27) (t := 23) (e := 26) (size := 5) (bytes := 88) (A := A_) (As := (some ⟨dq, 0, none⟩)) (m0 := k) (c := c_) (m := 1) (cs := 1) (xs := xs) (news := [.int .i64 aE, .slice aJ aF.length aK, .bool aG, .slice aL aH.length aM, .slice aN aI.length aO]) kz kz rfl (own_src (aj.own 1 _ rfl) (allOne_ok kz)) (own_cap (aj.own 1 _ rfl)) (by omega) fun aR aS eK eL ag aT bC => ?_)
  clear bB aj
  have bD := TT.ofW ((af.trans aa).trans ag) aT
  refine ⟨fun _ => bD, ?_⟩
  refine go_rnD [6] [(1, .p 0 0), (2, .p 1 0), (3, .p 2 0), (16, .v (.slice A8 l4.length c9)), (17, .v (.int .i64 ((l4.length : Nat) : Int))), (18, .v (.int .i64 ((k : Nat) : Int))), (27, .v (.slice aR (k + 1) aS)), (28, .p 2 3)] 1 (panicFree_block (panicFree_then (panicFree_then (panicFree_block (panicFree_then panicFree_body))))) (fun _ h => h.cells) bD bC fun eM bE => ?_
  clear bC
  refine anyC_op (i := 7) kz (wpOp_store aT bE (oi := 2) (cs := [.int .i64 n1, .slice A6 s2.length c7, .bool b3, .slice aR (k + 1) aS, .slice none 0 0]) kz fun eN ak bF bG => ?_)
  clear bE aT
  refine ⟨fun h => absurd rfl h, ?_⟩
  refine anyC_done kz ?_ _
  refine block_normal ?_
  refine then_normal ?_
  refine go_region [0, 1] kz ?_
  refine go_rn [0, 1] [] [(1, .p 0 0), (2, .p 1 0), (3, .p 2 0), (16, .v (.slice A8 l4.length c9)), (17, .v (.int .i64 ((l4.length : Nat) : Int))), (18, .v (.int .i64 (IntKind.i64.wrap (((k : Nat) : Int) + 1))))] bF bG fun eO cY => ?_
  clear bG
  refine wpOps_nil (then_normal ?_)
  obtain ⟨bH, cZ, al⟩ := bF.cutB cY 3 [⟨cq, 0, [.int .i64 n1, .slice A6 s2.length c7, .bool b3, .slice A8 l4.length c9, .slice av u5.length aw], true⟩, ⟨cr, 0, [.int .i64 0, .slice none 0 0, .bool false, .slice none 0 0, .slice none 0 0], true⟩, ⟨cu, 0, [.int .i64 n1, .slice A6 s2.length c7, .bool b3, .slice aR (k + 1) aS, .slice none 0 0], true⟩] [(1, .p 0 0), (2, .p 1 0), (3, .p 2 0), (16, .v (.slice A8 l4.length c9)), (17, .v (.int .i64 ((l4.length : Nat) : Int))), (18, .v (.int .i64 (IntKind.i64.wrap (((k : Nat) : Int) + 1))))]
  obtain ⟨c5, am⟩ := cZ.cutR 1 [⟨aR, aS, 26, 5, k + 1, xs ++ [.int .i64 aE, .slice aJ aF.length aK, .bool aG, .slice aL aH.length aM, .slice aN aI.length aO]⟩]
  have c6 : IntKind.i64.wrap (((k : Nat) : Int) + 1) = ((k + 1 : Nat) : Int) := wrap_succ (by omega)
  rw [c6] at bH
  exact ⟨l4.length - (k + 1), by omega, k + 1, aR, aS, xs ++ [Value.int .i64 aE, .slice aJ aF.length aK, .bool aG, .slice aL aH.length aM, .slice aN aI.length aO], (css ++ [[Value.int .i64 aE, .slice aJ aF.length aK, .bool aG, .slice aL aH.length aM, .slice aN aI.length aO]]), rfl, by omega, by rw [take_succ_of cd]; exact (hT.move ((((((((az.trans aA).trans aB).trans af).trans aa).trans ag).trans ak).trans al).trans am).step immM ((((((((az.trans aA).trans aB).trans af).trans aa).trans ag).trans ak).trans al).trans am).to').snoc (aD.move ((((aa.trans ag).trans ak).trans al).trans am).step immM ((((aa.trans ag).trans ak).trans al).trans am).to'), bH.pk, c5, (((((((((dg.trans az).trans aA).trans aB).trans af).trans aa).trans ag).trans ak).trans al).trans am)⟩
 ·
  have dL := of_decide_eq_false b8
  refine wp_exit ?_
  refine then_exit ?_
  refine then_exit ?_
  refine block_exit ?_
  refine then_normal ?_
  refine wp_seq ?_
  refine go_sp [(2, .p 1 0), (3, .p 2 0), (31, .v (.slice av u5.length aw)), (32, .v (.int .i64 ((u5.length : Nat) : Int))), (33, .v (.int .i64 0))] ah ay fun eP bI => ?_
  clear ay
  refine wp_block ?_
  have hk0 : k = l4.length := by omega
  have bJ := ah.addNil 66 2
  have bK := ah.frNil 66 2
  clear ah
  refine wp_loop_ghost (fun n_ a_ w_ => ∃ (q : Nat) (A5_ : Option Addr) (c5_ : Nat) (ys : List Value) (dss : List (List Value)), n_ = u5.length - q ∧ q ≤ u5.length ∧ (Tags w_ (Imm F w w_ [⟨cq, 0, [.int .i64 n1, .slice A6 s2.length c7, .bool b3, .slice A8 l4.length c9, .slice av u5.length aw], true⟩, ⟨cr, 0, [.int .i64 0, .slice none 0 0, .bool false, .slice none 0 0, .slice none 0 0], true⟩, ⟨cu, 0, [.int .i64 n1, .slice A6 s2.length c7, .bool b3, .slice A_ k c_, .slice A5_ q c5_], true⟩] [⟨A_, c_, 26, 5, k, xs⟩, ⟨A5_, c5_, 66, 2, q, ys⟩]) ys (u5.take q) dss) ∧ LInv bJ 49 [⟨cq, 0, [.int .i64 n1, .slice A6 s2.length c7, .bool b3, .slice A8 l4.length c9, .slice av u5.length aw], true⟩, ⟨cr, 0, [.int .i64 0, .slice none 0 0, .bool false, .slice none 0 0, .slice none 0 0], true⟩, ⟨cu, 0, [.int .i64 n1, .slice A6 s2.length c7, .bool b3, .slice A_ k c_, .slice A5_ q c5_], true⟩] [⟨A_, c_, 26, 5, k, xs⟩, ⟨A5_, c5_, 66, 2, q, ys⟩] [(2, .p 1 0), (3, .p 2 0), (31, .v (.slice av u5.length aw)), (32, .v (.int .i64 ((u5.length : Nat) : Int))), (33, .v (.int .i64 ((q : Nat) : Int)))] a_ w_) (u5.length) ⟨0, none, 0, [], [], by omega, by omega, Tags.nil _ _, bI.pk, bJ, Fr.refl _ _ _⟩ ?_
  clear bI
  rintro eQ eR eS ⟨q, A5_, c5_, ys, dss, dM, dN, hU, bL, ab, aU⟩
  refine go_sp [(2, .p 1 0), (3, .p 2 0), (31, .v (.slice av u5.length aw)), (32, .v (.int .i64 ((u5.length : Nat) : Int))), (33, .v (.int .i64 ((q : Nat) : Int))), (34, .v (.bool (decide (((q : Nat) : Int) < ((u5.length : Nat) : Int)))))] ab bL fun eU ao => ?_
  clear bL
  refine wp_seq ?_
  refine cond_of ao (b := decide (((q : Nat) : Int) < ((u5.length : Nat) : Int))) kz (fun aV => ?_) (fun aV => ?_)
  ·
   have dO := of_decide_eq_true aV
   refine wp_skip ?_
   refine then_normal ?_
   refine wp_seq ?_
   refine wp_block ?_
   refine go_seq_region [0, 1, 2, 3] kz ?_
   obtain ⟨dr, dt, da, dP, aW⟩ := Slots.get dA (i := q) (by omega)
   obtain ⟨⟨ac, ae⟩, bM⟩ : ∃ x, u5[q]? = some x := ⟨_, List.getElem?_eq_getElem (by omega)⟩
   obtain ⟨⟨ap, ar, cm, db⟩, du, dv⟩ := dX q ac ae bM
   rw [cm] at aW
   refine of_op (wpOp_index ao (t := 35) (A := av) (m := u5.length) (q := ((q : Nat) : Int)) (d := 35) kz (e := 69) (size := 2) (bytes := 32) kz da rfl (by omega) fun eV bN => ?_)
   clear ao
   refine of_op (wpOp_load bN (t := 69) (b := dr) (o := dt + q * 2) (d := 36) kz (cs := [.int .u32 ac, .slice ap ae.length ar]) (v := .agg #[.int .u32 ac, .slice ap ae.length ar]) kz (AtF.move aW ab.step nilM keepF).at_ fun eW bO => ?_)
   clear bN
   refine of_op (wpOp_alloc ab bO (d := 7) (cs := [.int .u32 0, .slice none 0 0]) kz fun eX eY eZ dQ dR aX bP bQ => ?_)
   clear bO ab
   refine of_op (wpOp_store bP bQ (oi := 3) (cs := [.int .u32 ac, .slice ap ae.length ar]) kz fun e9 aY aZ bR => ?_)
   clear bQ bP
   refine wpOps_nil (then_normal ?_)
   refine go_region [0, 1, 2, 3, 4, 5, 6, 7, 8, 9, 10] kz ?_
   refine go_rn [0, 1, 2, 3, 4, 5, 6] [7, 8, 9, 10] [(2, .p 1 0), (3, .p 2 0), (31, .v (.slice av u5.length aw)), (32, .v (.int .i64 ((u5.length : Nat) : Int))), (33, .v (.int .i64 ((q : Nat) : Int))), (38, .v (.slice A5_ q c5_)), (43, .v (.agg #[.int .u32 ac, .slice ap ae.length ar]))] aZ bR fun fa bS => ?_
   clear bR
   refine wpOps_push aZ bS (k := 1) (e := 66) (size := 2) (len := 1) (cs := [.int .u32 ac, .slice ap ae.length ar]) (d1 := 44) (d := 45) kz (t := 24) (bytes := 32) kz (fun _ => by kernel_rfl) rfl kz (by omega) fun bj bk fb fe ba bd ⟨_, bT⟩ => ?_
   clear bS aZ
   refine go_rn [9] [10] [(2, .p 1 0), (3, .p 2 0), (31, .v (.slice av u5.length aw)), (32, .v (.int .i64 ((u5.length : Nat) : Int))), (33, .v (.int .i64 ((q : Nat) : Int))), (45, .v (.slice bj (q + 1) bk)), (46, .p 2 4)] bd bT fun ff bU => ?_
   clear bT
   refine of_op (wpOp_store bd bU (oi := 2) (cs := [.int .i64 n1, .slice A6 s2.length c7, .bool b3, .slice A_ k c_, .slice bj (q + 1) bk]) kz fun fg bf bV bW => ?_)
   clear bU bd
   refine wpOps_nil ?_
   refine block_normal ?_
   refine then_normal ?_
   refine go_region [0, 1] kz ?_
   refine go_rn [0, 1] [] [(2, .p 1 0), (3, .p 2 0), (31, .v (.slice av u5.length aw)), (32, .v (.int .i64 ((u5.length : Nat) : Int))), (33, .v (.int .i64 (IntKind.i64.wrap (((q : Nat) : Int) + 1))))] bV bW fun fh dc => ?_
   clear bW
   refine wpOps_nil (then_normal ?_)
   obtain ⟨bX, bg, bh⟩ := bV.cutB dc 3 [⟨cq, 0, [.int .i64 n1, .slice A6 s2.length c7, .bool b3, .slice A8 l4.length c9, .slice av u5.length aw], true⟩, ⟨cr, 0, [.int .i64 0, .slice none 0 0, .bool false, .slice none 0 0, .slice none 0 0], true⟩, ⟨cu, 0, [.int .i64 n1, .slice A6 s2.length c7, .bool b3, .slice A_ k c_, .slice bj (q + 1) bk], true⟩] [(2, .p 1 0), (3, .p 2 0), (31, .v (.slice av u5.length aw)), (32, .v (.int .i64 ((u5.length : Nat) : Int))), (33, .v (.int .i64 (IntKind.i64.wrap (((q : Nat) : Int) + 1))))]
   have de : IntKind.i64.wrap (((q : Nat) : Int) + 1) = ((q + 1 : Nat) : Int) := wrap_succ (by omega)
   rw [de] at bX
   exact ⟨u5.length - (q + 1), by omega, q + 1, bj, bk, ys ++ [Value.int .u32 ac, .slice ap ae.length ar], (dss ++ [[Value.int .u32 ac, .slice ap ae.length ar]]), rfl, by omega, by rw [take_succ_of bM]; exact (hU.move ((((aX.trans aY).trans ba).trans bf).trans bh).step immM ((((aX.trans aY).trans ba).trans bf).trans bh).to').snoc (c := [.int .u32 ac, .slice ap ae.length ar]) (x := (ac, ae)) ⟨⟨_, _, rfl, (db.move bg.step nilM bg.imm)⟩, du, dv⟩, bX.pk, bg, (((((aU.trans aX).trans aY).trans ba).trans bf).trans bh)⟩
  ·
   have dS := of_decide_eq_false aV
   refine wp_exit ?_
   refine then_exit ?_
   refine then_exit ?_
   refine block_exit ?_
   refine then_normal ?_
   refine go_seq_region [0, 1] kz ?_
   refine go_rn [0] [1] [(2, .p 1 0), (48, .v (.agg #[.int .i64 n1, .slice A6 s2.length c7, .bool b3, .slice A_ k c_, .slice A5_ q c5_]))] ab ao fun fi bY => ?_
   clear ao
   refine of_op (wpOp_store ab bY (oi := 1) (cs := [.int .i64 n1, .slice A6 s2.length c7, .bool b3, .slice A_ k c_, .slice A5_ q c5_]) kz fun fj ax au df => ?_)
   clear bY ab
   refine wpOps_nil (then_normal ?_)
   refine wp_ret ?_
   refine leave df au.cells (v := .agg #[.int .i64 n1, .slice A6 s2.length c7, .bool b3, .slice A_ k c_, .slice A5_ q c5_]) kz ?_
   have hq0 : q = u5.length := by omega
   have hT' := (hT.move ((bK.trans aU).trans ax).step immM ((bK.trans aU).trans ax).to')
   have hU' := (hU.move ax.step immM ax.to')
   rw [show l4.take k = l4 by rw [hk0, List.take_length]] at hT'
   rw [show u5.take q = u5 by rw [hq0, List.take_length]] at hU'
   exact tree_end au rfl (dw.move au.step nilM startFp) hk0 (trees_fp au (k := 0) rfl hT' hk0 (by omega)) hq0 (tags_fp au (k := 1) rfl hU' hq0 (by omega)) rfl
theorem lGot : ∀ m, GotOK m
 | 0 => fun ct t w F ht hd => by
  obtain ⟨n, s, b, l, u, A1, c1, A2, c2, A3, c3, xs, rfl, _⟩ := ht.open_
  rw [tdepth_mk] at hd; omega
 | m + 1 => lGot_step (lGot m)
theorem tSorted {u : List (Int × Bs)} {A : Option Addr} {c : Nat} {w : World} {F : Nat → Nat → Prop} (hu : TagsR w F A c u) (hsrt : Sorted u) : Calls Tryz.prog 124 #[.slice A u.length c] w (Gives w (.tuple #[])) := by
 obtain ⟨cs1, h2, h3⟩ := hu.ex
 have hsm4 := h2.small
 refine enter (n := 45) Tryz.func124 rfl Tryz.ntmps124 kz fun a hE => ?_
 have hW := WOk.start w Nil
 refine go_sp [(0, .v (.slice A u.length c)), (5, .v (.int .i64 ((u.length : Nat) : Int))), (6, .v (.int .i64 0))] hW hE fun a5 hE6 => ?_
 clear hE
 refine wp_block ?_
 refine wp_loop_ghost (fun n_ a_ w_ => ∃ (k : Nat), n_ = u.length - k ∧ k ≤ u.length ∧ LInv hW 45 [] [] [(0, .v (.slice A u.length c)), (5, .v (.int .i64 ((u.length : Nat) : Int))), (6, .v (.int .i64 ((k : Nat) : Int)))] a_ w_) (u.length) ⟨0, by omega, by omega, hE6.pk, hW, Fr.refl _ _ _⟩ ?_
 clear hE6
 rintro n7 a8 w9 ⟨k, aW, aX, am, ab, ao⟩
 refine go_sp [(0, .v (.slice A u.length c)), (5, .v (.int .i64 ((u.length : Nat) : Int))), (6, .v (.int .i64 ((k : Nat) : Int))), (7, .v (.bool (decide (((k : Nat) : Int) < ((u.length : Nat) : Int)))))] ab am fun bn ae => ?_
 clear am
 refine wp_seq ?_
 refine cond_of ae (b := decide (((k : Nat) : Int) < ((u.length : Nat) : Int))) kz (fun aj => ?_) (fun aj => ?_)
 ·
  have aY := of_decide_eq_true aj
  refine wp_skip ?_
  refine then_normal ?_
  refine wp_seq ?_
  refine wp_block ?_
  refine go_sp [(0, .v (.slice A u.length c)), (2, .v (.int .i64 ((k : Nat) : Int))), (5, .v (.int .i64 ((u.length : Nat) : Int))), (6, .v (.int .i64 ((k : Nat) : Int)))] ab ae fun bo ap => ?_
  clear ae
  refine go_sp [(0, .v (.slice A u.length c)), (3, .v (.int .i64 ((k : Nat) : Int))), (5, .v (.int .i64 ((u.length : Nat) : Int))), (6, .v (.int .i64 ((k : Nat) : Int)))] ab ap fun bp ar => ?_
  clear ap
  refine wp_block ?_
  refine loop_out ?_
  refine wp_seq ?_
  refine go_seq_drawQ kz ab fun bq au aa => ?_
  clear ab
  refine go_rnD [0, 1, 2] [(0, .v (.slice A u.length c)), (3, .v (.int .i64 ((k : Nat) : Int))), (5, .v (.int .i64 ((u.length : Nat) : Int))), (6, .v (.int .i64 ((k : Nat) : Int))), (12, .v (.bool (decide (((k : Nat) : Int) > 0))))] 13 (panicFree_then (panicFree_then (panicFree_then (panicFree_block (panicFree_block (panicFree_then (panicFree_then (panicFree_block panicFree_body)))))))) (fun _ h => h ▸ aa.cells) rfl ar fun bt af => ?_
  clear ar
  refine (Bool.eq_false_or_eq_true (decide (((k : Nat) : Int) > 0))).elim (fun ac => ?_) (fun ac => ?_)
  ·
   have aZ := of_decide_eq_true ac
   have av := af.cast (env' := [(0, .v (.slice A u.length c)), (3, .v (.int .i64 ((k : Nat) : Int))), (5, .v (.int .i64 ((u.length : Nat) : Int))), (6, .v (.int .i64 ((k : Nat) : Int))), (12, .v (.bool true))]) (by rw [ac])
   clear af
   refine go_rnD [3, 4, 8, 9, 10] [(0, .v (.slice A u.length c)), (3, .v (.int .i64 ((k : Nat) : Int))), (5, .v (.int .i64 ((u.length : Nat) : Int))), (6, .v (.int .i64 ((k : Nat) : Int))), (12, .v (.bool true)), (13, .v (.slice A u.length c)), (14, .v (.int .i64 ((k : Nat) : Int))), (18, .v (.slice A u.length c)), (20, .v (.int .i64 (IntKind.i64.wrap (((k : Nat) : Int) - 1))))] 8 (panicFree_then (panicFree_then (panicFree_then (panicFree_block (panicFree_block (panicFree_then (panicFree_then (panicFree_block panicFree_body)))))))) (fun _ h => h ▸ aa.cells) rfl av fun bu aw => ?_
   clear av
   obtain ⟨aN, aO, aP, ba, ag⟩ := Slots.get h2 (i := k) (by omega)
   obtain ⟨⟨ah, bd⟩, ax⟩ : ∃ x, u[k]? = some x := ⟨_, List.getElem?_eq_getElem (by omega)⟩
   obtain ⟨⟨bw, bx, ay, bf⟩, bz, bA⟩ := h3 k ah bd ax
   rw [ay] at ag
   refine takeC_index aw (i := 5) (t := 35) (A := A) (m := u.length) (q := ((k : Nat) : Int)) (d := 15) kz (e := 69) (size := 2) (bytes := 32) kz aP rfl (by omega) kz kz (panicFree_then (panicFree_then (panicFree_then (panicFree_block (panicFree_block (panicFree_then (panicFree_then (panicFree_block panicFree_body)))))))) rfl fun bB az => ?_
   clear aw
   refine go_rnD [6] [(0, .v (.slice A u.length c)), (3, .v (.int .i64 ((k : Nat) : Int))), (5, .v (.int .i64 ((u.length : Nat) : Int))), (6, .v (.int .i64 ((k : Nat) : Int))), (12, .v (.bool true)), (16, .v (.pointer (some ⟨aN, aO + k * 2, none⟩))), (18, .v (.slice A u.length c)), (20, .v (.int .i64 (IntKind.i64.wrap (((k : Nat) : Int) - 1))))] 6 (panicFree_then (panicFree_then (panicFree_then (panicFree_block (panicFree_block (panicFree_then (panicFree_then (panicFree_block panicFree_body)))))))) (fun _ h => h ▸ aa.cells) rfl az fun bC aA => ?_
   clear az
   refine takeC_load aA (i := 7) (t := 64) (b := aN) (o := aO + k * 2) (d := 17) kz (cs := [.int .u32 ah]) (v := .int .u32 ah) kz (fun w' h' => h' ▸ (At.drop (AtF.move ag aa.step nilM keepF).at_ 0 1)) kz kz (panicFree_then (panicFree_then (panicFree_then (panicFree_block (panicFree_block (panicFree_then (panicFree_then (panicFree_block panicFree_body)))))))) rfl fun bD aB => ?_
   clear aA
   have aQ : IntKind.i64.wrap (((k : Nat) : Int) - 1) = (((k - 1) : Nat) : Int) := by simp only [wrap_u64, wrap_u32, wrap_u16, IntKind.wrap_i64, IntKind.wrap_i32]; omega
   have aC := EnvOk.pick aB (ks := [0, 3, 5, 6, 12, 16, 18, 20, 17]) (env' := [(0, .v (.slice A u.length c)), (3, .v (.int .i64 ((k : Nat) : Int))), (5, .v (.int .i64 ((u.length : Nat) : Int))), (6, .v (.int .i64 ((k : Nat) : Int))), (12, .v (.bool true)), (16, .v (.pointer (some ⟨aN, aO + k * 2, none⟩))), (18, .v (.slice A u.length c)), (20, .v (.int .i64 (IntKind.i64.wrap (((k : Nat) : Int) - 1)))), (17, .v (.int .u32 ah))]) kz
   have aD := aC.cast (env' := [(0, .v (.slice A u.length c)), (3, .v (.int .i64 ((k : Nat) : Int))), (5, .v (.int .i64 ((u.length : Nat) : Int))), (6, .v (.int .i64 ((k : Nat) : Int))), (12, .v (.bool true)), (16, .v (.pointer (some ⟨aN, aO + k * 2, none⟩))), (18, .v (.slice A u.length c)), (20, .v (.int .i64 (((k - 1) : Nat) : Int))), (17, .v (.int .u32 ah))]) (by rw [aQ])
   clear aB aC
   obtain ⟨aU, aV, aR, bg, ai⟩ := Slots.get h2 (i := (k - 1)) (by omega)
   obtain ⟨⟨aE, bh⟩, aF⟩ : ∃ x, u[(k - 1)]? = some x := ⟨_, List.getElem?_eq_getElem (by omega)⟩
   obtain ⟨⟨bE, bF, aG, bi⟩, bG, bH⟩ := h3 (k - 1) aE bh aF
   rw [aG] at ai
   refine takeC_index aD (i := 11) (t := 35) (A := A) (m := u.length) (q := (((k - 1) : Nat) : Int)) (d := 21) kz (e := 69) (size := 2) (bytes := 32) kz aR rfl (by omega) kz kz (panicFree_then (panicFree_then (panicFree_then (panicFree_block (panicFree_block (panicFree_then (panicFree_then (panicFree_block panicFree_body)))))))) rfl fun bI aH => ?_
   clear aD
   refine go_rnD [12] [(0, .v (.slice A u.length c)), (3, .v (.int .i64 ((k : Nat) : Int))), (5, .v (.int .i64 ((u.length : Nat) : Int))), (6, .v (.int .i64 ((k : Nat) : Int))), (12, .v (.bool true)), (17, .v (.int .u32 ah)), (22, .v (.pointer (some ⟨aU, aV + (k - 1) * 2, none⟩)))] 3 (panicFree_then (panicFree_then (panicFree_then (panicFree_block (panicFree_block (panicFree_then (panicFree_then (panicFree_block panicFree_body)))))))) (fun _ h => h ▸ aa.cells) rfl aH fun bJ aI => ?_
   clear aH
   refine takeC_load aI (i := 13) (t := 64) (b := aU) (o := aV + (k - 1) * 2) (d := 23) kz (cs := [.int .u32 aE]) (v := .int .u32 aE) kz (fun w' h' => h' ▸ (At.drop (AtF.move ai aa.step nilM keepF).at_ 0 1)) kz kz (panicFree_then (panicFree_then (panicFree_then (panicFree_block (panicFree_block (panicFree_then (panicFree_then (panicFree_block panicFree_body)))))))) rfl fun bK aJ => ?_
   clear aI
   refine go_rnD [14, 15] [(0, .v (.slice A u.length c)), (3, .v (.int .i64 ((k : Nat) : Int))), (5, .v (.int .i64 ((u.length : Nat) : Int))), (6, .v (.int .i64 ((k : Nat) : Int))), (25, .v (.bool (decide (ah < aE))))] 0 (panicFree_then (panicFree_then (panicFree_then (panicFree_block (panicFree_block (panicFree_then (panicFree_then (panicFree_block panicFree_body)))))))) (fun _ h => h ▸ aa.cells) rfl aJ fun bL ak => ?_
   clear aJ
   refine anyC_done kz ?_ _
   refine then_normal ?_
   refine cond_false ak (b := decide (ah < aE)) kz (decide_eq_false (sorted_not hsrt ax aF (by omega))) ?_
   refine wp_exit ?_
   refine then_exit ?_
   refine then_exit ?_
   refine block_exit ?_
   refine block_normal ?_
   refine then_normal ?_
   refine go_region [0, 1] kz ?_
   refine go_rn [0, 1] [] [(0, .v (.slice A u.length c)), (5, .v (.int .i64 ((u.length : Nat) : Int))), (6, .v (.int .i64 (IntKind.i64.wrap (((k : Nat) : Int) + 1))))] aa ak fun bM aK => ?_
   clear ak
   refine wpOps_nil (then_normal ?_)
   have aS : IntKind.i64.wrap (((k : Nat) : Int) + 1) = ((k + 1 : Nat) : Int) := wrap_succ (by omega)
   rw [aS] at aK
   exact ⟨u.length - (k + 1), by omega, k + 1, rfl, by omega, aK.pk, aa, (ao.trans au)⟩
  ·
   have bj := of_decide_eq_false ac
   have aL := af.cast (env' := [(0, .v (.slice A u.length c)), (3, .v (.int .i64 ((k : Nat) : Int))), (5, .v (.int .i64 ((u.length : Nat) : Int))), (6, .v (.int .i64 ((k : Nat) : Int))), (12, .v (.bool false))]) (by rw [ac])
   clear af
   refine go_rnD [3, 4, 5, 6, 7, 8, 9, 10, 11, 12, 13, 14, 15] [(0, .v (.slice A u.length c)), (3, .v (.int .i64 ((k : Nat) : Int))), (5, .v (.int .i64 ((u.length : Nat) : Int))), (6, .v (.int .i64 ((k : Nat) : Int))), (25, .v (.bool false))] 0 (panicFree_then (panicFree_then (panicFree_then (panicFree_block (panicFree_block (panicFree_then (panicFree_then (panicFree_block panicFree_body)))))))) (fun _ h => h ▸ aa.cells) rfl aL fun bN al => ?_
   clear aL
   refine anyC_done kz ?_ _
   refine then_normal ?_
   refine cond_false al (b := false) kz rfl ?_
   refine wp_exit ?_
   refine then_exit ?_
   refine then_exit ?_
   refine block_exit ?_
   refine block_normal ?_
   refine then_normal ?_
   refine go_region [0, 1] kz ?_
   refine go_rn [0, 1] [] [(0, .v (.slice A u.length c)), (5, .v (.int .i64 ((u.length : Nat) : Int))), (6, .v (.int .i64 (IntKind.i64.wrap (((k : Nat) : Int) + 1))))] aa al fun bO aM => ?_
   clear al
   refine wpOps_nil (then_normal ?_)
   have aT : IntKind.i64.wrap (((k : Nat) : Int) + 1) = ((k + 1 : Nat) : Int) := wrap_succ (by omega)
   rw [aT] at aM
   exact ⟨u.length - (k + 1), by omega, k + 1, rfl, by omega, aM.pk, aa, (ao.trans au)⟩
 ·
  have bk := of_decide_eq_false aj
  refine wp_exit ?_
  refine then_exit ?_
  refine then_exit ?_
  refine block_exit ?_
  refine leave_end ae ab.cells (v := .tuple #[]) kz ?_
  exact ⟨rfl, ab.step⟩
theorem tTextN (s : ByteArray) (w : World) (F : Nat → Nat → Prop) : Calls Tryz.prog 139 #[.pointer none] w (GivesT w F (.mk 0 [] true [] [])) := by
 refine enter (n := 11) Tryz.func139 rfl Tryz.ntmps139 kz fun a hE => ?_
 have hW := WOk.start w Nil
 refine go_seq_region [0] kz ?_
 refine of_op (wpOp_alloc hW hE (d := 2) (cs := [.int .i64 0, .slice none 0 0, .bool false, .slice none 0 0, .slice none 0 0]) kz fun b1 a2 w3 hb4 hz5 hF6 hW7 hE8 => ?_)
 clear hE hW
 refine wpOps_nil (then_normal ?_)
 refine wp_seq ?_
 refine go_sp [(0, .v (.pointer none)), (2, .p 0 0), (4, .v (.bool true))] hW7 hE8 fun a9 aa => ?_
 clear hE8
 refine cond_true aa (b := true) kz rfl ?_
 refine go_seq_region [0, 1] kz ?_
 refine go_rn [0] [1] [(2, .p 0 0), (5, .v (.agg #[.int .i64 0, .slice none 0 0, .bool true, .slice none 0 0, .slice none 0 0]))] hW7 aa fun ah ab => ?_
 clear aa
 refine of_op (wpOp_store hW7 ab (oi := 0) (cs := [.int .i64 0, .slice none 0 0, .bool true, .slice none 0 0, .slice none 0 0]) kz fun af ag ac ae => ?_)
 clear ab hW7
 refine wpOps_nil (then_normal ?_)
 refine wp_ret ?_
 refine then_ret ?_
 refine leave ae ac.cells (v := .agg #[.int .i64 0, .slice none 0 0, .bool true, .slice none 0 0, .slice none 0 0]) kz ?_
 exact ⟨_, rfl, (show TreeR _ (Imm F w af [⟨b1, 0, [.int .i64 0, .slice none 0 0, .bool true, .slice none 0 0, .slice none 0 0], true⟩] []) _ (Tree.mk 0 [] true [] []) from (TreeR.mk (n := 0) (b := true) (s := []) (l := []) (u := []) (fun _ => []) (Octs.nil _ _) (Slots.nil _ _ _ _) (fun i_ x_ h_ => by simp at h_) (TagsR.nil _ _))).move (Step.refl _ Nil) nilM immOut, ac.step⟩
theorem tTextS (b o : Nat) (s : ByteArray) (w : World) (F : Nat → Nat → Prop) (hat : AtF w F b o [.string s]) (hs : s.size ≤ 1000000) : Calls Tryz.prog 139 #[.pointer (some ⟨b, o, none⟩)] w (GivesT w F (.mk 0 (sb s) false [] [])) := by
 refine enter (n := 11) Tryz.func139 rfl Tryz.ntmps139 kz fun a hE => ?_
 have hW := WOk.start w Nil
 refine go_seq_region [0] kz ?_
 refine of_op (wpOp_alloc hW hE (d := 2) (cs := [.int .i64 0, .slice none 0 0, .bool false, .slice none 0 0, .slice none 0 0]) kz fun b1 a2 w3 hb4 hz5 hF6 hW7 hE8 => ?_)
 clear hE hW
 refine wpOps_nil (then_normal ?_)
 refine wp_seq ?_
 refine go_sp [(0, .v (.pointer (some ⟨b, o, none⟩))), (2, .p 0 0), (4, .v (.bool false))] hW7 hE8 fun a9 aa => ?_
 clear hE8
 refine cond_false aa (b := false) kz rfl ?_
 refine wp_skip ?_
 refine then_normal ?_
 refine go_seq_region [0, 1, 2, 3, 4, 5] kz ?_
 refine go_rn [0, 1] [2, 3, 4, 5] [(2, .p 0 0), (7, .v (.pointer (some ⟨b, o, none⟩)))] hW7 aa fun au ac => ?_
 clear aa
 refine of_op (wpOp_load ac (t := 9) (b := b) (o := o) (d := 8) kz (cs := [.string s]) (v := .string s) kz (AtF.move hat hW7.step nilM keepF).at_ fun av ae => ?_)
 clear ac
 refine of_op (wpOp_bytes (d := 9) (src := 9) (dst := 22) (e := 5) (s := s) hW7 ae (by omega) fun aj ak aw ax ap ab al af => ?_)
 clear ae hW7
 have am := al F
 refine go_rn [4] [5] [(2, .p 0 0), (10, .v (.agg #[.int .i64 0, .slice (some ⟨aj, 0, none⟩) ((sb s).length) ak, .bool false, .slice none 0 0, .slice none 0 0]))] ab af fun ay ag => ?_
 clear af
 refine of_op (wpOp_store ab ag (oi := 0) (cs := [.int .i64 0, .slice (some ⟨aj, 0, none⟩) ((sb s).length) ak, .bool false, .slice none 0 0, .slice none 0 0]) kz fun ar ah ai ao => ?_)
 clear ag ab
 refine wpOps_nil (then_normal ?_)
 refine wp_ret ?_
 refine leave ao ai.cells (v := .agg #[.int .i64 0, .slice (some ⟨aj, 0, none⟩) ((sb s).length) ak, .bool false, .slice none 0 0, .slice none 0 0]) kz ?_
 exact ⟨_, rfl, (show TreeR _ (Imm F w ar [⟨b1, 0, [.int .i64 0, .slice (some ⟨aj, 0, none⟩) ((sb s).length) ak, .bool false, .slice none 0 0, .slice none 0 0], true⟩] []) _ (Tree.mk 0 (sb s) false [] []) from (TreeR.mk (n := 0) (b := false) (s := (sb s)) (l := []) (u := []) (fun _ => []) (am.move ah.step immM ah.to') (Slots.nil _ _ _ _) (fun i_ x_ h_ => by simp at h_) (TagsR.nil _ _))).move (Step.refl _ Nil) nilM immOut, ai.step⟩
theorem tText (A : Option Addr) (s : ByteArray) (w : World) (F : Nat → Nat → Prop) (hO : ∀ ad, A = some ad → ∃ b o, ad = ⟨b, o, none⟩ ∧ AtF w F b o [.string s]) (hs : s.size ≤ 1000000) : Calls Tryz.prog 139 #[.pointer A] w (GivesT w F (textT A s)) := by
 cases A with
 | none => exact tTextN s w F
 | some ad =>
  obtain ⟨b, o, rfl, h⟩ := hO ad rfl
  exact tTextS b o s w F h hs
theorem tAssignReplicasToDirsResponse_1 : TellOne Tryz.prog 153 69 := by
 intro w B cp c n k A Av x x0 x1 x2 x3 xs G hbx ho hG hn
 refine enter (n := 14) Tryz.func153 rfl Tryz.ntmps153 kz fun a hE => ?_
 have hW := hbx.wok
 have hE0 := (hE.grow ⟨B, 0, [x0, x1, x2, x3, .slice A n cp], true⟩).recast 2 (.v (.pointer (some ⟨B, 0, none⟩))) (.p 0 0) rfl rfl (by simp [SV.ok])
 have hsm := Slots.small ho
 have ah := hE0.pk (env' := [(0, .v (.int .u32 k)), (1, .v (.slice Av x.length c)), (2, .p 0 0)])
 refine go_drawK 9 kz hW fun w1 hF2 hW3 hT4 => ?_
 clear hW
 refine go_rnD [0, 1, 2, 3] [(2, .p 0 0), (6, .v (.slice A n cp)), (7, .v (.int .u32 k)), (8, .v (.slice Av x.length c))] 6 panicFree_body (fun _ h => h.cells) hT4 ah fun a5 hE6 => ?_
 clear ah
 have hW7 := hW3.addNil 5 1
 have hF8 := hW3.frNil 5 1
 refine anyC_op (i := 4) kz (wpOp_append hW7 hE6 (k := 1) (d := 9) (t := 22) (e := 5) (size := 1) (bytes := 1) (A := none) (As := Av) (m0 := 0) (c := 0) (m := x.length) (cs := c) (xs := []) (news := bc x) kz kz rfl (ho.move hW7.step (fun b o h _ => hG b o h) keepF).src (ho.move hW7.step (fun b o h _ => hG b o h) keepF).cap (by first | omega | (simp only [List.length_nil]; omega) | (simp; omega)) fun A9 aa aK aL ac ai aj => ?_)
 clear hE6 hW7
 have aB : (⟨A9, aa, 5, 1, 0 + x.length, [] ++ bc x⟩ : Rw) = brow A9 aa 5 x := by rw [List.nil_append, Nat.zero_add]
 obtain ⟨ae, af⟩ := ai.rowEq 1 [⟨A, cp, 69, 2, n, xs⟩, brow A9 aa 5 x] aB
 clear ai
 have ak := EnvOk.pick aj (ks := [2, 6, 7, 8, 9]) (env' := [(2, .p 0 0), (6, .v (.slice A n cp)), (7, .v (.int .u32 k)), (8, .v (.slice Av x.length c)), (9, .v (.slice A9 (0 + x.length) aa))]) kz
 have al := ak.cast (env' := [(2, .p 0 0), (6, .v (.slice A n cp)), (7, .v (.int .u32 k)), (8, .v (.slice Av x.length c)), (9, .v (.slice A9 x.length aa))]) (by simp only [List.length_append, List.length_cons, List.length_nil, Nat.zero_add])
 clear aj
 clear ak
 have am := TT.ofW ((hF8.trans ac).trans af) ae
 refine ⟨fun _ => am, ?_⟩
 refine go_rnD [5] [(2, .p 0 0), (6, .v (.slice A n cp)), (10, .v (.agg #[.int .u32 k, .slice A9 x.length aa]))] 4 panicFree_body (fun _ h => h.cells) am al fun aM ao => ?_
 clear al
 refine anyC_op (i := 6) kz (wpOp_lit ae ao (e := 69) (size := 2) (len := 1) (cs := [.int .u32 k, .slice A9 x.length aa]) (d := 11) kz kz fun aF aN aO aG aH ap ab ar => ?_)
 clear ao ae
 have aC := TT.ofW (((hF8.trans ac).trans af).trans ap) ab
 refine ⟨fun _ => aC, ?_⟩
 refine anyC_op (i := 7) kz (wpOp_append ab ar (k := 0) (d := 12) (t := 35) (e := 69) (size := 2) (bytes := 32) (A := A) (As := (some ⟨aF, 0, none⟩)) (m0 := n) (c := cp) (m := 1) (cs := 1) (xs := xs) (news := [.int .u32 k, .slice A9 x.length aa]) kz kz rfl (own_src (ab.own 2 _ rfl) (allOne_ok kz)) (own_cap (ab.own 2 _ rfl)) (by first | omega | (simp only [List.length_nil]; omega) | (simp; omega)) fun az aA aP aQ aD ag au => ?_)
 clear ar ab
 have av := TT.ofW ((((hF8.trans ac).trans af).trans ap).trans aD) ag
 refine ⟨fun _ => av, ?_⟩
 refine go_rnD [8] [(12, .v (.slice az (n + 1) aA)), (13, .p 0 4)] 1 panicFree_body (fun _ h => h.cells) av au fun aR aw => ?_
 clear au
 refine anyC_op (i := 9) kz (wpOp_store ag aw (oi := 0) (cs := [x0, x1, x2, x3, .slice az (n + 1) aA]) kz fun aS aI ax aE => ?_)
 clear aw ag
 refine ⟨fun h => absurd rfl h, ?_⟩
 refine anyC_done kz ?_ _
 refine leave_end aE ax.cells (v := .tuple #[]) kz ?_
 obtain ⟨ay, aJ⟩ := ax.cutR 2 [⟨az, aA, 69, 2, n + 1, xs ++ [.int .u32 k, .slice A9 x.length aa]⟩, brow A9 aa 5 x]
 have hoo := tbox_octs (s := x) (Av := A9) (c := aa) (e8 := 5) rfl ay (by omega)
 obtain ⟨hb1, hb2, hb3⟩ := tbox_of ay (World.lt_of_cell (hbx.str.at_ 0 _ rfl))
 exact ⟨rfl, az, aA, A9, aa, hb1, hoo, hb2, hb3⟩
theorem tCreatePartitionsResponse_1 : TellOne Tryz.prog 144 69 := by
 intro w B cp c n k A Av x x0 x1 x2 x3 xs G hbx ho hG hn
 refine enter (n := 14) Tryz.func144 rfl Tryz.ntmps144 kz fun a hE => ?_
 have hW := hbx.wok
 have hE0 := (hE.grow ⟨B, 0, [x0, x1, x2, x3, .slice A n cp], true⟩).recast 2 (.v (.pointer (some ⟨B, 0, none⟩))) (.p 0 0) rfl rfl (by simp [SV.ok])
 have hsm := Slots.small ho
 have ah := hE0.pk (env' := [(0, .v (.int .u32 k)), (1, .v (.slice Av x.length c)), (2, .p 0 0)])
 refine go_drawK 9 kz hW fun w1 hF2 hW3 hT4 => ?_
 clear hW
 refine go_rnD [0, 1, 2, 3] [(2, .p 0 0), (6, .v (.slice A n cp)), (7, .v (.int .u32 k)), (8, .v (.slice Av x.length c))] 6 panicFree_body (fun _ h => h.cells) hT4 ah fun a5 hE6 => ?_
 clear ah
 have hW7 := hW3.addNil 5 1
 have hF8 := hW3.frNil 5 1
 refine anyC_op (i := 4) kz (wpOp_append hW7 hE6 (k := 1) (d := 9) (t := 22) (e := 5) (size := 1) (bytes := 1) (A := none) (As := Av) (m0 := 0) (c := 0) (m := x.length) (cs := c) (xs := []) (news := bc x) kz kz rfl (ho.move hW7.step (fun b o h _ => hG b o h) keepF).src (ho.move hW7.step (fun b o h _ => hG b o h) keepF).cap (by first | omega | (simp only [List.length_nil]; omega) | (simp; omega)) fun A9 aa aK aL ac ai aj => ?_)
 clear hE6 hW7
 have aB : (⟨A9, aa, 5, 1, 0 + x.length, [] ++ bc x⟩ : Rw) = brow A9 aa 5 x := by rw [List.nil_append, Nat.zero_add]
 obtain ⟨ae, af⟩ := ai.rowEq 1 [⟨A, cp, 69, 2, n, xs⟩, brow A9 aa 5 x] aB
 clear ai
 have ak := EnvOk.pick aj (ks := [2, 6, 7, 8, 9]) (env' := [(2, .p 0 0), (6, .v (.slice A n cp)), (7, .v (.int .u32 k)), (8, .v (.slice Av x.length c)), (9, .v (.slice A9 (0 + x.length) aa))]) kz
 have al := ak.cast (env' := [(2, .p 0 0), (6, .v (.slice A n cp)), (7, .v (.int .u32 k)), (8, .v (.slice Av x.length c)), (9, .v (.slice A9 x.length aa))]) (by simp only [List.length_append, List.length_cons, List.length_nil, Nat.zero_add])
 clear aj
 clear ak
 have am := TT.ofW ((hF8.trans ac).trans af) ae
 refine ⟨fun _ => am, ?_⟩
 refine go_rnD [5] [(2, .p 0 0), (6, .v (.slice A n cp)), (10, .v (.agg #[.int .u32 k, .slice A9 x.length aa]))] 4 panicFree_body (fun _ h => h.cells) am al fun aM ao => ?_
 clear al
 refine anyC_op (i := 6) kz (wpOp_lit ae ao (e := 69) (size := 2) (len := 1) (cs := [.int .u32 k, .slice A9 x.length aa]) (d := 11) kz kz fun aF aN aO aG aH ap ab ar => ?_)
 clear ao ae
 have aC := TT.ofW (((hF8.trans ac).trans af).trans ap) ab
 refine ⟨fun _ => aC, ?_⟩
 refine anyC_op (i := 7) kz (wpOp_append ab ar (k := 0) (d := 12) (t := 35) (e := 69) (size := 2) (bytes := 32) (A := A) (As := (some ⟨aF, 0, none⟩)) (m0 := n) (c := cp) (m := 1) (cs := 1) (xs := xs) (news := [.int .u32 k, .slice A9 x.length aa]) kz kz rfl (own_src (ab.own 2 _ rfl) (allOne_ok kz)) (own_cap (ab.own 2 _ rfl)) (by first | omega | (simp only [List.length_nil]; omega) | (simp; omega)) fun az aA aP aQ aD ag au => ?_)
 clear ar ab
 have av := TT.ofW ((((hF8.trans ac).trans af).trans ap).trans aD) ag
 refine ⟨fun _ => av, ?_⟩
 refine go_rnD [8] [(12, .v (.slice az (n + 1) aA)), (13, .p 0 4)] 1 panicFree_body (fun _ h => h.cells) av au fun aR aw => ?_
 clear au
 refine anyC_op (i := 9) kz (wpOp_store ag aw (oi := 0) (cs := [x0, x1, x2, x3, .slice az (n + 1) aA]) kz fun aS aI ax aE => ?_)
 clear aw ag
 refine ⟨fun h => absurd rfl h, ?_⟩
 refine anyC_done kz ?_ _
 refine leave_end aE ax.cells (v := .tuple #[]) kz ?_
 obtain ⟨ay, aJ⟩ := ax.cutR 2 [⟨az, aA, 69, 2, n + 1, xs ++ [.int .u32 k, .slice A9 x.length aa]⟩, brow A9 aa 5 x]
 have hoo := tbox_octs (s := x) (Av := A9) (c := aa) (e8 := 5) rfl ay (by omega)
 obtain ⟨hb1, hb2, hb3⟩ := tbox_of ay (World.lt_of_cell (hbx.str.at_ 0 _ rfl))
 exact ⟨rfl, az, aA, A9, aa, hb1, hoo, hb2, hb3⟩
theorem tCreatePartitionsResponseTopic_1 : TellOne Tryz.prog 198 69 := by
 intro w B cp c n k A Av x x0 x1 x2 x3 xs G hbx ho hG hn
 refine enter (n := 14) Tryz.func198 rfl Tryz.ntmps198 kz fun a hE => ?_
 have hW := hbx.wok
 have hE0 := (hE.grow ⟨B, 0, [x0, x1, x2, x3, .slice A n cp], true⟩).recast 2 (.v (.pointer (some ⟨B, 0, none⟩))) (.p 0 0) rfl rfl (by simp [SV.ok])
 have hsm := Slots.small ho
 have ah := hE0.pk (env' := [(0, .v (.int .u32 k)), (1, .v (.slice Av x.length c)), (2, .p 0 0)])
 refine go_drawK 9 kz hW fun w1 hF2 hW3 hT4 => ?_
 clear hW
 refine go_rnD [0, 1, 2, 3] [(2, .p 0 0), (6, .v (.slice A n cp)), (7, .v (.int .u32 k)), (8, .v (.slice Av x.length c))] 6 panicFree_body (fun _ h => h.cells) hT4 ah fun a5 hE6 => ?_
 clear ah
 have hW7 := hW3.addNil 5 1
 have hF8 := hW3.frNil 5 1
 refine anyC_op (i := 4) kz (wpOp_append hW7 hE6 (k := 1) (d := 9) (t := 22) (e := 5) (size := 1) (bytes := 1) (A := none) (As := Av) (m0 := 0) (c := 0) (m := x.length) (cs := c) (xs := []) (news := bc x) kz kz rfl (ho.move hW7.step (fun b o h _ => hG b o h) keepF).src (ho.move hW7.step (fun b o h _ => hG b o h) keepF).cap (by first | omega | (simp only [List.length_nil]; omega) | (simp; omega)) fun A9 aa aK aL ac ai aj => ?_)
 clear hE6 hW7
 have aB : (⟨A9, aa, 5, 1, 0 + x.length, [] ++ bc x⟩ : Rw) = brow A9 aa 5 x := by rw [List.nil_append, Nat.zero_add]
 obtain ⟨ae, af⟩ := ai.rowEq 1 [⟨A, cp, 69, 2, n, xs⟩, brow A9 aa 5 x] aB
 clear ai
 have ak := EnvOk.pick aj (ks := [2, 6, 7, 8, 9]) (env' := [(2, .p 0 0), (6, .v (.slice A n cp)), (7, .v (.int .u32 k)), (8, .v (.slice Av x.length c)), (9, .v (.slice A9 (0 + x.length) aa))]) kz
 have al := ak.cast (env' := [(2, .p 0 0), (6, .v (.slice A n cp)), (7, .v (.int .u32 k)), (8, .v (.slice Av x.length c)), (9, .v (.slice A9 x.length aa))]) (by simp only [List.length_append, List.length_cons, List.length_nil, Nat.zero_add])
 clear aj
 clear ak
 have am := TT.ofW ((hF8.trans ac).trans af) ae
 refine ⟨fun _ => am, ?_⟩
 refine go_rnD [5] [(2, .p 0 0), (6, .v (.slice A n cp)), (10, .v (.agg #[.int .u32 k, .slice A9 x.length aa]))] 4 panicFree_body (fun _ h => h.cells) am al fun aM ao => ?_
 clear al
 refine anyC_op (i := 6) kz (wpOp_lit ae ao (e := 69) (size := 2) (len := 1) (cs := [.int .u32 k, .slice A9 x.length aa]) (d := 11) kz kz fun aF aN aO aG aH ap ab ar => ?_)
 clear ao ae
 have aC := TT.ofW (((hF8.trans ac).trans af).trans ap) ab
 refine ⟨fun _ => aC, ?_⟩
 refine anyC_op (i := 7) kz (wpOp_append ab ar (k := 0) (d := 12) (t := 35) (e := 69) (size := 2) (bytes := 32) (A := A) (As := (some ⟨aF, 0, none⟩)) (m0 := n) (c := cp) (m := 1) (cs := 1) (xs := xs) (news := [.int .u32 k, .slice A9 x.length aa]) kz kz rfl (own_src (ab.own 2 _ rfl) (allOne_ok kz)) (own_cap (ab.own 2 _ rfl)) (by first | omega | (simp only [List.length_nil]; omega) | (simp; omega)) fun az aA aP aQ aD ag au => ?_)
 clear ar ab
 have av := TT.ofW ((((hF8.trans ac).trans af).trans ap).trans aD) ag
 refine ⟨fun _ => av, ?_⟩
 refine go_rnD [8] [(12, .v (.slice az (n + 1) aA)), (13, .p 0 4)] 1 panicFree_body (fun _ h => h.cells) av au fun aR aw => ?_
 clear au
 refine anyC_op (i := 9) kz (wpOp_store ag aw (oi := 0) (cs := [x0, x1, x2, x3, .slice az (n + 1) aA]) kz fun aS aI ax aE => ?_)
 clear aw ag
 refine ⟨fun h => absurd rfl h, ?_⟩
 refine anyC_done kz ?_ _
 refine leave_end aE ax.cells (v := .tuple #[]) kz ?_
 obtain ⟨ay, aJ⟩ := ax.cutR 2 [⟨az, aA, 69, 2, n + 1, xs ++ [.int .u32 k, .slice A9 x.length aa]⟩, brow A9 aa 5 x]
 have hoo := tbox_octs (s := x) (Av := A9) (c := aa) (e8 := 5) rfl ay (by omega)
 obtain ⟨hb1, hb2, hb3⟩ := tbox_of ay (World.lt_of_cell (hbx.str.at_ 0 _ rfl))
 exact ⟨rfl, az, aA, A9, aa, hb1, hoo, hb2, hb3⟩
end Go.Proofs.YtgolpmkenmedoaaGreatDoor.ME
namespace Go.Proofs.YtgolpmkenmedoaaGreatDoor.ME
open Go
open Go.RowKit
set_option linter.unusedVariables false
set_option linter.unusedSimpArgs false
theorem n8w (x : Int) : IntKind.i8.wrap x = (x + 128) % 256 - 128 := by simp [IntKind.wrap, IntKind.signed, IntKind.bits]; omega
theorem n16w (x : Int) : IntKind.i16.wrap x = (x + 32768) % 65536 - 32768 := by simp [IntKind.wrap, IntKind.signed, IntKind.bits]; omega
theorem n32w (x : Int) : IntKind.i32.wrap x = (x + 2147483648) % 4294967296 - 2147483648 := by simp [IntKind.wrap, IntKind.signed, IntKind.bits]; omega
theorem n64w (x : Int) : IntKind.i64.wrap x = (x + 9223372036854775808) % 18446744073709551616 - 9223372036854775808 := by simp [IntKind.wrap, IntKind.signed, IntKind.bits]; omega
theorem n64_8 (x : Int) : IntKind.i64.wrap (IntKind.i8.wrap x) = IntKind.i8.wrap x := by rw [n64w, n8w]; omega
theorem n64_16 (x : Int) : IntKind.i64.wrap (IntKind.i16.wrap x) = IntKind.i16.wrap x := by rw [n64w, n16w]; omega
theorem n64_32 (x : Int) : IntKind.i64.wrap (IntKind.i32.wrap x) = IntKind.i32.wrap x := by rw [n64w, n32w]; omega
theorem n64_u16 (x : Int) : IntKind.i64.wrap (IntKind.u16.wrap x) = IntKind.u16.wrap x := by rw [n64w, wrap_u16]; omega
def numberI (k n : Int) : Int := if k = 0 then n % 2 else if k = 1 then IntKind.i8.wrap n else if k = 2 then IntKind.i16.wrap n else if k = 3 then IntKind.i32.wrap n else if k = 5 then IntKind.u16.wrap n else n
structure UsQ (U : List Fld → Tree → Prop) (k x1 x2 x3 x4 x5 x6 : Int) (sub : List Fld) (n : Int) (s : Bs) (b : Bool) (l : List Tree) (u : List (Int × Bs)) : Prop where
 text : k = 8 → b = decide (x3 ≥ 0) ∧ s = []
 uuid : k = 7 → s = List.replicate 16 0
 octs : k = 9 ∨ k = 11 → s = [] ∧ l = []
 part : k = 10 → (x3 ≥ 0 → b = true) ∧ (x3 < 0 → U sub (.mk n s b l u))
 num : k ≠ 7 → k ≠ 8 → k ≠ 9 → k ≠ 10 → k ≠ 11 → n = numberI k x5
def UsF (U : List Fld → Tree → Prop) : Fld → Tree → Prop
 | .mk k x1 x2 x3 x4 x5 x6 sub, .mk n s b l u => UsQ U k x1 x2 x3 x4 x5 x6 sub n s b l u
def UsP (U : List Fld → Tree → Prop) (l : List Fld) (g : Tree) : Prop := g.U = [] ∧ ∀ (i : Nat) (f : Fld), l[i]? = some f → UsF U f (g.at_ i)
def UsualP : Nat → List Fld → Tree → Prop
 | 0 => UsP fun _ _ => False
 | d + 1 => UsP (UsualP d)
structure ToQ (T : List Fld → Tree → Tree → Prop) (v : Int) (f : Fld) (k x3 : Int) (sub : List Fld) (t : Tree) (tn : Int) (ts : Bs) (n : Int) (s : Bs) (b : Bool) (g : Tree) : Prop where
 null : k = 8 ∨ k = 10 ∨ (x3 ≥ 0 ∧ v ≥ x3) → b = f.nul v t
 text : f.nul v t = false → k = 8 ∨ k = 9 → s = whole ts
 uuid : f.nul v t = false → k = 7 → s = uuidB ts
 part : f.nul v t = false → k = 10 → T sub t g
 num : f.nul v t = false → k ≠ 7 → k ≠ 8 → k ≠ 9 → k ≠ 10 → k ≠ 11 → n = numberI k tn
def ToF0 (T : List Fld → Tree → Tree → Prop) (v : Int) : Fld → Tree → Tree → Prop
 | .mk k x1 x2 x3 x4 x5 x6 sub, .mk tn ts tb tl tu, .mk n s b l u => ToQ T v (.mk k x1 x2 x3 x4 x5 x6 sub) k x3 sub (.mk tn ts tb tl tu) tn ts n s b (.mk n s b l u)
def ToF (T : List Fld → Tree → Tree → Prop) (v : Int) (f : Fld) (t g : Tree) : Prop :=
 ToF0 T v f t g ∧ (f.kind = 11 → f.nul v t = false → g.L.length = (things t.L).length ∧ ∀ (i : Nat) (x y : Tree), (things t.L)[i]? = some x → g.L[i]? = some y → ToF0 T v f.elem x y)
def Fld.pres (f : Fld) (v : Int) (flex : Bool) (x : Tree) : Bool := (decide (f.tag < 0) && f.has v) || (decide (f.tag ≥ 0) && (flex && !f.usual x))
def ToP (T : List Fld → Tree → Tree → Prop) (U : List Fld → Tree → Prop) (l : List Fld) (v : Int) (flex : Bool) (t g : Tree) : Prop :=
 g.L.length = l.length ∧ (∀ (i : Nat) (f : Fld) (y : Tree), l[i]? = some f → g.L[i]? = some y → (f.pres v flex (t.at_ i) = true → ToF T v f (t.at_ i) y) ∧ (f.pres v flex (t.at_ i) = false → UsF U f y)) ∧
  g.U = (if flex = true then wholeU (unknownT l t.U) else [])
def ToldP (v : Int) (flex : Bool) : Nat → List Fld → Tree → Tree → Prop
 | 0 => fun l t g => ToP (fun _ _ _ => False) (fun _ _ => False) l v flex t g
 | d + 1 => fun l t g => ToP (ToldP v flex d) (UsualP d) l v flex t g
theorem us_one {U : List Fld → Tree → Prop} {f : Fld} {y : Tree} (h : UsF U f y) : UsP U [f] (.mk 0 [] false [y] []) := by
 refine ⟨rfl, fun i g hg => ?_⟩
 cases i with
 | zero =>
  simp only [List.getElem?_cons_zero, Option.some.injEq] at hg
  subst hg
  exact h
 | succ i => simp at hg
theorem octs_zero {w : World} {e : Nat} {A : Option Addr} {c : Nat} {F : Nat → Nat → Prop} (h : w.ownsRow 0 e 1 (.slice A 16 c) 16 (List.replicate 16 (.int .u8 0))) (hF : ∀ g, A.map (·.block) = some g → ∀ o, F g o) : Octs w F A c (List.replicate 16 0) :=
 octs_own (s := List.replicate 16 0) h (by decide) hF
section
variable {U : List Fld → Tree → Prop} {k x1 x2 x3 x4 x5 x6 n : Int} {sub : List Fld} {s : Bs} {b : Bool} {l : List Tree} {u : List (Int × Bs)}
abbrev UsH (U : List Fld → Tree → Prop) (k x1 x2 x3 x4 x5 x6 : Int) (sub : List Fld) (n : Int) (s : Bs) (b : Bool) (l : List Tree) (u : List (Int × Bs)) : Prop := UsF U (.mk k x1 x2 x3 x4 x5 x6 sub) (.mk n s b l u)
theorem us_q (h : UsH U k x1 x2 x3 x4 x5 x6 sub n s b l u) : UsQ U k x1 x2 x3 x4 x5 x6 sub n s b l u := h
theorem us_8a (h : UsH U k x1 x2 x3 x4 x5 x6 sub n s b l u) (hk : k = 8) (hc : (b != decide (x3 ≥ 0)) = true) : False := by
 have := ((us_q h).text hk).1
 rw [this] at hc; simp at hc
theorem us_8b (h : UsH U k x1 x2 x3 x4 x5 x6 sub n s b l u) (hk : k = 8) (hc : ((s.length : Nat) : Int) > 0) : False := by
 have := ((us_q h).text hk).2
 rw [this] at hc; simp at hc
theorem us_7 (h : UsH U k x1 x2 x3 x4 x5 x6 sub n s b l u) (hk : k = 7) (hc : (!decide (s = (List.replicate 16 0 : Bs))) = true) : False := by
 have := (us_q h).uuid hk
 rw [this] at hc; simp at hc
theorem us_9a (h : UsH U k x1 x2 x3 x4 x5 x6 sub n s b l u) (hk : k = 9) (hc : ((s.length : Nat) : Int) > 0) : False := by
 have := ((us_q h).octs (.inl hk)).1
 rw [this] at hc; simp at hc
theorem us_9b (h : UsH U k x1 x2 x3 x4 x5 x6 sub n s b l u) (hk : k = 9) (hc : ((l.length : Nat) : Int) > 0) : False := by
 have := ((us_q h).octs (.inl hk)).2
 rw [this] at hc; simp at hc
theorem us_11a (h : UsH U k x1 x2 x3 x4 x5 x6 sub n s b l u) (hk : k = 11) (hc : ((s.length : Nat) : Int) > 0) : False := by
 have := ((us_q h).octs (.inr hk)).1
 rw [this] at hc; simp at hc
theorem us_11b (h : UsH U k x1 x2 x3 x4 x5 x6 sub n s b l u) (hk : k = 11) (hc : ((l.length : Nat) : Int) > 0) : False := by
 have := ((us_q h).octs (.inr hk)).2
 rw [this] at hc; simp at hc
theorem us_10 (h : UsH U k x1 x2 x3 x4 x5 x6 sub n s b l u) (hk : k = 10) (h3 : x3 ≥ 0) (hc : (!b) = true) : False := by
 have := ((us_q h).part hk).1 h3
 rw [this] at hc; simp at hc
theorem us_sub (h : UsH U k x1 x2 x3 x4 x5 x6 sub n s b l u) (hk : k = 10) (h3 : x3 < 0) : U sub (.mk n s b l u) := ((us_q h).part hk).2 h3
theorem us_n (h : UsH U k x1 x2 x3 x4 x5 x6 sub n s b l u) (h7 : k ≠ 7) (h8 : k ≠ 8) (h9 : k ≠ 9) (h10 : k ≠ 10) (h11 : k ≠ 11) (hc : n ≠ numberI k x5) : False := hc ((us_q h).num h7 h8 h9 h10 h11)
theorem us_u {g : Tree} (h : g.U = []) {u : List (Int × Bs)} (e : g.U = u) (hc : ((u.length : Nat) : Int) > 0) : False := by
 rw [← e, h] at hc; simp at hc
end
section
variable {T : List Fld → Tree → Tree → Prop} {v k x1 x2 x3 x4 x5 x6 tn n : Int} {sub : List Fld} {ts s : Bs} {tb b : Bool} {tl l : List Tree} {tu u : List (Int × Bs)}
abbrev ToH (T : List Fld → Tree → Tree → Prop) (v k x1 x2 x3 x4 x5 x6 : Int) (sub : List Fld) (tn : Int) (ts : Bs) (tb : Bool) (tl : List Tree) (tu : List (Int × Bs)) (n : Int) (s : Bs) (b : Bool) (l : List Tree) (u : List (Int × Bs)) : Prop := ToF0 T v (.mk k x1 x2 x3 x4 x5 x6 sub) (.mk tn ts tb tl tu) (.mk n s b l u)
abbrev NulH (v k x1 x2 x3 x4 x5 x6 : Int) (sub : List Fld) (tn : Int) (ts : Bs) (tb : Bool) (tl : List Tree) (tu : List (Int × Bs)) : Bool := Fld.nul (.mk k x1 x2 x3 x4 x5 x6 sub) v (.mk tn ts tb tl tu)
theorem to_q (h : ToH T v k x1 x2 x3 x4 x5 x6 sub tn ts tb tl tu n s b l u) : ToQ T v (.mk k x1 x2 x3 x4 x5 x6 sub) k x3 sub (.mk tn ts tb tl tu) tn ts n s b (.mk n s b l u) := h
theorem to_n8 (h : ToH T v k x1 x2 x3 x4 x5 x6 sub tn ts tb tl tu n s b l u) (hk : k = 8) (hc : (b != NulH v k x1 x2 x3 x4 x5 x6 sub tn ts tb tl tu) = true) : False := by
 rw [(to_q h).null (.inl hk)] at hc; simp at hc
theorem to_n10 (h : ToH T v k x1 x2 x3 x4 x5 x6 sub tn ts tb tl tu n s b l u) (hk : k = 10) (hc : (b != NulH v k x1 x2 x3 x4 x5 x6 sub tn ts tb tl tu) = true) : False := by
 rw [(to_q h).null (.inr (.inl hk))] at hc; simp at hc
theorem to_nm (h : ToH T v k x1 x2 x3 x4 x5 x6 sub tn ts tb tl tu n s b l u) (h1 : x3 ≥ 0) (h2 : v ≥ x3) (hc : (b != NulH v k x1 x2 x3 x4 x5 x6 sub tn ts tb tl tu) = true) : False := by
 rw [(to_q h).null (.inr (.inr ⟨h1, h2⟩))] at hc; simp at hc
theorem to_part (h : ToH T v k x1 x2 x3 x4 x5 x6 sub tn ts tb tl tu n s b l u) (hn : NulH v k x1 x2 x3 x4 x5 x6 sub tn ts tb tl tu = false) (hk : k = 10) : T sub (.mk tn ts tb tl tu) (.mk n s b l u) := (to_q h).part hn hk
theorem to_t8 (h : ToH T v k x1 x2 x3 x4 x5 x6 sub tn ts tb tl tu n s b l u) (hn : NulH v k x1 x2 x3 x4 x5 x6 sub tn ts tb tl tu = false) (hk : k = 8) : decide (s = whole ts) = true := decide_eq_true ((to_q h).text hn (.inl hk))
theorem to_t9 (h : ToH T v k x1 x2 x3 x4 x5 x6 sub tn ts tb tl tu n s b l u) (hn : NulH v k x1 x2 x3 x4 x5 x6 sub tn ts tb tl tu = false) (hk : k = 9) : decide (s = whole ts) = true := decide_eq_true ((to_q h).text hn (.inr hk))
theorem to_u (h : ToH T v k x1 x2 x3 x4 x5 x6 sub tn ts tb tl tu n s b l u) (hn : NulH v k x1 x2 x3 x4 x5 x6 sub tn ts tb tl tu = false) (hk : k = 7) : decide (s = uuidB ts) = true := decide_eq_true ((to_q h).uuid hn hk)
theorem to_m (h : ToH T v k x1 x2 x3 x4 x5 x6 sub tn ts tb tl tu n s b l u) (hn : NulH v k x1 x2 x3 x4 x5 x6 sub tn ts tb tl tu = false) (h8 : k ≠ 8) (h9 : k ≠ 9) (h7 : k ≠ 7) (h10 : k ≠ 10) (h11 : k ≠ 11) : (n == numberI k tn) = true := by
 rw [(to_q h).num hn h7 h8 h9 h10 h11]; simp
theorem to_len {a c : Nat} (h : a = c) (hc : ((a : Nat) : Int) ≠ ((c : Nat) : Int)) : False := hc (by rw [h])
end
theorem anyC_two {P : Program} {ops : Array Oper} {Q : Exit → Act → World → Prop} {a : Act} {w : World} {T : World → Prop} {c i j fuel : Nat} {listed : Array Bool} (hr : Region.ready .any ops listed = [i, j]) (h : wpOp P ops Q i (fun a' w' => (i ≠ c → T w') ∧ wpAnyC P ops Q T c fuel (listed.setIfInBounds i true) a' w') a w)
  (h' : wpOp P ops Q j (fun a' w' => (j ≠ c → T w') ∧ wpAnyC P ops Q T c fuel (listed.setIfInBounds j true) a' w') a w) : wpAnyC P ops Q T c (fuel + 1) listed a w := by
 refine ⟨fun h0 => (by rw [hr] at h0; cases h0), fun q hq => ?_⟩
 rw [hr] at hq
 simp only [List.mem_cons, List.not_mem_nil, or_false] at hq
 rcases hq with rfl | rfl
 ·exact h
 ·exact h'
theorem pres_a {k x1 x2 x3 x4 x5 x6 v : Int} {sub : List Fld} {flex : Bool} {x : Tree} (h : x4 < 0) (h2 : Fld.has (.mk k x1 x2 x3 x4 x5 x6 sub) v = true) : Fld.pres (.mk k x1 x2 x3 x4 x5 x6 sub) v flex x = true := by
 simp [Fld.pres, Fld.tag, h, h2]
theorem pres_b {k x1 x2 x3 x4 x5 x6 v : Int} {sub : List Fld} {flex : Bool} {x : Tree} (h : x4 ≥ 0) (h2 : flex = true) (h3 : (!Fld.usual (.mk k x1 x2 x3 x4 x5 x6 sub) x) = true) : Fld.pres (.mk k x1 x2 x3 x4 x5 x6 sub) v flex x = true := by
 subst h2
 simp only [Bool.not_eq_true'] at h3
 simp [Fld.pres, Fld.tag, h, h3]
theorem pres_c {k x1 x2 x3 x4 x5 x6 v : Int} {sub : List Fld} {flex : Bool} {x : Tree} (h : x4 < 0) (h2 : Fld.has (.mk k x1 x2 x3 x4 x5 x6 sub) v = false) : Fld.pres (.mk k x1 x2 x3 x4 x5 x6 sub) v flex x = false := by
 have : ¬ x4 ≥ 0 := by omega
 simp [Fld.pres, Fld.tag, h2, this]
theorem pres_d {k x1 x2 x3 x4 x5 x6 v : Int} {sub : List Fld} {flex : Bool} {x : Tree} (h : ¬ x4 < 0) (h2 : flex = false) : Fld.pres (.mk k x1 x2 x3 x4 x5 x6 sub) v flex x = false := by
 subst h2
 simp [Fld.pres, Fld.tag, h]
theorem pres_e {k x1 x2 x3 x4 x5 x6 v : Int} {sub : List Fld} {flex : Bool} {x : Tree} (h : ¬ x4 < 0) (h3 : (!Fld.usual (.mk k x1 x2 x3 x4 x5 x6 sub) x) = false) : Fld.pres (.mk k x1 x2 x3 x4 x5 x6 sub) v flex x = false := by
 simp only [Bool.not_eq_false'] at h3
 simp [Fld.pres, Fld.tag, h, h3]
theorem pres_f {k x1 x2 x3 x4 x5 x6 v : Int} {sub : List Fld} {flex : Bool} {x : Tree} (h : ¬ x4 < 0) (h2 : flex = true) : Fld.pres (.mk k x1 x2 x3 x4 x5 x6 sub) v flex x = !Fld.usual (.mk k x1 x2 x3 x4 x5 x6 sub) x := by
 subst h2
 have : x4 ≥ 0 := by omega
 simp [Fld.pres, Fld.tag, h, this]
theorem pres_g {k x1 x2 x3 x4 x5 x6 v : Int} {sub : List Fld} {flex : Bool} {x : Tree} (h : x4 < 0) : Fld.pres (.mk k x1 x2 x3 x4 x5 x6 sub) v flex x = Fld.has (.mk k x1 x2 x3 x4 x5 x6 sub) v := by
 have : ¬ x4 ≥ 0 := by omega
 simp [Fld.pres, Fld.tag, h, this]
section
variable {w : World} {F : Nat → Nat → Prop}
theorem at_own {e size b c : Nat} {xs : List Value} {n : Nat} (h : w.ownsRow 0 e size (.slice (some ⟨b, 0, none⟩) n c) n xs) : AtF w (fun _ _ => True) b 0 xs := fun j v hj => ⟨trivial, by
 have := h.cells (g := b) rfl j v hj
 rw [add_none] at this
 exact this⟩
theorem flds_one {e b c : Nat} {cf : List Value} {f : Fld} (h : w.ownsRow 0 e 8 (.slice (some ⟨b, 0, none⟩) 1 c) 1 cf) (hf : FldR w F cf f) (hc : 1 ≤ c) : FldsR w (fun _ _ => True) (some ⟨b, 0, none⟩) c [f] := by
 refine ⟨fun _ => cf, ⟨hc, (by show 1 ≤ 1099511627776; decide), fun h => (by cases h), fun ad hA _ => ?_⟩, fun i x hx => ?_⟩
 ·obtain rfl := Option.some.inj hA
  refine ⟨b, 0, rfl, fun i hi => ⟨hf.eight, ?_⟩⟩
  have : i = 0 := by simp at hi; omega
  subst this
  simpa using at_own h
 ·cases i with
  | zero =>
   simp only [List.getElem?_cons_zero, Option.some.injEq] at hx
   subst hx
   exact hf.move (Step.refl _ Nil) nilM fun _ _ _ _ => trivial
  | succ i => simp at hx
theorem tree_one {e b c : Nat} {cy : List Value} {y : Tree} (h : w.ownsRow 0 e 5 (.slice (some ⟨b, 0, none⟩) 1 c) 1 cy) (hy : TreeR w F cy y) (hc : 1 ≤ c) : TreeR w (fun _ _ => True) [.int .i64 0, .slice none 0 0, .bool false, .slice (some ⟨b, 0, none⟩) 1 c, .slice none 0 0] (.mk 0 [] false [y] []) := by
 refine TreeR.mk (l := [y]) (s := []) (u := []) (fun _ => cy) (Octs.nil _ _) ⟨hc, (by show 1 ≤ 1099511627776; decide), fun h => (by cases h), fun ad hA _ => ?_⟩ (fun i x hx => ?_) (TagsR.nil _ _)
 ·obtain rfl := Option.some.inj hA
  refine ⟨b, 0, rfl, fun i hi => ⟨hy.five, ?_⟩⟩
  have : i = 0 := by simp at hi; omega
  subst this
  simpa using at_own h
 ·cases i with
  | zero =>
   simp only [List.getElem?_cons_zero, Option.some.injEq] at hx
   subst hx
   exact hy.move (Step.refl _ Nil) nilM fun _ _ _ _ => trivial
  | succ i => simp at hx
end
section
variable {gu tu : List (Int × Bs)} {l : List Fld} {flex : Bool} {i : Nat} {k k' : Int} {s s' : Bs}
theorem told_len (h : gu = if flex = true then wholeU (unknownT l tu) else []) (hf : (!flex) = false) (hc : ((gu.length : Nat) : Int) ≠ (((unknownT l tu).length : Nat) : Int)) : False := by
 cases flex
 ·cases hf
 ·rw [if_pos rfl] at h
  rw [h, wholeU_len] at hc
  exact hc rfl
theorem told_len0 (h : gu = if flex = true then wholeU (unknownT l tu) else []) (hf : (!flex) = true) (hc : ((gu.length : Nat) : Int) ≠ 0) : False := by
 cases flex
 ·rw [if_neg (by decide)] at h
  rw [h] at hc
  exact hc rfl
 ·cases hf
theorem told_at (h : gu = if flex = true then wholeU (unknownT l tu) else []) (hf : (!flex) = false) (hu : (unknownT l tu)[i]? = some (k, s)) (hg : gu[i]? = some (k', s')) : k' = k ∧ s' = whole s := by
 cases flex
 ·cases hf
 ·rw [if_pos rfl] at h
  rw [h, wholeU_get hu] at hg
  have := Option.some.inj hg
  exact ⟨(Prod.mk.injEq .. ▸ this).1.symm, (Prod.mk.injEq .. ▸ this).2.symm⟩
theorem told_key (h : gu = if flex = true then wholeU (unknownT l tu) else []) (hf : (!flex) = false) (hu : (unknownT l tu)[i]? = some (k, s)) (hg : gu[i]? = some (k', s')) (hc : k' ≠ k) : False := hc (told_at h hf hu hg).1
theorem told_val (h : gu = if flex = true then wholeU (unknownT l tu) else []) (hf : (!flex) = false) (hu : (unknownT l tu)[i]? = some (k, s)) (hg : gu[i]? = some (k', s')) (hc : (!decide (s' = whole s)) = true) : False := by
 rw [(told_at h hf hu hg).2] at hc; simp at hc
theorem told_idx (h : gu = if flex = true then wholeU (unknownT l tu) else []) (hf : (!flex) = false) : gu.length = (unknownT l tu).length := by
 cases flex
 ·cases hf
 ·rw [if_pos rfl] at h
  rw [h, wholeU_len]
end
end Go.Proofs.YtgolpmkenmedoaaGreatDoor.ME
namespace Go.Proofs.YtgolpmkenmedoaaGreatDoor.ME
open Go
open Go.RowKit
set_option linter.unusedVariables false
set_option linter.unusedSimpArgs false
set_option maxRecDepth 20000
def trCreatePartitionsResponseTopic (D : DV) : Tree := .mk 0 [] false [.mk 0 (sb (D.f 0).s) false [] [], .mk (IntKind.i64.wrap (D.f 1).n) [] false [] [], textT (D.f 2).A (D.f 2).s] D.u
def trCreatePartitionsResponse (D : DV) : Tree := .mk 0 [] false [.mk (IntKind.i64.wrap (D.f 0).n) [] false [] [], .mk 0 [] (D.f 1).A.isNone ((List.range (D.f 1).l).map fun i => trCreatePartitionsResponseTopic ((D.f 1).f i)) []] D.u
set_option maxHeartbeats 4000000 in
theorem tlCreatePartitionsResponseTopic (v : Int) (D : DV) (b o : Nat) (w : World) (F : Nat → Nat → Prop) (hat : AtF w F b o [.string ((D.f 0).s), .int .i16 ((D.f 1).n), .pointer ((D.f 2).A), .map D.m]) (hok : okCreatePartitionsResponseTopic w F D) : Calls Tryz.prog 143 #[.pointer (some ⟨b, o, none⟩)] w (GivesT w F (trCreatePartitionsResponseTopic D)) := by
 refine enter (n := 41) Tryz.func143 rfl Tryz.ntmps143 kz fun a hE => ?_
 have hW : WOk w Nil w [⟨b, o, [.string ((D.f 0).s), .int .i16 ((D.f 1).n), .pointer ((D.f 2).A), .map D.m], false⟩] [] := (WOk.start w Nil).start1 hat rfl rfl
 unfold okCreatePartitionsResponseTopic at hok
 obtain ⟨g1, g2, ⟨g3, g3l⟩, g4, g4l, g4x, _⟩ := hok
 have hE0 := (EnvOk.ptr0 (cs := [.string ((D.f 0).s), .int .i16 ((D.f 1).n), .pointer ((D.f 2).A), .map D.m]) (r := false) hE).pk (env' := [(0, .p 0 0)])
 refine go_seq_region [0] kz ?_
 refine of_op (wpOp_alloc hW hE0 (d := 2) (cs := [.int .i64 0, .slice none 0 0, .bool false, .slice none 0 0, .slice none 0 0]) kz fun b5 a6 w7 hb8 hz9 cu bg bh => ?_)
 clear hE0 hW
 refine wpOps_nil (then_normal ?_)
 refine go_seq_region [0, 1, 2, 3] kz ?_
 refine of_op (wpOp_makeZ (t := 34) (e := 37) (size := 5) (bytes := 88) (d := 4) (j := 3) (.agg #[.int .i64 0, .slice none 0 0, .bool false, .slice none 0 0, .slice none 0 0]) [.int .i64 0, .slice none 0 0, .bool false, .slice none 0 0, .slice none 0 0, .int .i64 0, .slice none 0 0, .bool false, .slice none 0 0, .slice none 0 0, .int .i64 0, .slice none 0 0, .bool false, .slice none 0 0, .slice none 0 0] bg bh fun aa cX cY cw cz cA aX bi => ?_)
 clear bh bg
 refine go_rn [1] [2, 3] [(0, .p 0 0), (2, .p 1 0), (5, .v (.agg #[.int .i64 0, .slice none 0 0, .bool false, .slice (some ⟨aa, 0, none⟩) 3 3, .slice none 0 0]))] aX bi fun cZ bj => ?_
 clear bi
 refine of_op (wpOp_alloc aX bj (d := 3) (cs := [.int .i64 0, .slice none 0 0, .bool false, .slice none 0 0, .slice none 0 0]) kz fun am c5 c6 cB cC cD bk bn => ?_)
 clear bj aX
 refine of_op (wpOp_store bk bn (oi := 3) (cs := [.int .i64 0, .slice none 0 0, .bool false, .slice (some ⟨aa, 0, none⟩) 3 3, .slice none 0 0]) kz fun da cE bo bp => ?_)
 clear bn bk
 refine wpOps_nil (then_normal ?_)
 refine go_seq_drawK 9 kz bo fun db cG bT bU => ?_
 clear bo
 refine go_rnD [0, 1, 2, 3, 4, 5] [(0, .p 0 0), (2, .p 1 0), (3, .p 3 0), (7, .v (.slice (some ⟨aa, 0, none⟩) 3 3)), (11, .v (.string ((D.f 0).s)))] 4 (panicFree_then panicFree_body) (fun _ h => h.cells) bU bp fun dc bq => ?_
 clear bp
 refine anyC_op (i := 6) kz (wpOp_bytes (d := 12) (src := 9) (dst := 22) (e := 5) (s := ((D.f 0).s)) bT bq (by omega) fun ah ai de df bV aY bW bt => ?_)
 clear bq
 have bX := bW F
 have aZ := TT.ofW bV aY
 refine ⟨fun _ => aZ, ?_⟩
 refine go_rnD [7] [(0, .p 0 0), (2, .p 1 0), (3, .p 3 0), (7, .v (.slice (some ⟨aa, 0, none⟩) 3 3)), (13, .v (.agg #[.int .i64 0, .slice (some ⟨ah, 0, none⟩) ((sb ((D.f 0).s)).length) ai, .bool false, .slice none 0 0, .slice none 0 0]))] 2 (panicFree_then panicFree_body) (fun _ h => h.cells) aZ bt fun dg bu => ?_
 clear bt
 refine takeC_index bu (i := 8) (t := 34) (A := (some ⟨aa, 0, none⟩)) (m := 3) (q := 0) (d := 14) kz (e := 37) (size := 5) (bytes := 88) (j := 0) kz (b := aa) (o := 0) rfl rfl (by decide) kz kz (panicFree_then panicFree_body) aZ fun dh bw => ?_
 clear bu
 have bx := bw.recast 14 (.v (.pointer (some ⟨aa, 0 + 0 * 5, none⟩))) (.p 2 0) rfl rfl (Nat.le_of_ble_eq_true (n := 3) rfl)
 clear bw
 have bz := bx.pk (env' := [(0, .p 0 0), (2, .p 1 0), (3, .p 3 0), (7, .v (.slice (some ⟨aa, 0, none⟩) 3 3)), (13, .v (.agg #[.int .i64 0, .slice (some ⟨ah, 0, none⟩) ((sb ((D.f 0).s)).length) ai, .bool false, .slice none 0 0, .slice none 0 0])), (14, .p 2 0)])
 clear bx
 refine anyC_op (i := 9) kz (wpOp_store aY bz (oi := 2) (cs := [.int .i64 0, .slice (some ⟨ah, 0, none⟩) ((sb ((D.f 0).s)).length) ai, .bool false, .slice none 0 0, .slice none 0 0, .int .i64 0, .slice none 0 0, .bool false, .slice none 0 0, .slice none 0 0, .int .i64 0, .slice none 0 0, .bool false, .slice none 0 0, .slice none 0 0]) kz fun di bA bB bC => ?_)
 clear bz aY
 refine ⟨fun h => absurd rfl h, ?_⟩
 refine anyC_done kz ?_ _
 refine then_normal ?_
 refine go_seq_drawK 9 kz bB fun dj bD bY bE => ?_
 clear bB
 refine go_rnD [0, 1, 2, 3, 4, 5, 6, 7] [(0, .p 0 0), (2, .p 1 0), (3, .p 3 0), (16, .v (.slice (some ⟨aa, 0, none⟩) 3 3)), (22, .v (.agg #[.int .i64 (IntKind.i64.wrap ((D.f 1).n)), .slice none 0 0, .bool false, .slice none 0 0, .slice none 0 0]))] 2 (panicFree_then panicFree_body) (fun _ h => h.cells) bE bC fun dl bF => ?_
 clear bC
 refine takeC_index bF (i := 8) (t := 34) (A := (some ⟨aa, 0, none⟩)) (m := 3) (q := 1) (d := 23) kz (e := 37) (size := 5) (bytes := 88) (j := 1) kz (b := aa) (o := 0) rfl rfl (by decide) kz kz (panicFree_then panicFree_body) bE fun dp bG => ?_
 clear bF
 have bH := bG.recast 23 (.v (.pointer (some ⟨aa, 0 + 1 * 5, none⟩))) (.p 2 5) rfl rfl (Nat.le_of_ble_eq_true (n := 3) rfl)
 clear bG
 have bI := bH.pk (env' := [(0, .p 0 0), (2, .p 1 0), (3, .p 3 0), (16, .v (.slice (some ⟨aa, 0, none⟩) 3 3)), (22, .v (.agg #[.int .i64 (IntKind.i64.wrap ((D.f 1).n)), .slice none 0 0, .bool false, .slice none 0 0, .slice none 0 0])), (23, .p 2 5)])
 clear bH
 refine anyC_op (i := 9) kz (wpOp_store bY bI (oi := 2) (cs := [.int .i64 0, .slice (some ⟨ah, 0, none⟩) ((sb ((D.f 0).s)).length) ai, .bool false, .slice none 0 0, .slice none 0 0, .int .i64 (IntKind.i64.wrap ((D.f 1).n)), .slice none 0 0, .bool false, .slice none 0 0, .slice none 0 0, .int .i64 0, .slice none 0 0, .bool false, .slice none 0 0, .slice none 0 0]) kz fun dq bJ bK bL => ?_)
 clear bI
 refine ⟨fun h => absurd rfl h, ?_⟩
 refine anyC_done kz ?_ _
 refine then_normal ?_
 refine go_seq_drawK 8 kz bK fun cH bM aC bZ => ?_
 clear bK
 refine go_rnD [0, 1, 2, 3, 4, 5] [(0, .p 0 0), (2, .p 1 0), (3, .p 3 0), (25, .v (.slice (some ⟨aa, 0, none⟩) 3 3)), (29, .v (.pointer ((D.f 2).A)))] 3 (panicFree_then panicFree_body) (fun _ h => h.cells) bZ bL fun dr bN => ?_
 clear bL
 refine anyC_op (i := 6) kz (wpOp_call bN (f := 139) (vs := [.pointer ((D.f 2).A)]) (d := 30) kz Tryz.call139 (tText _ (D.f 2).s _ (Imm F w cH [⟨b, o, [.string ((D.f 0).s), .int .i16 ((D.f 1).n), .pointer ((D.f 2).A), .map D.m], false⟩, ⟨b5, 0, [.int .i64 0, .slice none 0 0, .bool false, .slice none 0 0, .slice none 0 0], true⟩, ⟨aa, 0, [.int .i64 0, .slice (some ⟨ah, 0, none⟩) ((sb ((D.f 0).s)).length) ai, .bool false, .slice none 0 0, .slice none 0 0, .int .i64 (IntKind.i64.wrap ((D.f 1).n)), .slice none 0 0, .bool false, .slice none 0 0, .slice none 0 0, .int .i64 0, .slice none 0 0, .bool false, .slice none 0 0, .slice none 0 0], true⟩, ⟨am, 0, [.int .i64 0, .slice none 0 0, .bool false, .slice (some ⟨aa, 0, none⟩) 3 3, .slice none 0 0], true⟩] []) (fun ad h_ => by obtain ⟨b', o', g1, g2⟩ := g3 ad h_; exact ⟨b', o', g1, g2.move aC.step nilM aC.imm⟩) g3l) ?_)
 rintro e_ dt ⟨cI, rfl, b8, ba⟩
 have bd := b8.move (Step.refl _ Nil) nilM (aC.laid (G := F) ba)
 obtain ⟨ao, ap, ar, au, av, aw, ax, ay, az, aA, aB, cJ, cr, aH, cK, cd, cL, cM⟩ := bd.open_
 rw [aH] at bd
 have ce := cK.small
 have cm := cd.small
 rw [aH]
 refine ⟨_, rfl, fun cN aI => ?_⟩
 have aD := aC.next_nil ba
 have aE := aC.frN ba
 clear bN
 have aJ := TT.ofW aE aD
 refine ⟨fun _ => aJ, ?_⟩
 refine takeC_index aI (i := 7) (t := 34) (A := (some ⟨aa, 0, none⟩)) (m := 3) (q := 2) (d := 31) kz (e := 37) (size := 5) (bytes := 88) (j := 2) kz (b := aa) (o := 0) rfl rfl (by decide) kz kz (panicFree_then panicFree_body) aJ fun cO aK => ?_
 clear aI
 have aL := aK.recast 31 (.v (.pointer (some ⟨aa, 0 + 2 * 5, none⟩))) (.p 2 10) rfl rfl (Nat.le_of_ble_eq_true (n := 3) rfl)
 clear aK
 have aM := aL.pk (env' := [(0, .p 0 0), (2, .p 1 0), (3, .p 3 0), (25, .v (.slice (some ⟨aa, 0, none⟩) 3 3)), (29, .v (.pointer ((D.f 2).A))), (30, .v (.agg #[.int .i64 ao, .slice aw ap.length ax, .bool ar, .slice ay au.length az, .slice aA av.length aB])), (31, .p 2 10)])
 clear aL
 refine anyC_op (i := 8) kz (wpOp_store aD aM (oi := 2) (cs := [.int .i64 0, .slice (some ⟨ah, 0, none⟩) ((sb ((D.f 0).s)).length) ai, .bool false, .slice none 0 0, .slice none 0 0, .int .i64 (IntKind.i64.wrap ((D.f 1).n)), .slice none 0 0, .bool false, .slice none 0 0, .slice none 0 0, .int .i64 ao, .slice aw ap.length ax, .bool ar, .slice ay au.length az, .slice aA av.length aB]) kz fun cq aj ae aN => ?_)
 clear aM aD
 refine ⟨fun h => absurd rfl h, ?_⟩
 refine anyC_done kz ?_ _
 refine then_normal ?_
 refine go_seq_region [0, 1, 2, 3, 4] kz ?_
 refine go_rn [0, 1, 2] [3, 4] [(2, .p 1 0), (3, .p 3 0), (34, .p 0 3)] ae aN fun cP aO => ?_
 clear aN
 refine of_op (wpOp_mkf aO (v := .func (.func 198) #[] #[.pointer (some ⟨am, 0, none⟩)]) (d := 35) kz fun cQ aP => ?_)
 clear aO
 refine of_op (wpOp_call aP (f := 122) (vs := [.pointer (some ⟨b, o + 3, none⟩), .func (.func 198) #[] #[.pointer (some ⟨am, 0, none⟩)]]) (d := 36) kz Tryz.call122 (kEachTell (F := (Imm F w cq [⟨b, o, [.string ((D.f 0).s), .int .i16 ((D.f 1).n), .pointer ((D.f 2).A), .map D.m], false⟩, ⟨b5, 0, [.int .i64 0, .slice none 0 0, .bool false, .slice none 0 0, .slice none 0 0], true⟩, ⟨aa, 0, [.int .i64 0, .slice (some ⟨ah, 0, none⟩) ((sb ((D.f 0).s)).length) ai, .bool false, .slice none 0 0, .slice none 0 0, .int .i64 (IntKind.i64.wrap ((D.f 1).n)), .slice none 0 0, .bool false, .slice none 0 0, .slice none 0 0, .int .i64 ao, .slice aw ap.length ax, .bool ar, .slice ay au.length az, .slice aA av.length aB], true⟩, ⟨am, 0, [.int .i64 0, .slice none 0 0, .bool false, .slice (some ⟨aa, 0, none⟩) 3 3, .slice none 0 0], true⟩] [])) Tryz.call198 tCreatePartitionsResponseTopic_1 ((hat.one 3 rfl).move ae.step nilM ae.imm) (g4.move ae.step nilM ae.imm) (Str.of ae 3 rfl) (imm_n 3 rfl) g4l) ?_)
 rintro e_ cR ⟨rfl, ab, ac, bf, bO, bP⟩
 obtain ⟨ak, al, bQ⟩ := ae.wrote 3 [⟨b, o, [.string ((D.f 0).s), .int .i16 ((D.f 1).n), .pointer ((D.f 2).A), .map D.m], false⟩, ⟨b5, 0, [.int .i64 0, .slice none 0 0, .bool false, .slice none 0 0, .slice none 0 0], true⟩, ⟨aa, 0, [.int .i64 0, .slice (some ⟨ah, 0, none⟩) ((sb ((D.f 0).s)).length) ai, .bool false, .slice none 0 0, .slice none 0 0, .int .i64 (IntKind.i64.wrap ((D.f 1).n)), .slice none 0 0, .bool false, .slice none 0 0, .slice none 0 0, .int .i64 ao, .slice aw ap.length ax, .bool ar, .slice ay au.length az, .slice aA av.length aB], true⟩, ⟨am, 0, [.int .i64 0, .slice none 0 0, .bool false, .slice (some ⟨aa, 0, none⟩) 3 3, .slice ab D.u.length ac], true⟩] rfl bP bf
 have aQ := bO.move (Step.refl _ Nil) nilM (fun b_ o_ h_ hb_ => bQ (G := F) b_ o_ (.inr h_) hb_)
 refine ⟨_, rfl, fun cS bR => ?_⟩
 have aR := (EnvOk.places (tb' := [⟨b, o, [.string ((D.f 0).s), .int .i16 ((D.f 1).n), .pointer ((D.f 2).A), .map D.m], false⟩, ⟨b5, 0, [.int .i64 0, .slice none 0 0, .bool false, .slice none 0 0, .slice none 0 0], true⟩, ⟨aa, 0, [.int .i64 0, .slice (some ⟨ah, 0, none⟩) ((sb ((D.f 0).s)).length) ai, .bool false, .slice none 0 0, .slice none 0 0, .int .i64 (IntKind.i64.wrap ((D.f 1).n)), .slice none 0 0, .bool false, .slice none 0 0, .slice none 0 0, .int .i64 ao, .slice aw ap.length ax, .bool ar, .slice ay au.length az, .slice aA av.length aB], true⟩, ⟨am, 0, [.int .i64 0, .slice none 0 0, .bool false, .slice (some ⟨aa, 0, none⟩) 3 3, .slice ab D.u.length ac], true⟩]) bR (show Pl [⟨b, o, [.string ((D.f 0).s), .int .i16 ((D.f 1).n), .pointer ((D.f 2).A), .map D.m], false⟩, ⟨b5, 0, [.int .i64 0, .slice none 0 0, .bool false, .slice none 0 0, .slice none 0 0], true⟩, ⟨aa, 0, [.int .i64 0, .slice (some ⟨ah, 0, none⟩) ((sb ((D.f 0).s)).length) ai, .bool false, .slice none 0 0, .slice none 0 0, .int .i64 (IntKind.i64.wrap ((D.f 1).n)), .slice none 0 0, .bool false, .slice none 0 0, .slice none 0 0, .int .i64 ao, .slice aw ap.length ax, .bool ar, .slice ay au.length az, .slice aA av.length aB], true⟩, ⟨am, 0, [.int .i64 0, .slice none 0 0, .bool false, .slice (some ⟨aa, 0, none⟩) 3 3, .slice none 0 0], true⟩] [⟨b, o, [.string ((D.f 0).s), .int .i16 ((D.f 1).n), .pointer ((D.f 2).A), .map D.m], false⟩, ⟨b5, 0, [.int .i64 0, .slice none 0 0, .bool false, .slice none 0 0, .slice none 0 0], true⟩, ⟨aa, 0, [.int .i64 0, .slice (some ⟨ah, 0, none⟩) ((sb ((D.f 0).s)).length) ai, .bool false, .slice none 0 0, .slice none 0 0, .int .i64 (IntKind.i64.wrap ((D.f 1).n)), .slice none 0 0, .bool false, .slice none 0 0, .slice none 0 0, .int .i64 ao, .slice aw ap.length ax, .bool ar, .slice ay au.length az, .slice aA av.length aB], true⟩, ⟨am, 0, [.int .i64 0, .slice none 0 0, .bool false, .slice (some ⟨aa, 0, none⟩) 3 3, .slice ab D.u.length ac], true⟩] from ⟨rfl, rfl, ⟨rfl, rfl, ⟨rfl, rfl, ⟨rfl, rfl, trivial⟩⟩⟩⟩)).pk (env' := [(36, .v (.tuple #[])), (2, .p 1 0), (3, .p 3 0), (34, .p 0 3), (35, .v (.func (.func 198) #[] #[.pointer (some ⟨am, 0, none⟩)]))])
 clear aP
 refine wpOps_nil (then_normal ?_)
 refine go_seq_region [0, 1, 2] kz ?_
 refine go_rn [0, 1] [2] [(2, .p 1 0), (3, .p 3 0), (38, .v (.slice ab D.u.length ac))] ak aR fun cT aS => ?_
 clear aR
 refine of_op (wpOp_call aS (f := 124) (vs := [.slice ab D.u.length ac]) (d := 39) kz Tryz.call124 (tSorted aQ g4.sorted) ?_)
 rintro e_ cU ⟨rfl, aT⟩
 refine ⟨_, rfl, fun cV aU => ?_⟩
 have aF := ak.next_nil aT
 have af := ak.frN aT
 clear aS ak
 refine wpOps_nil (then_normal ?_)
 refine go_seq_region [0, 1] kz ?_
 refine go_rn [0] [1] [(2, .p 1 0), (40, .v (.agg #[.int .i64 0, .slice none 0 0, .bool false, .slice (some ⟨aa, 0, none⟩) 3 3, .slice ab D.u.length ac]))] aF aU fun cW aV => ?_
 clear aU
 refine of_op (wpOp_store aF aV (oi := 1) (cs := [.int .i64 0, .slice none 0 0, .bool false, .slice (some ⟨aa, 0, none⟩) 3 3, .slice ab D.u.length ac]) kz fun aG ag aW bS => ?_)
 clear aV aF
 refine wpOps_nil (then_normal ?_)
 refine wp_ret ?_
 refine leave bS aW.cells (v := .agg #[.int .i64 0, .slice none 0 0, .bool false, .slice (some ⟨aa, 0, none⟩) 3 3, .slice ab D.u.length ac]) kz ?_
 exact tell_end (u := D.u) (l := [.mk 0 (sb (D.f 0).s) false [] [], .mk (IntKind.i64.wrap (D.f 1).n) [] false [] [], textT (D.f 2).A (D.f 2).s]) (css := [[.int .i64 0, .slice (some ⟨ah, 0, none⟩) ((sb ((D.f 0).s)).length) ai, .bool false, .slice none 0 0, .slice none 0 0], [.int .i64 (IntKind.i64.wrap ((D.f 1).n)), .slice none 0 0, .bool false, .slice none 0 0, .slice none 0 0], [.int .i64 ao, .slice aw ap.length ax, .bool ar, .slice ay au.length az, .slice aA av.length aB]]) aW 2 rfl ⟨(show TreeR _ (Imm F w aG [⟨b, o, [.string ((D.f 0).s), .int .i16 ((D.f 1).n), .pointer ((D.f 2).A), .map D.m], false⟩, ⟨b5, 0, [.int .i64 0, .slice none 0 0, .bool false, .slice (some ⟨aa, 0, none⟩) 3 3, .slice ab D.u.length ac], true⟩, ⟨aa, 0, [.int .i64 0, .slice (some ⟨ah, 0, none⟩) ((sb ((D.f 0).s)).length) ai, .bool false, .slice none 0 0, .slice none 0 0, .int .i64 (IntKind.i64.wrap ((D.f 1).n)), .slice none 0 0, .bool false, .slice none 0 0, .slice none 0 0, .int .i64 ao, .slice aw ap.length ax, .bool ar, .slice ay au.length az, .slice aA av.length aB], true⟩, ⟨am, 0, [.int .i64 0, .slice none 0 0, .bool false, .slice (some ⟨aa, 0, none⟩) 3 3, .slice ab D.u.length ac], true⟩] []) _ _ from (TreeR.mk (n := 0) (b := false) (s := (sb ((D.f 0).s))) (l := []) (u := []) (fun _ => []) (bX.move ((((((((bA.trans bD).trans bJ).trans bM).trans aE).trans aj).trans al).trans af).trans ag).step immM ((((((((bA.trans bD).trans bJ).trans bM).trans aE).trans aj).trans al).trans af).trans ag).to') (Slots.nil _ _ _ _) (fun i_ x_ h_ => by simp at h_) (TagsR.nil _ _))).move (Step.refl _ Nil) nilM immOut, (show TreeR _ (Imm F w aG [⟨b, o, [.string ((D.f 0).s), .int .i16 ((D.f 1).n), .pointer ((D.f 2).A), .map D.m], false⟩, ⟨b5, 0, [.int .i64 0, .slice none 0 0, .bool false, .slice (some ⟨aa, 0, none⟩) 3 3, .slice ab D.u.length ac], true⟩, ⟨aa, 0, [.int .i64 0, .slice (some ⟨ah, 0, none⟩) ((sb ((D.f 0).s)).length) ai, .bool false, .slice none 0 0, .slice none 0 0, .int .i64 (IntKind.i64.wrap ((D.f 1).n)), .slice none 0 0, .bool false, .slice none 0 0, .slice none 0 0, .int .i64 ao, .slice aw ap.length ax, .bool ar, .slice ay au.length az, .slice aA av.length aB], true⟩, ⟨am, 0, [.int .i64 0, .slice none 0 0, .bool false, .slice (some ⟨aa, 0, none⟩) 3 3, .slice ab D.u.length ac], true⟩] []) _ _ from (TreeR.mk (n := IntKind.i64.wrap ((D.f 1).n)) (b := false) (s := []) (l := []) (u := []) (fun _ => []) (Octs.nil _ _) (Slots.nil _ _ _ _) (fun i_ x_ h_ => by simp at h_) (TagsR.nil _ _))).move (Step.refl _ Nil) nilM immOut, (show TreeR _ (Imm F w aG [⟨b, o, [.string ((D.f 0).s), .int .i16 ((D.f 1).n), .pointer ((D.f 2).A), .map D.m], false⟩, ⟨b5, 0, [.int .i64 0, .slice none 0 0, .bool false, .slice (some ⟨aa, 0, none⟩) 3 3, .slice ab D.u.length ac], true⟩, ⟨aa, 0, [.int .i64 0, .slice (some ⟨ah, 0, none⟩) ((sb ((D.f 0).s)).length) ai, .bool false, .slice none 0 0, .slice none 0 0, .int .i64 (IntKind.i64.wrap ((D.f 1).n)), .slice none 0 0, .bool false, .slice none 0 0, .slice none 0 0, .int .i64 ao, .slice aw ap.length ax, .bool ar, .slice ay au.length az, .slice aA av.length aB], true⟩, ⟨am, 0, [.int .i64 0, .slice none 0 0, .bool false, .slice (some ⟨aa, 0, none⟩) 3 3, .slice ab D.u.length ac], true⟩] []) _ _ from (bd.move (((aj.trans al).trans af).trans ag).step immM (((aj.trans al).trans af).trans ag).to')).move (Step.refl _ Nil) nilM immOut, trivial⟩ ((show TagsR _ (Imm F w aG [⟨b, o, [.string ((D.f 0).s), .int .i16 ((D.f 1).n), .pointer ((D.f 2).A), .map D.m], false⟩, ⟨b5, 0, [.int .i64 0, .slice none 0 0, .bool false, .slice (some ⟨aa, 0, none⟩) 3 3, .slice ab D.u.length ac], true⟩, ⟨aa, 0, [.int .i64 0, .slice (some ⟨ah, 0, none⟩) ((sb ((D.f 0).s)).length) ai, .bool false, .slice none 0 0, .slice none 0 0, .int .i64 (IntKind.i64.wrap ((D.f 1).n)), .slice none 0 0, .bool false, .slice none 0 0, .slice none 0 0, .int .i64 ao, .slice aw ap.length ax, .bool ar, .slice ay au.length az, .slice aA av.length aB], true⟩, ⟨am, 0, [.int .i64 0, .slice none 0 0, .bool false, .slice (some ⟨aa, 0, none⟩) 3 3, .slice ab D.u.length ac], true⟩] []) _ _ _ from (aQ.move (af.trans ag).step immM (af.trans ag).to')).move (Step.refl _ Nil) nilM immOut)
set_option maxHeartbeats 4000000 in
theorem tlCreatePartitionsResponse (v : Int) (D : DV) (b o : Nat) (w : World) (F : Nat → Nat → Prop) (hat : AtF w F b o [.int .i16 v, .int .i32 ((D.f 0).n), .slice ((D.f 1).A) ((D.f 1).l) ((D.f 1).c), .map D.m]) (hok : okCreatePartitionsResponse w F D) : Calls Tryz.prog 81 #[.pointer (some ⟨b, o, none⟩)] w (GivesT w F (trCreatePartitionsResponse D)) := by
 refine enter (n := 81) Tryz.func81 rfl Tryz.ntmps81 kz fun a hE => ?_
 have hW : WOk w Nil w [⟨b, o, [.int .i16 v, .int .i32 ((D.f 0).n), .slice ((D.f 1).A) ((D.f 1).l) ((D.f 1).c), .map D.m], false⟩] [] := (WOk.start w Nil).start1 hat rfl rfl
 unfold okCreatePartitionsResponse at hok
 obtain ⟨g1, ⟨g2, g2l, g2e⟩, g3, g3l, g3x, _⟩ := hok
 have hE0 := (EnvOk.ptr0 (cs := [.int .i16 v, .int .i32 ((D.f 0).n), .slice ((D.f 1).A) ((D.f 1).l) ((D.f 1).c), .map D.m]) (r := false) hE).pk (env' := [(0, .p 0 0)])
 refine go_seq_region [0] kz ?_
 refine of_op (wpOp_alloc hW hE0 (d := 2) (cs := [.int .i64 0, .slice none 0 0, .bool false, .slice none 0 0, .slice none 0 0]) kz fun b4 a5 w6 hb7 hz8 hF9 eu ev => ?_)
 clear hE0 hW
 refine wpOps_nil (then_normal ?_)
 refine go_seq_region [0, 1, 2, 3] kz ?_
 refine of_op (wpOp_makeZ (t := 34) (e := 37) (size := 5) (bytes := 88) (d := 5) (j := 2) (.agg #[.int .i64 0, .slice none 0 0, .bool false, .slice none 0 0, .slice none 0 0]) [.int .i64 0, .slice none 0 0, .bool false, .slice none 0 0, .slice none 0 0, .int .i64 0, .slice none 0 0, .bool false, .slice none 0 0, .slice none 0 0] eu ev fun aa jh ji gI gJ gK ef ew => ?_)
 clear ev eu
 refine go_rn [1] [2, 3] [(0, .p 0 0), (2, .p 1 0), (6, .v (.agg #[.int .i64 0, .slice none 0 0, .bool false, .slice (some ⟨aa, 0, none⟩) 2 2, .slice none 0 0]))] ef ew fun jj ey => ?_
 clear ew
 refine of_op (wpOp_alloc ef ey (d := 3) (cs := [.int .i64 0, .slice none 0 0, .bool false, .slice none 0 0, .slice none 0 0]) kz fun bC jk jl gL gM gN ez eB => ?_)
 clear ey ef
 refine of_op (wpOp_store ez eB (oi := 3) (cs := [.int .i64 0, .slice none 0 0, .bool false, .slice (some ⟨aa, 0, none⟩) 2 2, .slice none 0 0]) kz fun jm gO eC eD => ?_)
 clear eB ez
 refine wpOps_nil (then_normal ?_)
 refine go_seq_drawK 9 kz eC fun jn gP fX eE => ?_
 clear eC
 refine go_rnD [0, 1, 2, 3, 4, 5, 6, 7] [(0, .p 0 0), (2, .p 1 0), (3, .p 3 0), (8, .v (.slice (some ⟨aa, 0, none⟩) 2 2)), (14, .v (.agg #[.int .i64 (IntKind.i64.wrap ((D.f 0).n)), .slice none 0 0, .bool false, .slice none 0 0, .slice none 0 0]))] 2 (panicFree_then panicFree_body) (fun _ h => h.cells) eE eD fun jo eF => ?_
 clear eD
 refine takeC_index eF (i := 8) (t := 34) (A := (some ⟨aa, 0, none⟩)) (m := 2) (q := 0) (d := 15) kz (e := 37) (size := 5) (bytes := 88) (j := 0) kz (b := aa) (o := 0) rfl rfl (by decide) kz kz (panicFree_then panicFree_body) eE fun jp eG => ?_
 clear eF
 have eH := eG.recast 15 (.v (.pointer (some ⟨aa, 0 + 0 * 5, none⟩))) (.p 2 0) rfl rfl (Nat.le_of_ble_eq_true (n := 3) rfl)
 clear eG
 have eI := eH.pk (env' := [(0, .p 0 0), (2, .p 1 0), (3, .p 3 0), (8, .v (.slice (some ⟨aa, 0, none⟩) 2 2)), (14, .v (.agg #[.int .i64 (IntKind.i64.wrap ((D.f 0).n)), .slice none 0 0, .bool false, .slice none 0 0, .slice none 0 0])), (15, .p 2 0)])
 clear eH
 refine anyC_op (i := 9) kz (wpOp_store fX eI (oi := 2) (cs := [.int .i64 (IntKind.i64.wrap ((D.f 0).n)), .slice none 0 0, .bool false, .slice none 0 0, .slice none 0 0, .int .i64 0, .slice none 0 0, .bool false, .slice none 0 0, .slice none 0 0]) kz fun jq gQ eJ eK => ?_)
 clear eI
 refine ⟨fun h => absurd rfl h, ?_⟩
 refine anyC_done kz ?_ _
 refine then_normal ?_
 refine go_seq_drawK 9 kz eJ fun jr gR fY eg => ?_
 clear eJ
 refine go_rnD [0, 1, 2, 3, 4, 5, 6] [(0, .p 0 0), (2, .p 1 0), (3, .p 3 0), (17, .v (.slice (some ⟨aa, 0, none⟩) 2 2)), (22, .v (.bool (((D.f 1).A).isNone)))] 3 (panicFree_then panicFree_body) (fun _ h => h.cells) eg eK fun js eL => ?_
 clear eK
 refine anyC_op (i := 7) kz (wpOp_index eL (t := 34) (A := (some ⟨aa, 0, none⟩)) (m := 2) (q := 1) (d := 23) kz (e := 37) (size := 5) (bytes := 88) (j := 1) kz (b := aa) (o := 0) rfl rfl (by decide) fun jt eM => ?_)
 clear eL
 have eN := eM.recast 23 (.v (.pointer (some ⟨aa, 0 + 1 * 5, none⟩))) (.p 2 5) rfl rfl (Nat.le_of_ble_eq_true (n := 3) rfl)
 clear eM
 have eO := eN.pk (env' := [(0, .p 0 0), (2, .p 1 0), (3, .p 3 0), (17, .v (.slice (some ⟨aa, 0, none⟩) 2 2)), (22, .v (.bool (((D.f 1).A).isNone))), (23, .p 2 5)])
 clear eN
 refine ⟨fun _ => eg, ?_⟩
 refine go_rnD [8] [(0, .p 0 0), (2, .p 1 0), (3, .p 3 0), (22, .v (.bool (((D.f 1).A).isNone))), (24, .p 2 7)] 1 (panicFree_then panicFree_body) (fun _ h => h.cells) eg eO fun ju eP => ?_
 clear eO
 refine anyC_op (i := 9) kz (wpOp_store fY eP (oi := 2) (cs := [.int .i64 (IntKind.i64.wrap ((D.f 0).n)), .slice none 0 0, .bool false, .slice none 0 0, .slice none 0 0, .int .i64 0, .slice none 0 0, .bool (((D.f 1).A).isNone), .slice none 0 0, .slice none 0 0]) kz fun jv gS cO eQ => ?_)
 clear eP
 refine ⟨fun h => absurd rfl h, ?_⟩
 refine anyC_done kz ?_ _
 refine then_normal ?_
 refine wp_seq ?_
 refine go_sp [(0, .p 0 0), (2, .p 1 0), (3, .p 3 0), (29, .v (.int .i64 (((D.f 1).l : Nat) : Int))), (30, .v (.int .i64 0))] cO eQ fun jw eR => ?_
 clear eQ
 refine wp_block ?_
 have eS := cO.addNil 37 5
 have gT := cO.frNil 37 5
 clear cO
 refine wp_loop_ghost (fun n_ a_ w_ => ∃ (k1_ : Nat) (A1_ : Option Addr) (c1_ : Nat) (xs1_ : List Value) (css1_ : List (List Value)), n_ = (D.f 1).l - k1_ ∧ k1_ ≤ (D.f 1).l ∧ (Trees w_ (Imm F w w_ [⟨b, o, [.int .i16 v, .int .i32 ((D.f 0).n), .slice ((D.f 1).A) ((D.f 1).l) ((D.f 1).c), .map D.m], false⟩, ⟨b4, 0, [.int .i64 0, .slice none 0 0, .bool false, .slice none 0 0, .slice none 0 0], true⟩, ⟨aa, 0, [.int .i64 (IntKind.i64.wrap ((D.f 0).n)), .slice none 0 0, .bool false, .slice none 0 0, .slice none 0 0, .int .i64 0, .slice none 0 0, .bool (((D.f 1).A).isNone), .slice A1_ k1_ c1_, .slice none 0 0], true⟩, ⟨bC, 0, [.int .i64 0, .slice none 0 0, .bool false, .slice (some ⟨aa, 0, none⟩) 2 2, .slice none 0 0], true⟩] [⟨A1_, c1_, 37, 5, k1_, xs1_⟩]) xs1_ (((List.range (D.f 1).l).map (fun i => trCreatePartitionsResponseTopic ((D.f 1).f i))).take k1_) css1_) ∧ LInv eS 81 [⟨b, o, [.int .i16 v, .int .i32 ((D.f 0).n), .slice ((D.f 1).A) ((D.f 1).l) ((D.f 1).c), .map D.m], false⟩, ⟨b4, 0, [.int .i64 0, .slice none 0 0, .bool false, .slice none 0 0, .slice none 0 0], true⟩, ⟨aa, 0, [.int .i64 (IntKind.i64.wrap ((D.f 0).n)), .slice none 0 0, .bool false, .slice none 0 0, .slice none 0 0, .int .i64 0, .slice none 0 0, .bool (((D.f 1).A).isNone), .slice A1_ k1_ c1_, .slice none 0 0], true⟩, ⟨bC, 0, [.int .i64 0, .slice none 0 0, .bool false, .slice (some ⟨aa, 0, none⟩) 2 2, .slice none 0 0], true⟩] [⟨A1_, c1_, 37, 5, k1_, xs1_⟩] [(0, .p 0 0), (2, .p 1 0), (3, .p 3 0), (29, .v (.int .i64 (((D.f 1).l : Nat) : Int))), (30, .v (.int .i64 ((k1_ : Nat) : Int)))] a_ w_) ((D.f 1).l) ⟨0, none, 0, [], [], by omega, by omega, Trees.nil _ _, eR.pk, eS, Fr.refl _ _ _⟩ ?_
 clear eR
 rintro jx jy gU ⟨k1_, A1_, c1_, xs1_, css1_, gV, gW, hT1_, eU, ao, eh⟩
 refine go_sp [(0, .p 0 0), (2, .p 1 0), (3, .p 3 0), (29, .v (.int .i64 (((D.f 1).l : Nat) : Int))), (30, .v (.int .i64 ((k1_ : Nat) : Int))), (31, .v (.bool (decide (((k1_ : Nat) : Int) < (((D.f 1).l : Nat) : Int)))))] ao eU fun jz b8 => ?_
 clear eU
 refine wp_seq ?_
 refine cond_of b8 (b := decide (((k1_ : Nat) : Int) < (((D.f 1).l : Nat) : Int))) kz (fun ei => ?_) (fun ei => ?_)
 ·
  have gX := of_decide_eq_true ei
  refine wp_skip ?_
  refine then_normal ?_
  refine wp_seq ?_
  refine wp_block ?_
  refine go_sp [(0, .p 0 0), (2, .p 1 0), (3, .p 3 0), (4, .v (.int .i64 ((k1_ : Nat) : Int))), (29, .v (.int .i64 (((D.f 1).l : Nat) : Int))), (30, .v (.int .i64 ((k1_ : Nat) : Int)))] ao b8 fun jA eV => ?_
  clear b8
  refine go_seq_drawK 4 kz ao fun jB aD fZ gY => ?_
  clear ao
  refine anyC_op (i := 0) kz (wpOp_alloc fZ eV (d := 33) (cs := [.bool false]) kz fun jC jD jE gZ g6 ab cd cP => ?_)
  clear eV
  have f5 := TT.ofW ab cd
  refine ⟨fun _ => f5, ?_⟩
  refine anyC_two (i := 1) (j := 2) kz ?_ ?_
  ·
   refine (wpOp_store cd cP (oi := 4) (cs := [.bool true]) kz fun jF bM ej eW => ?_)
   clear cP cd
   have eX := TT.ofW (ab.trans bM) ej
   refine ⟨fun _ => eX, ?_⟩
   refine anyC_op (i := 2) kz (wpOp_store ej eW (oi := 4) (cs := [.bool false]) kz fun g7 ba bd cS => ?_)
   clear eW ej
   have eY := TT.ofW ((ab.trans bM).trans ba) bd
   refine ⟨fun _ => eY, ?_⟩
   refine anyC_op (i := 3) kz (wpOp_pure [0, 2, 3, 4, 29, 30, 34] bd.cells cS (env' := [(0, .p 0 0), (2, .p 1 0), (3, .p 3 0), (4, .v (.int .i64 ((k1_ : Nat) : Int))), (29, .v (.int .i64 (((D.f 1).l : Nat) : Int))), (30, .v (.int .i64 ((k1_ : Nat) : Int))), (34, .v (.bool false))]) kz fun g8 ce => ?_)
   clear cS
   have eZ := TT.ofW ((ab.trans bM).trans ba) bd
   refine ⟨fun _ => eZ, ?_⟩
   refine anyC_done kz ?_ _
   refine then_normal ?_
   refine cond_false ce (b := false) kz rfl ?_
   refine go_drawK 18 kz bd fun g9 cm ap bD => ?_
   clear bd
   refine go_rnD [0, 1, 2, 3, 7, 8, 9, 10, 11] [(0, .p 0 0), (2, .p 1 0), (3, .p 3 0), (29, .v (.int .i64 (((D.f 1).l : Nat) : Int))), (30, .v (.int .i64 ((k1_ : Nat) : Int))), (54, .v (.slice (some ⟨aa, 0, none⟩) 2 2)), (56, .v (.slice (some ⟨aa, 0, none⟩) 2 2)), (63, .v (.slice ((D.f 1).A) ((D.f 1).l) ((D.f 1).c))), (64, .v (.int .i64 ((k1_ : Nat) : Int)))] 10 (panicFree_block (panicFree_then (panicFree_then (panicFree_block (panicFree_then panicFree_body))))) (fun _ h => h.cells) bD ce fun hC cT => ?_
   clear ce
   refine takeC_index cT (i := 4) (t := 34) (A := (some ⟨aa, 0, none⟩)) (m := 2) (q := 1) (d := 57) kz (e := 37) (size := 5) (bytes := 88) (j := 1) kz (b := aa) (o := 0) rfl rfl (by decide) kz kz (panicFree_block (panicFree_then (panicFree_then (panicFree_block (panicFree_then panicFree_body))))) bD fun hJ cU => ?_
   clear cT
   have cV := cU.recast 57 (.v (.pointer (some ⟨aa, 0 + 1 * 5, none⟩))) (.p 2 5) rfl rfl (Nat.le_of_ble_eq_true (n := 3) rfl)
   clear cU
   have cW := cV.pk (env' := [(0, .p 0 0), (2, .p 1 0), (3, .p 3 0), (29, .v (.int .i64 (((D.f 1).l : Nat) : Int))), (30, .v (.int .i64 ((k1_ : Nat) : Int))), (54, .v (.slice (some ⟨aa, 0, none⟩) 2 2)), (56, .v (.slice (some ⟨aa, 0, none⟩) 2 2)), (63, .v (.slice ((D.f 1).A) ((D.f 1).l) ((D.f 1).c))), (64, .v (.int .i64 ((k1_ : Nat) : Int))), (57, .p 2 5)])
   clear cV
   refine go_rnD [5, 6] [(0, .p 0 0), (2, .p 1 0), (3, .p 3 0), (29, .v (.int .i64 (((D.f 1).l : Nat) : Int))), (30, .v (.int .i64 ((k1_ : Nat) : Int))), (54, .v (.slice (some ⟨aa, 0, none⟩) 2 2)), (59, .v (.slice A1_ k1_ c1_)), (63, .v (.slice ((D.f 1).A) ((D.f 1).l) ((D.f 1).c))), (64, .v (.int .i64 ((k1_ : Nat) : Int)))] 7 (panicFree_block (panicFree_then (panicFree_then (panicFree_block (panicFree_then panicFree_body))))) (fun _ h => h.cells) bD cW fun hK cX => ?_
   clear cW
   obtain ⟨e9, fa, fb, gm, ek⟩ := Slots.get g2 (i := k1_) (by omega)
   refine takeC_index cX (i := 12) (t := 137) (A := (D.f 1).A) (m := ((D.f 1).l)) (q := ((k1_ : Nat) : Int)) (d := 65) kz (e := 143) (size := 4) (bytes := 40) kz fb rfl (by omega) kz kz (panicFree_block (panicFree_then (panicFree_then (panicFree_block (panicFree_then panicFree_body))))) bD fun hZ cY => ?_
   clear cX
   refine anyC_op (i := 13) kz (wpOp_call cY (f := 143) (vs := [.pointer (some ⟨e9, fa + k1_ * 4, none⟩)]) (d := 66) kz Tryz.call143 (tlCreatePartitionsResponseTopic 0 ((D.f 1).f k1_) _ _ _ _ (ek.move ap.step nilM ap.imm) (mvCreatePartitionsResponseTopic _ ap.step nilM ap.imm (g2e k1_ (by omega)))) ?_)
   rintro e_ ia ⟨gn, rfl, fe, cq⟩
   have cr := fe.move (Step.refl _ Nil) nilM (ap.laid (G := F) cq)
   obtain ⟨bN, bO, bP, bQ, bR, bS, bT, bU, bV, bW, bX, gp, gq, cu, f7, f8, ib, ic⟩ := cr.open_
   rw [cu] at cr
   have f9 := f7.small
   have ga := f8.small
   rw [cu]
   refine ⟨_, rfl, fun ig cZ => ?_⟩
   have cw := ap.next_nil cq
   have ar := ap.frN cq
   clear cY
   have ff := TT.ofW ar cw
   refine ⟨fun _ => ff, ?_⟩
   refine anyC_op (i := 14) kz (wpOp_lit cw cZ (e := 37) (size := 5) (len := 1) (cs := [.int .i64 bN, .slice bS bO.length bT, .bool bP, .slice bU bQ.length bV, .slice bW bR.length bX]) (d := 67) kz kz fun fg ii ij gt gv ae bf c5 => ?_)
   clear cZ cw
   have fh := TT.ofW (ar.trans ae) bf
   refine ⟨fun _ => fh, ?_⟩
   refine anyC_op (i := 15) kz (wpOp_append bf c5 (k := 0) (d := 68) (t := 34) (e := 37) (size := 5) (bytes := 88) (A := A1_) (As := (some ⟨fg, 0, none⟩)) (m0 := k1_) (c := c1_) (m := 1) (cs := 1) (xs := xs1_) (news := [.int .i64 bN, .slice bS bO.length bT, .bool bP, .slice bU bQ.length bV, .slice bW bR.length bX]) kz kz rfl (own_src (bf.own 1 _ rfl) (allOne_ok kz)) (own_cap (bf.own 1 _ rfl)) (by omega) fun bY bZ ik il au bE c6 => ?_)
   clear c5 bf
   have fi := TT.ofW ((ar.trans ae).trans au) bE
   refine ⟨fun _ => fi, ?_⟩
   refine anyC_op (i := 16) kz (wpOp_index c6 (t := 34) (A := (some ⟨aa, 0, none⟩)) (m := 2) (q := 1) (d := 69) kz (e := 37) (size := 5) (bytes := 88) (j := 1) kz (b := aa) (o := 0) rfl rfl (by decide) fun im da => ?_)
   clear c6
   have db := da.recast 69 (.v (.pointer (some ⟨aa, 0 + 1 * 5, none⟩))) (.p 2 5) rfl rfl (Nat.le_of_ble_eq_true (n := 3) rfl)
   clear da
   have dc := db.pk (env' := [(0, .p 0 0), (2, .p 1 0), (3, .p 3 0), (29, .v (.int .i64 (((D.f 1).l : Nat) : Int))), (30, .v (.int .i64 ((k1_ : Nat) : Int))), (54, .v (.slice (some ⟨aa, 0, none⟩) 2 2)), (59, .v (.slice A1_ k1_ c1_)), (63, .v (.slice ((D.f 1).A) ((D.f 1).l) ((D.f 1).c))), (64, .v (.int .i64 ((k1_ : Nat) : Int))), (65, .v (.pointer (some ⟨e9, fa + k1_ * 4, none⟩))), (66, .v (.agg #[.int .i64 bN, .slice bS bO.length bT, .bool bP, .slice bU bQ.length bV, .slice bW bR.length bX])), (67, .v (.slice (some ⟨fg, 0, none⟩) 1 1)), (68, .v (.slice bY (k1_ + 1) bZ)), (69, .p 2 5)])
   clear db
   have de := TT.ofW ((ar.trans ae).trans au) bE
   refine ⟨fun _ => de, ?_⟩
   refine go_rnD [17] [(0, .p 0 0), (2, .p 1 0), (3, .p 3 0), (29, .v (.int .i64 (((D.f 1).l : Nat) : Int))), (30, .v (.int .i64 ((k1_ : Nat) : Int))), (68, .v (.slice bY (k1_ + 1) bZ)), (70, .p 2 8)] 1 (panicFree_block (panicFree_then (panicFree_then (panicFree_block (panicFree_then panicFree_body))))) (fun _ h => h.cells) de dc fun io df => ?_
   clear dc
   refine anyC_op (i := 18) kz (wpOp_store bE df (oi := 2) (cs := [.int .i64 (IntKind.i64.wrap ((D.f 0).n)), .slice none 0 0, .bool false, .slice none 0 0, .slice none 0 0, .int .i64 0, .slice none 0 0, .bool (((D.f 1).A).isNone), .slice bY (k1_ + 1) bZ, .slice none 0 0]) kz fun ip bg dg dh => ?_)
   clear df bE
   refine ⟨fun h => absurd rfl h, ?_⟩
   refine anyC_done kz ?_ _
   refine block_normal ?_
   refine then_normal ?_
   refine go_region [0, 1] kz ?_
   refine go_rn [0, 1] [] [(0, .p 0 0), (2, .p 1 0), (3, .p 3 0), (29, .v (.int .i64 (((D.f 1).l : Nat) : Int))), (30, .v (.int .i64 (IntKind.i64.wrap (((k1_ : Nat) : Int) + 1))))] dg dh fun iq fj => ?_
   clear dh
   refine wpOps_nil (then_normal ?_)
   obtain ⟨di, fk, bh⟩ := dg.cutB fj 4 [⟨b, o, [.int .i16 v, .int .i32 ((D.f 0).n), .slice ((D.f 1).A) ((D.f 1).l) ((D.f 1).c), .map D.m], false⟩, ⟨b4, 0, [.int .i64 0, .slice none 0 0, .bool false, .slice none 0 0, .slice none 0 0], true⟩, ⟨aa, 0, [.int .i64 (IntKind.i64.wrap ((D.f 0).n)), .slice none 0 0, .bool false, .slice none 0 0, .slice none 0 0, .int .i64 0, .slice none 0 0, .bool (((D.f 1).A).isNone), .slice bY (k1_ + 1) bZ, .slice none 0 0], true⟩, ⟨bC, 0, [.int .i64 0, .slice none 0 0, .bool false, .slice (some ⟨aa, 0, none⟩) 2 2, .slice none 0 0], true⟩] [(0, .p 0 0), (2, .p 1 0), (3, .p 3 0), (29, .v (.int .i64 (((D.f 1).l : Nat) : Int))), (30, .v (.int .i64 (IntKind.i64.wrap (((k1_ : Nat) : Int) + 1))))]
   obtain ⟨fm, bi⟩ := fk.cutR 1 [⟨bY, bZ, 37, 5, k1_ + 1, xs1_ ++ [.int .i64 bN, .slice bS bO.length bT, .bool bP, .slice bU bQ.length bV, .slice bW bR.length bX]⟩]
   have fo : IntKind.i64.wrap (((k1_ : Nat) : Int) + 1) = ((k1_ + 1 : Nat) : Int) := wrap_succ (by omega)
   rw [fo] at di
   exact ⟨(D.f 1).l - (k1_ + 1), by omega, k1_ + 1, bY, bZ, xs1_ ++ [Value.int .i64 bN, .slice bS bO.length bT, .bool bP, .slice bU bQ.length bV, .slice bW bR.length bX], (css1_ ++ [[Value.int .i64 bN, .slice bS bO.length bT, .bool bP, .slice bU bQ.length bV, .slice bW bR.length bX]]), rfl, by omega, by rw [take_range (by omega)]; exact (hT1_.move ((((((((((aD.trans ab).trans bM).trans ba).trans cm).trans ar).trans ae).trans au).trans bg).trans bh).trans bi).step immM ((((((((((aD.trans ab).trans bM).trans ba).trans cm).trans ar).trans ae).trans au).trans bg).trans bh).trans bi).to').snoc (x := (fun i => trCreatePartitionsResponseTopic ((D.f 1).f i)) k1_) (cr.move ((((ae.trans au).trans bg).trans bh).trans bi).step immM ((((ae.trans au).trans bg).trans bh).trans bi).to'), di.pk, fm, (((((((((((eh.trans aD).trans ab).trans bM).trans ba).trans cm).trans ar).trans ae).trans au).trans bg).trans bh).trans bi)⟩
  ·
   refine (wpOp_store cd cP (oi := 4) (cs := [.bool false]) kz fun ir ac cz dj => ?_)
   clear cP cd
   have fq := TT.ofW (ab.trans ac) cz
   refine ⟨fun _ => fq, ?_⟩
   refine anyC_op (i := 1) kz (wpOp_store cz dj (oi := 4) (cs := [.bool true]) kz fun iu af bj dl => ?_)
   clear dj cz
   have fr := TT.ofW ((ab.trans ac).trans af) bj
   refine ⟨fun _ => fr, ?_⟩
   refine anyC_op (i := 3) kz (wpOp_pure [0, 2, 3, 4, 29, 30, 34] bj.cells dl (env' := [(0, .p 0 0), (2, .p 1 0), (3, .p 3 0), (4, .v (.int .i64 ((k1_ : Nat) : Int))), (29, .v (.int .i64 (((D.f 1).l : Nat) : Int))), (30, .v (.int .i64 ((k1_ : Nat) : Int))), (34, .v (.bool true))]) kz fun iv cA => ?_)
   clear dl
   have ft := TT.ofW ((ab.trans ac).trans af) bj
   refine ⟨fun _ => ft, ?_⟩
   refine anyC_done kz ?_ _
   refine then_normal ?_
   refine cond_true cA (b := true) kz rfl ?_
   refine go_seq_drawK 17 kz bj fun iw aB ag bF => ?_
   clear bj
   refine go_rnD [0, 1, 5, 6, 7, 8, 9] [(0, .p 0 0), (2, .p 1 0), (3, .p 3 0), (29, .v (.int .i64 (((D.f 1).l : Nat) : Int))), (30, .v (.int .i64 ((k1_ : Nat) : Int))), (36, .v (.slice (some ⟨aa, 0, none⟩) 2 2)), (43, .v (.slice ((D.f 1).A) ((D.f 1).l) ((D.f 1).c))), (44, .v (.int .i64 ((k1_ : Nat) : Int)))] 11 (panicFree_then (panicFree_block (panicFree_then (panicFree_then (panicFree_block (panicFree_then panicFree_body)))))) (fun _ h => h.cells) bF cA fun ix dp => ?_
   clear cA
   refine takeC_index dp (i := 2) (t := 34) (A := (some ⟨aa, 0, none⟩)) (m := 2) (q := 1) (d := 37) kz (e := 37) (size := 5) (bytes := 88) (j := 1) kz (b := aa) (o := 0) rfl rfl (by decide) kz kz (panicFree_then (panicFree_block (panicFree_then (panicFree_then (panicFree_block (panicFree_then panicFree_body)))))) bF fun iy dq => ?_
   clear dp
   have dr := dq.recast 37 (.v (.pointer (some ⟨aa, 0 + 1 * 5, none⟩))) (.p 2 5) rfl rfl (Nat.le_of_ble_eq_true (n := 3) rfl)
   clear dq
   have dt := dr.pk (env' := [(0, .p 0 0), (2, .p 1 0), (3, .p 3 0), (29, .v (.int .i64 (((D.f 1).l : Nat) : Int))), (30, .v (.int .i64 ((k1_ : Nat) : Int))), (36, .v (.slice (some ⟨aa, 0, none⟩) 2 2)), (43, .v (.slice ((D.f 1).A) ((D.f 1).l) ((D.f 1).c))), (44, .v (.int .i64 ((k1_ : Nat) : Int))), (37, .p 2 5)])
   clear dr
   refine go_rnD [3, 4, 12] [(0, .p 0 0), (2, .p 1 0), (3, .p 3 0), (29, .v (.int .i64 (((D.f 1).l : Nat) : Int))), (30, .v (.int .i64 ((k1_ : Nat) : Int))), (36, .v (.slice (some ⟨aa, 0, none⟩) 2 2)), (39, .v (.slice A1_ k1_ c1_)), (43, .v (.slice ((D.f 1).A) ((D.f 1).l) ((D.f 1).c))), (44, .v (.int .i64 ((k1_ : Nat) : Int))), (47, .v (.int .i64 ((k1_ : Nat) : Int)))] 7 (panicFree_then (panicFree_block (panicFree_then (panicFree_then (panicFree_block (panicFree_then panicFree_body)))))) (fun _ h => h.cells) bF dt fun iz du => ?_
   clear dt
   obtain ⟨cQ, cR, fu, gw, cB⟩ := Slots.get g2 (i := k1_) (by omega)
   refine takeC_index du (i := 10) (t := 137) (A := (D.f 1).A) (m := ((D.f 1).l)) (q := ((k1_ : Nat) : Int)) (d := 45) kz (e := 143) (size := 4) (bytes := 40) kz fu rfl (by omega) kz kz (panicFree_then (panicFree_block (panicFree_then (panicFree_then (panicFree_block (panicFree_then panicFree_body)))))) bF fun iA bG => ?_
   clear du
   refine anyC_two (i := 11) (j := 13) kz ?_ ?_
   ·
    refine (wpOp_call bG (f := 143) (vs := [.pointer (some ⟨cQ, cR + k1_ * 4, none⟩)]) (d := 46) kz Tryz.call143 (tlCreatePartitionsResponseTopic 0 ((D.f 1).f k1_) _ _ _ _ (cB.move ag.step nilM ag.imm) (mvCreatePartitionsResponseTopic _ ag.step nilM ag.imm (g2e k1_ (by omega)))) ?_)
    rintro e_ iB ⟨gx, rfl, fv, cC⟩
    have cD := fv.move (Step.refl _ Nil) nilM (ag.laid (G := F) cC)
    obtain ⟨aE, aF, aG, aH, aI, aJ, aK, aL, aM, aN, aO, gy, gz, cE, gb, gc, iC, iD⟩ := cD.open_
    rw [cE] at cD
    have gd := gb.small
    have ge := gc.small
    rw [cE]
    refine ⟨_, rfl, fun iE dv => ?_⟩
    have cG := ag.next_nil cC
    have av := ag.frN cC
    clear bG
    have fw := TT.ofW av cG
    refine ⟨fun _ => fw, ?_⟩
    refine anyC_op (i := 13) kz (wpOp_lit cG dv (e := 37) (size := 5) (len := 1) (cs := [.int .i64 0, .slice none 0 0, .bool false, .slice none 0 0, .slice none 0 0]) (d := 48) kz kz fun em iF iG gA gB ah bk dw => ?_)
    clear dv cG
    have fx := TT.ofW (av.trans ah) bk
    refine ⟨fun _ => fx, ?_⟩
    refine anyC_op (i := 14) kz (wpOp_append bk dw (k := 0) (d := 49) (t := 34) (e := 37) (size := 5) (bytes := 88) (A := A1_) (As := (some ⟨em, 0, none⟩)) (m0 := k1_) (c := c1_) (m := 1) (cs := 1) (xs := xs1_) (news := [.int .i64 0, .slice none 0 0, .bool false, .slice none 0 0, .slice none 0 0]) kz kz rfl (own_src (bk.own 1 _ rfl) (allOne_ok kz)) (own_cap (bk.own 1 _ rfl)) (by omega) fun aj aw iH iI ax bH dx => ?_)
    clear dw bk
    have fy := TT.ofW ((av.trans ah).trans ax) bH
    refine ⟨fun _ => fy, ?_⟩
    refine anyC_op (i := 15) kz (wpOp_index dx (t := 34) (A := (some ⟨aa, 0, none⟩)) (m := 2) (q := 1) (d := 50) kz (e := 37) (size := 5) (bytes := 88) (j := 1) kz (b := aa) (o := 0) rfl rfl (by decide) fun iJ dy => ?_)
    clear dx
    have dz := dy.recast 50 (.v (.pointer (some ⟨aa, 0 + 1 * 5, none⟩))) (.p 2 5) rfl rfl (Nat.le_of_ble_eq_true (n := 3) rfl)
    clear dy
    have dA := dz.pk (env' := [(0, .p 0 0), (2, .p 1 0), (3, .p 3 0), (29, .v (.int .i64 (((D.f 1).l : Nat) : Int))), (30, .v (.int .i64 ((k1_ : Nat) : Int))), (36, .v (.slice (some ⟨aa, 0, none⟩) 2 2)), (39, .v (.slice A1_ k1_ c1_)), (43, .v (.slice ((D.f 1).A) ((D.f 1).l) ((D.f 1).c))), (44, .v (.int .i64 ((k1_ : Nat) : Int))), (47, .v (.int .i64 ((k1_ : Nat) : Int))), (45, .v (.pointer (some ⟨cQ, cR + k1_ * 4, none⟩))), (46, .v (.agg #[.int .i64 aE, .slice aJ aF.length aK, .bool aG, .slice aL aH.length aM, .slice aN aI.length aO])), (48, .v (.slice (some ⟨em, 0, none⟩) 1 1)), (49, .v (.slice aj (k1_ + 1) aw)), (50, .p 2 5)])
    clear dz
    have dB := TT.ofW ((av.trans ah).trans ax) bH
    refine ⟨fun _ => dB, ?_⟩
    refine go_rnD [16] [(0, .p 0 0), (2, .p 1 0), (3, .p 3 0), (29, .v (.int .i64 (((D.f 1).l : Nat) : Int))), (30, .v (.int .i64 ((k1_ : Nat) : Int))), (46, .v (.agg #[.int .i64 aE, .slice aJ aF.length aK, .bool aG, .slice aL aH.length aM, .slice aN aI.length aO])), (47, .v (.int .i64 ((k1_ : Nat) : Int))), (49, .v (.slice aj (k1_ + 1) aw)), (51, .p 2 8)] 1 (panicFree_then (panicFree_block (panicFree_then (panicFree_then (panicFree_block (panicFree_then panicFree_body)))))) (fun _ h => h.cells) dB dA fun iK dC => ?_
    clear dA
    refine anyC_op (i := 17) kz (wpOp_store bH dC (oi := 2) (cs := [.int .i64 (IntKind.i64.wrap ((D.f 0).n)), .slice none 0 0, .bool false, .slice none 0 0, .slice none 0 0, .int .i64 0, .slice none 0 0, .bool (((D.f 1).A).isNone), .slice aj (k1_ + 1) aw, .slice none 0 0]) kz fun gg bn cH dD => ?_)
    clear dC bH
    refine ⟨fun h => absurd rfl h, ?_⟩
    refine anyC_done kz ?_ _
    refine then_normal ?_
    refine go_region [0, 1] kz ?_
    have fz : World.ownsRow gg 0 37 5 (.slice aj (k1_ + 1) aw) (k1_ + 1) (xs1_ ++ [.int .i64 0, .slice none 0 0, .bool false, .slice none 0 0, .slice none 0 0]) := cH.own 0 _ rfl
    obtain ⟨fA, dE⟩ := own_addr fz (by omega)
    refine of_op (wpOp_index dD (t := 34) (A := aj) (m := (k1_ + 1)) (q := ((k1_ : Nat) : Int)) (d := 52) kz (e := 37) (size := 5) (bytes := 88) kz (b := fA) (o := 0) (j := k1_) dE (rfl) (by omega) fun iL dF => ?_)
    clear dD
    refine of_op (wpOp_storeR cH dF (k := 0) (g := fA) (o := k1_ * 5) (c := aw) (m := (k1_ + 1)) (size := 5) (e := 37) (A := aj) (xs := (xs1_ ++ [.int .i64 0, .slice none 0 0, .bool false, .slice none 0 0, .slice none 0 0])) (vs := [.int .i64 aE, .slice aJ aF.length aK, .bool aG, .slice aL aH.length aM, .slice aN aI.length aO]) kz rfl dE (by simp only [List.length_cons, List.length_nil]; omega) fun iM bo dG dH => ?_)
    clear dF cH
    have fB : (⟨aj, aw, 37, 5, k1_ + 1, splice (xs1_ ++ [.int .i64 0, .slice none 0 0, .bool false, .slice none 0 0, .slice none 0 0]) (k1_ * 5) [.int .i64 aE, .slice aJ aF.length aK, .bool aG, .slice aL aH.length aM, .slice aN aI.length aO]⟩ : Rw) = ⟨aj, aw, 37, 5, k1_ + 1, xs1_ ++ [.int .i64 aE, .slice aJ aF.length aK, .bool aG, .slice aL aH.length aM, .slice aN aI.length aO]⟩ := by rw [splice_last (by rw [hT1_.xslen, List.length_take, len_range]; omega)]
    obtain ⟨dI, bp⟩ := dG.rowEq 0 [⟨aj, aw, 37, 5, k1_ + 1, xs1_ ++ [.int .i64 aE, .slice aJ aF.length aK, .bool aG, .slice aL aH.length aM, .slice aN aI.length aO]⟩, ⟨some ⟨em, 0, none⟩, 1, 37, 5, 1, [.int .i64 0, .slice none 0 0, .bool false, .slice none 0 0, .slice none 0 0]⟩] fB
    clear dG
    refine wpOps_nil ?_
    refine block_normal ?_
    refine then_normal ?_
    refine go_region [0, 1] kz ?_
    refine go_rn [0, 1] [] [(0, .p 0 0), (2, .p 1 0), (3, .p 3 0), (29, .v (.int .i64 (((D.f 1).l : Nat) : Int))), (30, .v (.int .i64 (IntKind.i64.wrap (((k1_ : Nat) : Int) + 1))))] dI dH fun iN fC => ?_
    clear dH
    refine wpOps_nil (then_normal ?_)
    obtain ⟨dJ, fD, bq⟩ := dI.cutB fC 4 [⟨b, o, [.int .i16 v, .int .i32 ((D.f 0).n), .slice ((D.f 1).A) ((D.f 1).l) ((D.f 1).c), .map D.m], false⟩, ⟨b4, 0, [.int .i64 0, .slice none 0 0, .bool false, .slice none 0 0, .slice none 0 0], true⟩, ⟨aa, 0, [.int .i64 (IntKind.i64.wrap ((D.f 0).n)), .slice none 0 0, .bool false, .slice none 0 0, .slice none 0 0, .int .i64 0, .slice none 0 0, .bool (((D.f 1).A).isNone), .slice aj (k1_ + 1) aw, .slice none 0 0], true⟩, ⟨bC, 0, [.int .i64 0, .slice none 0 0, .bool false, .slice (some ⟨aa, 0, none⟩) 2 2, .slice none 0 0], true⟩] [(0, .p 0 0), (2, .p 1 0), (3, .p 3 0), (29, .v (.int .i64 (((D.f 1).l : Nat) : Int))), (30, .v (.int .i64 (IntKind.i64.wrap (((k1_ : Nat) : Int) + 1))))]
    obtain ⟨fE, bt⟩ := fD.cutR 1 [⟨aj, aw, 37, 5, k1_ + 1, xs1_ ++ [.int .i64 aE, .slice aJ aF.length aK, .bool aG, .slice aL aH.length aM, .slice aN aI.length aO]⟩]
    have fF : IntKind.i64.wrap (((k1_ : Nat) : Int) + 1) = ((k1_ + 1 : Nat) : Int) := wrap_succ (by omega)
    rw [fF] at dJ
    exact ⟨(D.f 1).l - (k1_ + 1), by omega, k1_ + 1, aj, aw, xs1_ ++ [Value.int .i64 aE, .slice aJ aF.length aK, .bool aG, .slice aL aH.length aM, .slice aN aI.length aO], (css1_ ++ [[Value.int .i64 aE, .slice aJ aF.length aK, .bool aG, .slice aL aH.length aM, .slice aN aI.length aO]]), rfl, by omega, by rw [take_range (by omega)]; exact (hT1_.move ((((((((((((aD.trans ab).trans ac).trans af).trans aB).trans av).trans ah).trans ax).trans bn).trans bo).trans bp).trans bq).trans bt).step immM ((((((((((((aD.trans ab).trans ac).trans af).trans aB).trans av).trans ah).trans ax).trans bn).trans bo).trans bp).trans bq).trans bt).to').snoc (x := (fun i => trCreatePartitionsResponseTopic ((D.f 1).f i)) k1_) (cD.move ((((((ah.trans ax).trans bn).trans bo).trans bp).trans bq).trans bt).step immM ((((((ah.trans ax).trans bn).trans bo).trans bp).trans bq).trans bt).to'), dJ.pk, fE, (((((((((((((eh.trans aD).trans ab).trans ac).trans af).trans aB).trans av).trans ah).trans ax).trans bn).trans bo).trans bp).trans bq).trans bt)⟩
   ·
    refine (wpOp_lit ag bG (e := 37) (size := 5) (len := 1) (cs := [.int .i64 0, .slice none 0 0, .bool false, .slice none 0 0, .slice none 0 0]) (d := 48) kz kz fun eo iO iP gC gD ay ai dK => ?_)
    clear bG
    have fG := TT.ofW ay ai
    refine ⟨fun _ => fG, ?_⟩
    refine anyC_op (i := 11) kz (wpOp_call dK (f := 143) (vs := [.pointer (some ⟨cQ, cR + k1_ * 4, none⟩)]) (d := 46) kz Tryz.call143 (tlCreatePartitionsResponseTopic 0 ((D.f 1).f k1_) _ _ _ _ (cB.move ai.step nilM ai.imm) (mvCreatePartitionsResponseTopic _ ai.step nilM ai.imm (g2e k1_ (by omega)))) ?_)
    rintro e_ iQ ⟨gE, rfl, fH, cI⟩
    have cJ := fH.move (Step.refl _ Nil) nilM (ai.laid (G := F) cI)
    obtain ⟨aP, aQ, aR, aS, aT, aU, aV, aW, aX, aY, aZ, gF, gG, cK, gh, gi, iR, iS⟩ := cJ.open_
    rw [cK] at cJ
    have gj := gh.small
    have gk := gi.small
    rw [cK]
    refine ⟨_, rfl, fun iT dL => ?_⟩
    have bu := ai.next_nil cI
    have aC := ai.frN cI
    clear dK
    have fI := TT.ofW (ay.trans aC) bu
    refine ⟨fun _ => fI, ?_⟩
    refine anyC_op (i := 14) kz (wpOp_append bu dL (k := 0) (d := 49) (t := 34) (e := 37) (size := 5) (bytes := 88) (A := A1_) (As := (some ⟨eo, 0, none⟩)) (m0 := k1_) (c := c1_) (m := 1) (cs := 1) (xs := xs1_) (news := [.int .i64 0, .slice none 0 0, .bool false, .slice none 0 0, .slice none 0 0]) kz kz rfl (own_src (bu.own 1 _ rfl) (allOne_ok kz)) (own_cap (bu.own 1 _ rfl)) (by omega) fun ak az iU iV aA bI dM => ?_)
    clear dL bu
    have fJ := TT.ofW ((ay.trans aC).trans aA) bI
    refine ⟨fun _ => fJ, ?_⟩
    refine anyC_op (i := 15) kz (wpOp_index dM (t := 34) (A := (some ⟨aa, 0, none⟩)) (m := 2) (q := 1) (d := 50) kz (e := 37) (size := 5) (bytes := 88) (j := 1) kz (b := aa) (o := 0) rfl rfl (by decide) fun iW dN => ?_)
    clear dM
    have dO := dN.recast 50 (.v (.pointer (some ⟨aa, 0 + 1 * 5, none⟩))) (.p 2 5) rfl rfl (Nat.le_of_ble_eq_true (n := 3) rfl)
    clear dN
    have dP := dO.pk (env' := [(0, .p 0 0), (2, .p 1 0), (3, .p 3 0), (29, .v (.int .i64 (((D.f 1).l : Nat) : Int))), (30, .v (.int .i64 ((k1_ : Nat) : Int))), (36, .v (.slice (some ⟨aa, 0, none⟩) 2 2)), (39, .v (.slice A1_ k1_ c1_)), (43, .v (.slice ((D.f 1).A) ((D.f 1).l) ((D.f 1).c))), (44, .v (.int .i64 ((k1_ : Nat) : Int))), (47, .v (.int .i64 ((k1_ : Nat) : Int))), (45, .v (.pointer (some ⟨cQ, cR + k1_ * 4, none⟩))), (48, .v (.slice (some ⟨eo, 0, none⟩) 1 1)), (46, .v (.agg #[.int .i64 aP, .slice aU aQ.length aV, .bool aR, .slice aW aS.length aX, .slice aY aT.length aZ])), (49, .v (.slice ak (k1_ + 1) az)), (50, .p 2 5)])
    clear dO
    have dQ := TT.ofW ((ay.trans aC).trans aA) bI
    refine ⟨fun _ => dQ, ?_⟩
    refine go_rnD [16] [(0, .p 0 0), (2, .p 1 0), (3, .p 3 0), (29, .v (.int .i64 (((D.f 1).l : Nat) : Int))), (30, .v (.int .i64 ((k1_ : Nat) : Int))), (46, .v (.agg #[.int .i64 aP, .slice aU aQ.length aV, .bool aR, .slice aW aS.length aX, .slice aY aT.length aZ])), (47, .v (.int .i64 ((k1_ : Nat) : Int))), (49, .v (.slice ak (k1_ + 1) az)), (51, .p 2 8)] 1 (panicFree_then (panicFree_block (panicFree_then (panicFree_then (panicFree_block (panicFree_then panicFree_body)))))) (fun _ h => h.cells) dQ dP fun iX dR => ?_
    clear dP
    refine anyC_op (i := 17) kz (wpOp_store bI dR (oi := 2) (cs := [.int .i64 (IntKind.i64.wrap ((D.f 0).n)), .slice none 0 0, .bool false, .slice none 0 0, .slice none 0 0, .int .i64 0, .slice none 0 0, .bool (((D.f 1).A).isNone), .slice ak (k1_ + 1) az, .slice none 0 0]) kz fun gl bw cL dS => ?_)
    clear dR bI
    refine ⟨fun h => absurd rfl h, ?_⟩
    refine anyC_done kz ?_ _
    refine then_normal ?_
    refine go_region [0, 1] kz ?_
    have fK : World.ownsRow gl 0 37 5 (.slice ak (k1_ + 1) az) (k1_ + 1) (xs1_ ++ [.int .i64 0, .slice none 0 0, .bool false, .slice none 0 0, .slice none 0 0]) := cL.own 0 _ rfl
    obtain ⟨fL, dT⟩ := own_addr fK (by omega)
    refine of_op (wpOp_index dS (t := 34) (A := ak) (m := (k1_ + 1)) (q := ((k1_ : Nat) : Int)) (d := 52) kz (e := 37) (size := 5) (bytes := 88) kz (b := fL) (o := 0) (j := k1_) dT (rfl) (by omega) fun iY dU => ?_)
    clear dS
    refine of_op (wpOp_storeR cL dU (k := 0) (g := fL) (o := k1_ * 5) (c := az) (m := (k1_ + 1)) (size := 5) (e := 37) (A := ak) (xs := (xs1_ ++ [.int .i64 0, .slice none 0 0, .bool false, .slice none 0 0, .slice none 0 0])) (vs := [.int .i64 aP, .slice aU aQ.length aV, .bool aR, .slice aW aS.length aX, .slice aY aT.length aZ]) kz rfl dT (by simp only [List.length_cons, List.length_nil]; omega) fun iZ bx dV dW => ?_)
    clear dU cL
    have fM : (⟨ak, az, 37, 5, k1_ + 1, splice (xs1_ ++ [.int .i64 0, .slice none 0 0, .bool false, .slice none 0 0, .slice none 0 0]) (k1_ * 5) [.int .i64 aP, .slice aU aQ.length aV, .bool aR, .slice aW aS.length aX, .slice aY aT.length aZ]⟩ : Rw) = ⟨ak, az, 37, 5, k1_ + 1, xs1_ ++ [.int .i64 aP, .slice aU aQ.length aV, .bool aR, .slice aW aS.length aX, .slice aY aT.length aZ]⟩ := by rw [splice_last (by rw [hT1_.xslen, List.length_take, len_range]; omega)]
    obtain ⟨dX, bz⟩ := dV.rowEq 0 [⟨ak, az, 37, 5, k1_ + 1, xs1_ ++ [.int .i64 aP, .slice aU aQ.length aV, .bool aR, .slice aW aS.length aX, .slice aY aT.length aZ]⟩, ⟨some ⟨eo, 0, none⟩, 1, 37, 5, 1, [.int .i64 0, .slice none 0 0, .bool false, .slice none 0 0, .slice none 0 0]⟩] fM
    clear dV
    refine wpOps_nil ?_
    refine block_normal ?_
    refine then_normal ?_
    refine go_region [0, 1] kz ?_
    refine go_rn [0, 1] [] [(0, .p 0 0), (2, .p 1 0), (3, .p 3 0), (29, .v (.int .i64 (((D.f 1).l : Nat) : Int))), (30, .v (.int .i64 (IntKind.i64.wrap (((k1_ : Nat) : Int) + 1))))] dX dW fun i6 fN => ?_
    clear dW
    refine wpOps_nil (then_normal ?_)
    obtain ⟨dY, fO, bA⟩ := dX.cutB fN 4 [⟨b, o, [.int .i16 v, .int .i32 ((D.f 0).n), .slice ((D.f 1).A) ((D.f 1).l) ((D.f 1).c), .map D.m], false⟩, ⟨b4, 0, [.int .i64 0, .slice none 0 0, .bool false, .slice none 0 0, .slice none 0 0], true⟩, ⟨aa, 0, [.int .i64 (IntKind.i64.wrap ((D.f 0).n)), .slice none 0 0, .bool false, .slice none 0 0, .slice none 0 0, .int .i64 0, .slice none 0 0, .bool (((D.f 1).A).isNone), .slice ak (k1_ + 1) az, .slice none 0 0], true⟩, ⟨bC, 0, [.int .i64 0, .slice none 0 0, .bool false, .slice (some ⟨aa, 0, none⟩) 2 2, .slice none 0 0], true⟩] [(0, .p 0 0), (2, .p 1 0), (3, .p 3 0), (29, .v (.int .i64 (((D.f 1).l : Nat) : Int))), (30, .v (.int .i64 (IntKind.i64.wrap (((k1_ : Nat) : Int) + 1))))]
    obtain ⟨fP, bB⟩ := fO.cutR 1 [⟨ak, az, 37, 5, k1_ + 1, xs1_ ++ [.int .i64 aP, .slice aU aQ.length aV, .bool aR, .slice aW aS.length aX, .slice aY aT.length aZ]⟩]
    have fQ : IntKind.i64.wrap (((k1_ : Nat) : Int) + 1) = ((k1_ + 1 : Nat) : Int) := wrap_succ (by omega)
    rw [fQ] at dY
    exact ⟨(D.f 1).l - (k1_ + 1), by omega, k1_ + 1, ak, az, xs1_ ++ [Value.int .i64 aP, .slice aU aQ.length aV, .bool aR, .slice aW aS.length aX, .slice aY aT.length aZ], (css1_ ++ [[Value.int .i64 aP, .slice aU aQ.length aV, .bool aR, .slice aW aS.length aX, .slice aY aT.length aZ]]), rfl, by omega, by rw [take_range (by omega)]; exact (hT1_.move ((((((((((((aD.trans ab).trans ac).trans af).trans aB).trans ay).trans aC).trans aA).trans bw).trans bx).trans bz).trans bA).trans bB).step immM ((((((((((((aD.trans ab).trans ac).trans af).trans aB).trans ay).trans aC).trans aA).trans bw).trans bx).trans bz).trans bA).trans bB).to').snoc (x := (fun i => trCreatePartitionsResponseTopic ((D.f 1).f i)) k1_) (cJ.move (((((aA.trans bw).trans bx).trans bz).trans bA).trans bB).step immM (((((aA.trans bw).trans bx).trans bz).trans bA).trans bB).to'), dY.pk, fP, (((((((((((((eh.trans aD).trans ab).trans ac).trans af).trans aB).trans ay).trans aC).trans aA).trans bw).trans bx).trans bz).trans bA).trans bB)⟩
 ·
  have gH := of_decide_eq_false ei
  refine wp_exit ?_
  refine then_exit ?_
  refine then_exit ?_
  refine block_exit ?_
  refine then_normal ?_
  refine go_seq_region [0, 1, 2, 3, 4] kz ?_
  refine go_rn [0, 1, 2] [3, 4] [(2, .p 1 0), (3, .p 3 0), (74, .p 0 3)] ao b8 fun i7 dZ => ?_
  clear b8
  refine of_op (wpOp_mkf dZ (v := .func (.func 144) #[] #[.pointer (some ⟨bC, 0, none⟩)]) (d := 75) kz fun ja d5 => ?_)
  clear dZ
  refine of_op (wpOp_call d5 (f := 122) (vs := [.pointer (some ⟨b, o + 3, none⟩), .func (.func 144) #[] #[.pointer (some ⟨bC, 0, none⟩)]]) (d := 76) kz Tryz.call122 (kEachTell (F := (Imm F w gU [⟨b, o, [.int .i16 v, .int .i32 ((D.f 0).n), .slice ((D.f 1).A) ((D.f 1).l) ((D.f 1).c), .map D.m], false⟩, ⟨b4, 0, [.int .i64 0, .slice none 0 0, .bool false, .slice none 0 0, .slice none 0 0], true⟩, ⟨aa, 0, [.int .i64 (IntKind.i64.wrap ((D.f 0).n)), .slice none 0 0, .bool false, .slice none 0 0, .slice none 0 0, .int .i64 0, .slice none 0 0, .bool (((D.f 1).A).isNone), .slice A1_ k1_ c1_, .slice none 0 0], true⟩, ⟨bC, 0, [.int .i64 0, .slice none 0 0, .bool false, .slice (some ⟨aa, 0, none⟩) 2 2, .slice none 0 0], true⟩] [⟨A1_, c1_, 37, 5, k1_, xs1_⟩])) Tryz.call144 tCreatePartitionsResponse_1 ((hat.one 3 rfl).move ao.step nilM ao.imm) (g3.move ao.step nilM ao.imm) (Str.of ao 3 rfl) (imm_n 3 rfl) g3l) ?_)
  rintro e_ jb ⟨rfl, al, am, ep, fR, fS⟩
  obtain ⟨bJ, d6, fT⟩ := ao.wrote 3 [⟨b, o, [.int .i16 v, .int .i32 ((D.f 0).n), .slice ((D.f 1).A) ((D.f 1).l) ((D.f 1).c), .map D.m], false⟩, ⟨b4, 0, [.int .i64 0, .slice none 0 0, .bool false, .slice none 0 0, .slice none 0 0], true⟩, ⟨aa, 0, [.int .i64 (IntKind.i64.wrap ((D.f 0).n)), .slice none 0 0, .bool false, .slice none 0 0, .slice none 0 0, .int .i64 0, .slice none 0 0, .bool (((D.f 1).A).isNone), .slice A1_ k1_ c1_, .slice none 0 0], true⟩, ⟨bC, 0, [.int .i64 0, .slice none 0 0, .bool false, .slice (some ⟨aa, 0, none⟩) 2 2, .slice al D.u.length am], true⟩] rfl fS ep
  have d7 := fR.move (Step.refl _ Nil) nilM (fun b_ o_ h_ hb_ => fT (G := F) b_ o_ (.inr h_) hb_)
  refine ⟨_, rfl, fun jc fU => ?_⟩
  have d8 := (EnvOk.places (tb' := [⟨b, o, [.int .i16 v, .int .i32 ((D.f 0).n), .slice ((D.f 1).A) ((D.f 1).l) ((D.f 1).c), .map D.m], false⟩, ⟨b4, 0, [.int .i64 0, .slice none 0 0, .bool false, .slice none 0 0, .slice none 0 0], true⟩, ⟨aa, 0, [.int .i64 (IntKind.i64.wrap ((D.f 0).n)), .slice none 0 0, .bool false, .slice none 0 0, .slice none 0 0, .int .i64 0, .slice none 0 0, .bool (((D.f 1).A).isNone), .slice A1_ k1_ c1_, .slice none 0 0], true⟩, ⟨bC, 0, [.int .i64 0, .slice none 0 0, .bool false, .slice (some ⟨aa, 0, none⟩) 2 2, .slice al D.u.length am], true⟩]) fU (show Pl [⟨b, o, [.int .i16 v, .int .i32 ((D.f 0).n), .slice ((D.f 1).A) ((D.f 1).l) ((D.f 1).c), .map D.m], false⟩, ⟨b4, 0, [.int .i64 0, .slice none 0 0, .bool false, .slice none 0 0, .slice none 0 0], true⟩, ⟨aa, 0, [.int .i64 (IntKind.i64.wrap ((D.f 0).n)), .slice none 0 0, .bool false, .slice none 0 0, .slice none 0 0, .int .i64 0, .slice none 0 0, .bool (((D.f 1).A).isNone), .slice A1_ k1_ c1_, .slice none 0 0], true⟩, ⟨bC, 0, [.int .i64 0, .slice none 0 0, .bool false, .slice (some ⟨aa, 0, none⟩) 2 2, .slice none 0 0], true⟩] [⟨b, o, [.int .i16 v, .int .i32 ((D.f 0).n), .slice ((D.f 1).A) ((D.f 1).l) ((D.f 1).c), .map D.m], false⟩, ⟨b4, 0, [.int .i64 0, .slice none 0 0, .bool false, .slice none 0 0, .slice none 0 0], true⟩, ⟨aa, 0, [.int .i64 (IntKind.i64.wrap ((D.f 0).n)), .slice none 0 0, .bool false, .slice none 0 0, .slice none 0 0, .int .i64 0, .slice none 0 0, .bool (((D.f 1).A).isNone), .slice A1_ k1_ c1_, .slice none 0 0], true⟩, ⟨bC, 0, [.int .i64 0, .slice none 0 0, .bool false, .slice (some ⟨aa, 0, none⟩) 2 2, .slice al D.u.length am], true⟩] from ⟨rfl, rfl, ⟨rfl, rfl, ⟨rfl, rfl, ⟨rfl, rfl, trivial⟩⟩⟩⟩)).pk (env' := [(76, .v (.tuple #[])), (2, .p 1 0), (3, .p 3 0), (74, .p 0 3), (75, .v (.func (.func 144) #[] #[.pointer (some ⟨bC, 0, none⟩)]))])
  clear d5
  refine wpOps_nil (then_normal ?_)
  refine go_seq_region [0, 1, 2] kz ?_
  refine go_rn [0, 1] [2] [(2, .p 1 0), (3, .p 3 0), (78, .v (.slice al D.u.length am))] bJ d8 fun jd d9 => ?_
  clear d8
  refine of_op (wpOp_call d9 (f := 124) (vs := [.slice al D.u.length am]) (d := 79) kz Tryz.call124 (tSorted d7 g3.sorted) ?_)
  rintro e_ je ⟨rfl, ea⟩
  refine ⟨_, rfl, fun jf eb => ?_⟩
  have cM := bJ.next_nil ea
  have bK := bJ.frN ea
  clear d9 bJ
  refine wpOps_nil (then_normal ?_)
  refine go_seq_region [0, 1] kz ?_
  refine go_rn [0] [1] [(2, .p 1 0), (80, .v (.agg #[.int .i64 0, .slice none 0 0, .bool false, .slice (some ⟨aa, 0, none⟩) 2 2, .slice al D.u.length am]))] cM eb fun jg ec => ?_
  clear eb
  refine of_op (wpOp_store cM ec (oi := 1) (cs := [.int .i64 0, .slice none 0 0, .bool false, .slice (some ⟨aa, 0, none⟩) 2 2, .slice al D.u.length am]) kz fun fV bL cN fW => ?_)
  clear ec cM
  refine wpOps_nil (then_normal ?_)
  refine wp_ret ?_
  refine leave fW cN.cells (v := .agg #[.int .i64 0, .slice none 0 0, .bool false, .slice (some ⟨aa, 0, none⟩) 2 2, .slice al D.u.length am]) kz ?_
  have ee := (hT1_.move ((d6.trans bK).trans bL).step immM ((d6.trans bK).trans bL).to')
  rw [take_all (by omega)] at ee
  exact tell_end (u := D.u) (l := [.mk (IntKind.i64.wrap (D.f 0).n) [] false [] [], .mk 0 [] (D.f 1).A.isNone ((List.range (D.f 1).l).map fun i => trCreatePartitionsResponseTopic ((D.f 1).f i)) []]) (css := [[.int .i64 (IntKind.i64.wrap ((D.f 0).n)), .slice none 0 0, .bool false, .slice none 0 0, .slice none 0 0], [.int .i64 0, .slice none 0 0, .bool (((D.f 1).A).isNone), .slice A1_ k1_ c1_, .slice none 0 0]]) cN 2 rfl ⟨(show TreeR _ (Imm F w fV [⟨b, o, [.int .i16 v, .int .i32 ((D.f 0).n), .slice ((D.f 1).A) ((D.f 1).l) ((D.f 1).c), .map D.m], false⟩, ⟨b4, 0, [.int .i64 0, .slice none 0 0, .bool false, .slice (some ⟨aa, 0, none⟩) 2 2, .slice al D.u.length am], true⟩, ⟨aa, 0, [.int .i64 (IntKind.i64.wrap ((D.f 0).n)), .slice none 0 0, .bool false, .slice none 0 0, .slice none 0 0, .int .i64 0, .slice none 0 0, .bool (((D.f 1).A).isNone), .slice A1_ k1_ c1_, .slice none 0 0], true⟩, ⟨bC, 0, [.int .i64 0, .slice none 0 0, .bool false, .slice (some ⟨aa, 0, none⟩) 2 2, .slice al D.u.length am], true⟩] [⟨A1_, c1_, 37, 5, k1_, xs1_⟩]) _ _ from (TreeR.mk (n := IntKind.i64.wrap ((D.f 0).n)) (b := false) (s := []) (l := []) (u := []) (fun _ => []) (Octs.nil _ _) (Slots.nil _ _ _ _) (fun i_ x_ h_ => by simp at h_) (TagsR.nil _ _))).move (Step.refl _ Nil) nilM immOut, tell_list cN (k := 0) rfl ee (by rw [len_range]; omega) (by rw [len_range]; omega), trivial⟩ ((show TagsR _ (Imm F w fV [⟨b, o, [.int .i16 v, .int .i32 ((D.f 0).n), .slice ((D.f 1).A) ((D.f 1).l) ((D.f 1).c), .map D.m], false⟩, ⟨b4, 0, [.int .i64 0, .slice none 0 0, .bool false, .slice (some ⟨aa, 0, none⟩) 2 2, .slice al D.u.length am], true⟩, ⟨aa, 0, [.int .i64 (IntKind.i64.wrap ((D.f 0).n)), .slice none 0 0, .bool false, .slice none 0 0, .slice none 0 0, .int .i64 0, .slice none 0 0, .bool (((D.f 1).A).isNone), .slice A1_ k1_ c1_, .slice none 0 0], true⟩, ⟨bC, 0, [.int .i64 0, .slice none 0 0, .bool false, .slice (some ⟨aa, 0, none⟩) 2 2, .slice al D.u.length am], true⟩] [⟨A1_, c1_, 37, 5, k1_, xs1_⟩]) _ _ _ from (d7.move (bK.trans bL).step immM (bK.trans bL).to')).move (Step.refl _ Nil) nilM immOut)
end Go.Proofs.YtgolpmkenmedoaaGreatDoor.ME
namespace Go.Proofs.YtgolpmkenmedoaaGreatDoor.ME
open Go
set_option linter.unusedVariables false
set_option linter.unusedSimpArgs false
theorem i64_at {t : Tree} (h : t.i64s) (i : Nat) : (t.at_ i).i64s := by
 cases t with
 | mk n s b l u =>
  have h1 : ∀ x ∈ l, x.i64s := i64ss_mem h.2
  show (l.getD i .zero).i64s
  rw [List.getD_eq_getElem?_getD]
  cases hx : l[i]? with
  | none => exact ⟨by decide, trivial⟩
  | some x => exact h1 x (List.mem_of_getElem? hx)
theorem i64_thing {t x : Tree} (h : t.i64s) {i : Nat} (hx : (things t.L)[i]? = some x) : x.i64s := by
 cases t with
 | mk n s b l u =>
  have h1 : ∀ x ∈ l, x.i64s := i64ss_mem h.2
  exact h1 x (List.mem_of_mem_take (List.mem_of_getElem? hx))
theorem pres_has {k x1 x2 x3 x5 x6 v : Int} {s : List Fld} {flex : Bool} {x : Tree} : Fld.pres (.mk k x1 x2 x3 (-1) x5 x6 s) v flex x = (decide (x1 ≤ v) && (decide (x2 < 0) || decide (v ≤ x2))) := by simp [Fld.pres, Fld.tag, Fld.has]
section
variable {T : List Fld → Tree → Tree → Prop} {U : List Fld → Tree → Prop} {v k x1 x2 x3 x4 x5 x6 n : Int} {sub : List Fld} {x T' : Tree} {A : Option Addr} {s : ByteArray} {o : Bs} {b : Bool}
theorem to0_num (hn : n = numberI k x.N) (hk : k < 7 := by decide) : ToF0 T v (.mk k x1 x2 (-1) x4 x5 x6 sub) x (.mk n [] false [] []) := by
 cases x
 exact ⟨fun h => by omega, fun _ h => by omega, fun _ h => by omega, fun _ h => by omega, fun _ _ _ _ _ _ => hn⟩
theorem to_num (hn : n = numberI k x.N) (hk : k < 7 := by decide) : ToF T v (.mk k x1 x2 (-1) x4 x5 x6 sub) x (.mk n [] false [] []) := ⟨to0_num hn hk, fun h => absurd (show k = 11 from h) (by omega)⟩
theorem to0_text (hs : o = whole x.S) : ToF0 T v (.mk 8 x1 x2 (-1) x4 x5 x6 sub) x (.mk 0 o false [] []) := by
 cases x with
 | mk a1 a2 a3 a4 a5 =>
  exact ⟨fun _ => nul_no.symm, fun _ _ => hs, fun _ h => by omega, fun _ h => by omega, fun _ _ h => absurd rfl h⟩
theorem to_text (h : s = bs T'.S) (h1 : T'.S = whole x.S) : ToF T v (.mk 8 x1 x2 (-1) x4 x5 x6 sub) x (.mk 0 (sb s) false [] []) :=
 ⟨to0_text (by rw [h, sb_bs, h1]), fun h => absurd (show (8 : Int) = 11 from h) (by decide)⟩
theorem to_textN (h : s = bs (octOf T') ∧ A.isNone = T'.null) (h1 : octOf T' = (if Fld.nul (.mk 8 x1 x2 x3 x4 x5 x6 sub) v x = true then [] else whole x.S) ∧ T'.null = Fld.nul (.mk 8 x1 x2 x3 x4 x5 x6 sub) v x) : ToF T v (.mk 8 x1 x2 x3 x4 x5 x6 sub) x (textT A s) := by
 refine ⟨?_, fun h => absurd (show (8 : Int) = 11 from h) (by decide)⟩
 have e : textT A s = .mk 0 (if Fld.nul (.mk 8 x1 x2 x3 x4 x5 x6 sub) v x = true then [] else whole x.S) (Fld.nul (.mk 8 x1 x2 x3 x4 x5 x6 sub) v x) [] [] := by
  unfold textT
  rw [h.2, h1.2, h.1, sb_bs, h1.1]
  split <;> rfl
 rw [e]
 cases x with
 | mk a1 a2 a3 a4 a5 =>
  exact ⟨fun _ => rfl, fun hn _ => by rw [if_neg (by rw [hn]; decide)]; rfl, fun _ h => by omega, fun _ h => by omega, fun _ _ h => absurd rfl h⟩
theorem to0_part {g : Tree} (hg : g.null = false) (h : T sub x g) : ToF0 T v (.mk 10 x1 x2 (-1) x4 x5 x6 sub) x g := by
 cases x with
 | mk a1 a2 a3 a4 a5 =>
  cases g with
  | mk g1 g2 g3 g4 g5 =>
   exact ⟨fun _ => by rw [nul_no]; exact hg, fun _ h => by omega, fun _ h => by omega, fun _ _ => h, fun _ _ _ _ h => absurd rfl h⟩
theorem to_list {l : Nat} {g : Nat → Tree} {W : Tree → Tree} (hb : x3 ≥ 0 ∧ v ≥ x3 → b = Fld.nul (.mk 11 x1 x2 x3 x4 x5 x6 sub) v x) (hl : l = (lst T').length) (hlst : lst T' = (if Fld.nul (.mk 11 x1 x2 x3 (-1) x5 x6 sub) v x = true then [] else things x.L).map W)
  (he : ∀ i y, i < l → (lst T').getD i .zero = W y → (things x.L)[i]? = some y → ToF0 T v (.mk x6 x1 x2 (-1) (-1) x5 x6 sub) y (g i)) : ToF T v (.mk 11 x1 x2 x3 x4 x5 x6 sub) x (.mk 0 [] b ((List.range l).map g) []) := by
 have hn : Fld.nul (.mk 11 x1 x2 x3 (-1) x5 x6 sub) v x = Fld.nul (.mk 11 x1 x2 x3 x4 x5 x6 sub) v x := by cases x; rfl
 refine ⟨?_, fun _ hnn => ?_⟩
 ·cases x with
  | mk a1 a2 a3 a4 a5 =>
   refine ⟨fun h => hb ?_, fun _ h => by omega, fun _ h => by omega, fun _ h => by omega, fun _ _ _ _ _ h => absurd rfl h⟩
   rcases h with h | h | h
   ·omega
   ·omega
   ·exact h
 ·rw [hn, hnn, if_neg (by decide)] at hlst
  have hll : l = (things x.L).length := by rw [hl, hlst, List.length_map]
  refine ⟨by show ((List.range l).map g).length = _; rw [List.length_map, List.length_range, hll], fun i y z hy hz => ?_⟩
  have hi : i < l := by rw [hll]; exact (List.getElem?_eq_some_iff.1 hy).1
  have hz' : ((List.range l).map g)[i]? = some z := hz
  rw [List.getElem?_map, List.getElem?_range hi] at hz'
  obtain rfl := Option.some.inj hz'
  refine he i y hi ?_ hy
  rw [hlst, List.getD_eq_getElem?_getD, List.getElem?_map, hy]
  rfl
end
end Go.Proofs.YtgolpmkenmedoaaGreatDoor.ME
namespace Go.Proofs.YtgolpmkenmedoaaGreatDoor.ME
open Go
open Go.RowKit
set_option linter.unusedVariables false
set_option linter.unusedSimpArgs false
set_option maxRecDepth 20000
theorem toldCreatePartitionsResponseTopic (v : Int) (h0 : 0 ≤ v) (t Y : Tree) (hY : ∀ i, Y.at_ i = (fitT v 7 [(Fld.mk 8 0 (-1) (-1) (-1) 0 0 []), (Fld.mk 2 0 (-1) (-1) (-1) 0 0 []), (Fld.mk 8 0 (-1) 0 (-1) 0 0 [])] t).at_ i) (hU : Y.U = (fitT v 7 [(Fld.mk 8 0 (-1) (-1) (-1) 0 0 []), (Fld.mk 2 0 (-1) (-1) (-1) 0 0 []), (Fld.mk 8 0 (-1) 0 (-1) 0 0 [])] t).U) (hi : t.i64s) (D : DV) (h : rvCreatePartitionsResponseTopic v D Y) : ToldP v (decide (v ≥ sCreatePartitionsResponseX)) 7 [(Fld.mk 8 0 (-1) (-1) (-1) 0 0 []), (Fld.mk 2 0 (-1) (-1) (-1) 0 0 []), (Fld.mk 8 0 (-1) 0 (-1) 0 0 [])] t (trCreatePartitionsResponseTopic D) := by
 unfold rvCreatePartitionsResponseTopic at h
 obtain ⟨r0, r1, r2, rU, _⟩ := h
 refine ⟨rfl, fun i f y hf hy => ?_, ?_⟩
 ·match i, hf, hy with
  | 0, hf, hy =>
   obtain rfl := Option.some.inj hf
   obtain rfl := Option.some.inj hy
   have e := hY 0
   refine ⟨fun hp => ?_, fun hp => ?_⟩
   ·have hc : True := trivial
    have r := r0
    rw [e] at r
    exact to_text r (fit_t (v := v) (d := 6) (t := t) (show [(Fld.mk 8 0 (-1) (-1) (-1) 0 0 []), (Fld.mk 2 0 (-1) (-1) (-1) 0 0 []), (Fld.mk 8 0 (-1) 0 (-1) 0 0 [])][0]? = _ from rfl) (by decide))
   ·rw [pres_has] at hp; simp at hp; omega
  | 1, hf, hy =>
   obtain rfl := Option.some.inj hf
   obtain rfl := Option.some.inj hy
   have e := hY 1
   refine ⟨fun hp => ?_, fun hp => ?_⟩
   ·have hc : True := trivial
    have r := r1
    rw [e] at r
    rw [(fit_N (v := v) (d := 6) (t := t) (show [(Fld.mk 8 0 (-1) (-1) (-1) 0 0 []), (Fld.mk 2 0 (-1) (-1) (-1) 0 0 []), (Fld.mk 8 0 (-1) 0 (-1) 0 0 [])][1]? = _ from rfl) (by decide))] at r
    exact to_num (by rw [r, n64_16]; rfl)
   ·rw [pres_has] at hp; simp at hp; omega
  | 2, hf, hy =>
   obtain rfl := Option.some.inj hf
   obtain rfl := Option.some.inj hy
   have e := hY 2
   refine ⟨fun hp => ?_, fun hp => ?_⟩
   ·have hc : True := trivial
    have r := r2
    rw [e] at r
    exact to_textN r (fit_o (v := v) (d := 6) (t := t) (show [(Fld.mk 8 0 (-1) (-1) (-1) 0 0 []), (Fld.mk 2 0 (-1) (-1) (-1) 0 0 []), (Fld.mk 8 0 (-1) 0 (-1) 0 0 [])][2]? = _ from rfl) (by decide))
   ·rw [pres_has] at hp; simp at hp; omega
  | n_ + 3, hf, hy => exact absurd (List.getElem?_eq_some_iff.1 hf).1 (by show ¬ n_ + 3 < 3; omega)
 ·show D.u = if (decide (v ≥ sCreatePartitionsResponseX)) = true then wholeU (unknownT [(Fld.mk 8 0 (-1) (-1) (-1) 0 0 []), (Fld.mk 2 0 (-1) (-1) (-1) 0 0 []), (Fld.mk 8 0 (-1) 0 (-1) 0 0 [])] t.U) else []
  by_cases hc : (decide (v ≥ 2)) = true
  ·rw [if_pos (show (decide (v ≥ sCreatePartitionsResponseX)) = true from hc), rU.1 hc, hU, fit_U]
  ·rw [if_neg (show ¬ (decide (v ≥ sCreatePartitionsResponseX)) = true from hc), rU.2 (by simpa using hc)]
theorem toldCreatePartitionsResponse (v : Int) (h0 : 0 ≤ v) (t Y : Tree) (hY : ∀ i, Y.at_ i = (fitT v 8 sCreatePartitionsResponseF t).at_ i) (hU : Y.U = (fitT v 8 sCreatePartitionsResponseF t).U) (hi : t.i64s) (D : DV) (h : rvCreatePartitionsResponse v D Y) : ToldP v (decide (v ≥ sCreatePartitionsResponseX)) 8 sCreatePartitionsResponseF t (trCreatePartitionsResponse D) := by
 unfold rvCreatePartitionsResponse at h
 obtain ⟨r0, r1, rU, _⟩ := h
 refine ⟨rfl, fun i f y hf hy => ?_, ?_⟩
 ·match i, hf, hy with
  | 0, hf, hy =>
   obtain rfl := Option.some.inj hf
   obtain rfl := Option.some.inj hy
   have e := hY 0
   refine ⟨fun hp => ?_, fun hp => ?_⟩
   ·have hc : True := trivial
    have r := r0
    rw [e] at r
    rw [(fit_N (v := v) (d := 7) (t := t) (show sCreatePartitionsResponseF[0]? = _ from rfl) (by decide))] at r
    exact to_num (by rw [r, n64_32]; rfl)
   ·rw [pres_has] at hp; simp at hp; omega
  | 1, hf, hy =>
   obtain rfl := Option.some.inj hf
   obtain rfl := Option.some.inj hy
   have e := hY 1
   refine ⟨fun hp => ?_, fun hp => ?_⟩
   ·have hc : True := trivial
    have r := r1
    rw [e] at r
    obtain ⟨_, fl⟩ := fit_11 (v := v) (d := 7) (t := t) (show sCreatePartitionsResponseF[1]? = _ from rfl)
    refine to_list (fun h_ => absurd h_.1 (by decide)) r.1 fl fun i_ y_ hi_ hg_ hy_ => ?_
    have q := r.2 i_ hi_
    rw [hg_] at q
    exact to0_part rfl (toldCreatePartitionsResponseTopic v h0 y_ _ (fun i => fit_10.1 i) fit_10.2 (i64_thing (i64_at hi 1) hy_) _ q)
   ·rw [pres_has] at hp; simp at hp; omega
  | n_ + 2, hf, hy => exact absurd (List.getElem?_eq_some_iff.1 hf).1 (by show ¬ n_ + 2 < 2; omega)
 ·show D.u = if (decide (v ≥ sCreatePartitionsResponseX)) = true then wholeU (unknownT sCreatePartitionsResponseF t.U) else []
  by_cases hc : (decide (v ≥ 2)) = true
  ·rw [if_pos (show (decide (v ≥ sCreatePartitionsResponseX)) = true from hc), rU.1 hc, hU, fit_U]
  ·rw [if_neg (show ¬ (decide (v ≥ sCreatePartitionsResponseX)) = true from hc), rU.2 (by simpa using hc)]
set_option maxHeartbeats 4000000 in
theorem tzCreatePartitionsResponse (v : Int) (T : Tree) {A2 : Option Addr} {c2 : Nat} {w : World} {F : Nat → Nat → Prop} (hs_ : Octs w F A2 c2 (tCreatePartitionsResponse (IntKind.i16.wrap v) T)) (hc : canCreatePartitionsResponse T) (hkey : T.ranged) (hroom : (tCreatePartitionsResponse (IntKind.i16.wrap v) T).length + 16 ≤ 1099511627776) :
  Calls Tryz.prog 30 #[.int .i64 v, .slice A2 (tCreatePartitionsResponse (IntKind.i16.wrap v) T).length c2] w (fun e w' => ∃ D cs, e = .returned (.tuple #[.agg cs.toArray, .bool true]) ∧ TreeR w' (Fp NoF w) cs (trCreatePartitionsResponse D) ∧ rvCreatePartitionsResponse (IntKind.i16.wrap v) D T ∧ Step w w' Nil) := by
 refine enter (n := 20) Tryz.func30 rfl Tryz.ntmps30 kz fun a hE => ?_
 have hW := WOk.start w Nil
 have hsm2 := Slots.small hs_
 refine go_seq_region [0, 1] kz ?_
 refine of_op (wpOp_alloc hW hE (d := 4) (cs := [.int .i64 0, .slice none 0 0, .bool false, .slice none 0 0, .slice none 0 0]) kz fun b1 a2 w3 hb4 hz5 hF6 hW7 hE8 => ?_)
 clear hE hW
 refine go_rn [1] [] [(0, .v (.int .i64 v)), (1, .v (.slice A2 ((tCreatePartitionsResponse (IntKind.i16.wrap v) T).length) c2)), (4, .p 0 0)] hW7 hE8 fun a9 bu => ?_
 clear hE8
 refine wpOps_nil (then_normal ?_)
 refine go_seq_region [0, 1] kz ?_
 refine of_op (wpOp_inline bu (f := 76) (vs := []) (d := 7) (n' := 3) kz Tryz.call76 Tryz.func76 rfl Tryz.ntmps76 kz fun cI aN => ?_)
 refine go_sp [] hW7 aN fun cJ aO => ?_
 clear aN
 refine go_seq_region [0] kz ?_
 refine of_op (wpOp_alloc hW7 aO (d := 1) (cs := [.int .i16 0, .int .i32 0, .slice none 0 0, .map none]) kz fun aa cK cL ce cm cq ac bw => ?_)
 clear aO hW7
 refine wpOps_nil (then_normal ?_)
 refine go_seq_region [0] kz ?_
 refine of_op (wpOp_inline bw (f := 141) (vs := [.pointer (some ⟨aa, 0, none⟩)]) (d := 2) (n' := 2) kz Tryz.call141 Tryz.func141 rfl Tryz.ntmps141 kz fun cM bx => ?_)
 have bz := bx.recast 0 (.v (.pointer (some ⟨aa, 0, none⟩))) (.p 1 0) rfl rfl (Nat.le_of_ble_eq_true (n := 2) rfl)
 refine wp_skip ?_
 refine leave_end bz ac.cells (v := .tuple #[]) kz ?_
 refine ⟨_, rfl, fun cN bA => ?_⟩
 have aP : EnvOk 3 [⟨b1, 0, [.int .i64 0, .slice none 0 0, .bool false, .slice none 0 0, .slice none 0 0], true⟩, ⟨aa, 0, [.int .i16 0, .int .i32 0, .slice none 0 0, .map none], true⟩] [(2, .v (.tuple #[])), (1, .p 1 0)] _ := bA.places (⟨rfl, rfl, ⟨rfl, rfl, trivial⟩⟩)
 refine wpOps_nil (then_normal ?_)
 refine go_sp [(0, .p 1 0)] ac aP fun cO bB => ?_
 clear aP
 refine wp_ret ?_
 refine leave bB ac.cells (v := .pointer (some ⟨aa, 0, none⟩)) kz ?_
 refine ⟨_, rfl, fun cP bC => ?_⟩
 have aQ : EnvOk 20 [⟨b1, 0, [.int .i64 0, .slice none 0 0, .bool false, .slice none 0 0, .slice none 0 0], true⟩, ⟨aa, 0, [.int .i16 0, .int .i32 0, .slice none 0 0, .map none], true⟩] [(7, .v (.pointer (some ⟨aa, 0, none⟩))), (0, .v (.int .i64 v)), (1, .v (.slice A2 ((tCreatePartitionsResponse (IntKind.i16.wrap v) T).length) c2)), (4, .p 0 0)] _ := bC.places (⟨rfl, rfl, trivial⟩)
 have aR := aQ.recast 7 (.v (.pointer (some ⟨aa, 0, none⟩))) (.p 1 0) rfl rfl (Nat.le_of_ble_eq_true (n := 2) rfl)
 have aS := aR.pick (ks := [0, 1, 4, 7]) (env' := [(0, .v (.int .i64 v)), (1, .v (.slice A2 ((tCreatePartitionsResponse (IntKind.i16.wrap v) T).length) c2)), (4, .p 0 0), (7, .p 1 0)]) kz
 clear aQ
 clear aR
 refine go_rn [1] [] [(0, .v (.int .i64 v)), (1, .v (.slice A2 ((tCreatePartitionsResponse (IntKind.i16.wrap v) T).length) c2)), (4, .p 0 0), (6, .p 1 0)] ac aS fun cQ aT => ?_
 clear aS
 refine wpOps_nil (then_normal ?_)
 refine go_seq_region [0, 1, 2, 3] kz ?_
 refine go_rn [0, 1, 2] [3] [(1, .v (.slice A2 ((tCreatePartitionsResponse (IntKind.i16.wrap v) T).length) c2)), (4, .p 0 0), (6, .p 1 0), (8, .p 1 0), (10, .v (.int .i16 (IntKind.i16.wrap v)))] ac aT fun cR bD => ?_
 clear aT
 refine of_op (wpOp_inline bD (f := 79) (vs := [.pointer (some ⟨aa, 0, none⟩), .int .i16 (IntKind.i16.wrap v)]) (d := 11) (n' := 8) kz Tryz.call79 Tryz.func79 rfl Tryz.ntmps79 kz fun cS bE => ?_)
 have aU := bE.recast 0 (.v (.pointer (some ⟨aa, 0, none⟩))) (.p 1 0) rfl rfl (Nat.le_of_ble_eq_true (n := 2) rfl)
 refine go_region [0, 1, 2, 3, 4] kz ?_
 refine go_rn [0, 1, 2, 3] [4] [(5, .v (.int .i16 (IntKind.i16.wrap v))), (7, .p 1 0)] ac aU fun cT aV => ?_
 clear aU
 refine of_op (wpOp_store ac aV (oi := 1) (cs := [.int .i16 (IntKind.i16.wrap v), .int .i32 0, .slice none 0 0, .map none]) kz fun cU cr ai bF => ?_)
 clear aV ac
 refine wpOps_nil ?_
 refine leave_end bF ai.cells (v := .tuple #[]) kz ?_
 refine ⟨_, rfl, fun cV bG => ?_⟩
 have aW : EnvOk 20 [⟨b1, 0, [.int .i64 0, .slice none 0 0, .bool false, .slice none 0 0, .slice none 0 0], true⟩, ⟨aa, 0, [.int .i16 (IntKind.i16.wrap v), .int .i32 0, .slice none 0 0, .map none], true⟩] [(11, .v (.tuple #[])), (1, .v (.slice A2 ((tCreatePartitionsResponse (IntKind.i16.wrap v) T).length) c2)), (4, .p 0 0), (6, .p 1 0), (8, .p 1 0), (10, .v (.int .i16 (IntKind.i16.wrap v)))] _ := bG.places (⟨rfl, rfl, ⟨rfl, rfl, trivial⟩⟩)
 refine wpOps_nil (then_normal ?_)
 refine wp_seq ?_
 refine go_seq_region [0, 1, 2, 3, 4] kz ?_
 refine go_rn [0, 1] [2, 3, 4] [(4, .p 0 0), (6, .p 1 0), (12, .p 1 0), (13, .v (.slice A2 ((tCreatePartitionsResponse (IntKind.i16.wrap v) T).length) c2))] ai aW fun cW aX => ?_
 clear aW
 have ae := ai.addNil 5 1
 have cu := ai.frNil 5 1
 clear ai
 refine of_op (wpOp_append ae aX (k := 0) (d := 14) (t := 22) (e := 5) (size := 1) (bytes := 1) (A := none) (As := A2) (m0 := 0) (c := 0) (m := ((tCreatePartitionsResponse (IntKind.i16.wrap v) T).length)) (cs := c2) (xs := []) (news := bc (tCreatePartitionsResponse (IntKind.i16.wrap v) T)) kz kz rfl (hs_.move ae.step nilM ae.imm).src (hs_.move ae.step nilM ae.imm).cap (by first | omega | (simp only [List.length_nil]; omega) | (simp; omega)) fun ag ah cX cY cw aY aZ => ?_)
 clear aX ae
 have bH : (⟨ag, ah, 5, 1, 0 + (tCreatePartitionsResponse (IntKind.i16.wrap v) T).length, [] ++ bc (tCreatePartitionsResponse (IntKind.i16.wrap v) T)⟩ : Rw) = brow ag ah 5 (tCreatePartitionsResponse (IntKind.i16.wrap v) T) := by rw [List.nil_append, Nat.zero_add]
 obtain ⟨ap, cz⟩ := aY.rowEq 0 [brow ag ah 5 (tCreatePartitionsResponse (IntKind.i16.wrap v) T)] bH
 clear aY
 have ba := EnvOk.pick aZ (ks := [4, 6, 12, 13, 14]) (env' := [(4, .p 0 0), (6, .p 1 0), (12, .p 1 0), (13, .v (.slice A2 ((tCreatePartitionsResponse (IntKind.i16.wrap v) T).length) c2)), (14, .v (.slice ag (0 + (tCreatePartitionsResponse (IntKind.i16.wrap v) T).length) ah))]) kz
 have bI := ba.cast (env' := [(4, .p 0 0), (6, .p 1 0), (12, .p 1 0), (13, .v (.slice A2 ((tCreatePartitionsResponse (IntKind.i16.wrap v) T).length) c2)), (14, .v (.slice ag ((tCreatePartitionsResponse (IntKind.i16.wrap v) T).length) ah))]) (by simp only [List.length_append, List.length_cons, List.length_nil, Nat.zero_add])
 clear aZ
 clear ba
 refine of_op (wpOp_inline bI (f := 80) (vs := [.pointer (some ⟨aa, 0, none⟩), .slice ag ((tCreatePartitionsResponse (IntKind.i16.wrap v) T).length) ah]) (d := 15) (n' := 8) kz Tryz.call80 Tryz.func80 rfl Tryz.ntmps80 kz fun cZ bJ => ?_)
 have bd := bJ.recast 0 (.v (.pointer (some ⟨aa, 0, none⟩))) (.p 1 0) rfl rfl (Nat.le_of_ble_eq_true (n := 2) rfl)
 refine go_sp [(0, .p 1 0), (1, .v (.slice ag ((tCreatePartitionsResponse (IntKind.i16.wrap v) T).length) ah))] ap bd fun c5 bf => ?_
 clear bd
 refine go_seq_region [0, 1, 2, 3] kz ?_
 refine go_rn [0, 1] [2, 3] [(5, .p 1 0), (6, .v (.slice ag ((tCreatePartitionsResponse (IntKind.i16.wrap v) T).length) ah))] ap bf fun c6 bg => ?_
 clear bf
 have bK := ap.giveUp (G := NoF) 0 [] (show _ = some (brow ag ah 5 (tCreatePartitionsResponse (IntKind.i16.wrap v) T)) from rfl) (by omega)
 obtain ⟨bh, cA⟩ := ap.cutR 0 []
 refine of_op (wpOp_call bg (f := 142) (vs := [.pointer (some ⟨aa, 0, none⟩), .slice ag ((tCreatePartitionsResponse (IntKind.i16.wrap v) T).length) ah, .bool false]) (d := 7) kz Tryz.call142 (rdCreatePartitionsResponse (IntKind.i16.wrap v) T (Str.of bh 1 rfl) bK (imm_n 1 rfl) hc hkey) ?_)
 rintro e_ da ⟨ab, rfl, bL, bM, bN, bi⟩
 obtain ⟨af, cB, bO⟩ := bh.wrote 1 [⟨b1, 0, [.int .i64 0, .slice none 0 0, .bool false, .slice none 0 0, .slice none 0 0], true⟩, ⟨aa, 0, [.int .i16 (IntKind.i16.wrap v), .int .i32 ((ab.f 0).n), .slice ((ab.f 1).A) ((ab.f 1).l) ((ab.f 1).c), .map ab.m], true⟩] rfl bi bL
 have bP := mvCreatePartitionsResponse _ (Step.refl _ Nil) nilM bO bM
 refine ⟨_, rfl, fun db bQ => ?_⟩
 have bj := (EnvOk.places (tb' := [⟨b1, 0, [.int .i64 0, .slice none 0 0, .bool false, .slice none 0 0, .slice none 0 0], true⟩, ⟨aa, 0, [.int .i16 (IntKind.i16.wrap v), .int .i32 ((ab.f 0).n), .slice ((ab.f 1).A) ((ab.f 1).l) ((ab.f 1).c), .map ab.m], true⟩]) bQ (show Pl [⟨b1, 0, [.int .i64 0, .slice none 0 0, .bool false, .slice none 0 0, .slice none 0 0], true⟩, ⟨aa, 0, [.int .i16 (IntKind.i16.wrap v), .int .i32 0, .slice none 0 0, .map none], true⟩] [⟨b1, 0, [.int .i64 0, .slice none 0 0, .bool false, .slice none 0 0, .slice none 0 0], true⟩, ⟨aa, 0, [.int .i16 (IntKind.i16.wrap v), .int .i32 ((ab.f 0).n), .slice ((ab.f 1).A) ((ab.f 1).l) ((ab.f 1).c), .map ab.m], true⟩] from ⟨rfl, rfl, ⟨rfl, rfl, trivial⟩⟩)).pk (env' := [(7, .v (.nilIface)), (5, .p 1 0), (6, .v (.slice ag ((tCreatePartitionsResponse (IntKind.i16.wrap v) T).length) ah))])
 clear bg
 refine go_rn [3] [] [(4, .v (.nilIface))] af bj fun dc bR => ?_
 clear bj
 refine wpOps_nil (then_normal ?_)
 refine wp_ret ?_
 refine leave bR af.cells (v := .nilIface) kz ?_
 refine ⟨_, rfl, fun de bS => ?_⟩
 have bk : EnvOk 20 [⟨b1, 0, [.int .i64 0, .slice none 0 0, .bool false, .slice none 0 0, .slice none 0 0], true⟩, ⟨aa, 0, [.int .i16 (IntKind.i16.wrap v), .int .i32 ((ab.f 0).n), .slice ((ab.f 1).A) ((ab.f 1).l) ((ab.f 1).c), .map ab.m], true⟩] [(15, .v (.nilIface)), (4, .p 0 0), (6, .p 1 0), (12, .p 1 0), (13, .v (.slice A2 ((tCreatePartitionsResponse (IntKind.i16.wrap v) T).length) c2)), (14, .v (.slice ag ((tCreatePartitionsResponse (IntKind.i16.wrap v) T).length) ah))] _ := bS.places (⟨rfl, rfl, ⟨rfl, rfl, trivial⟩⟩)
 refine go_rn [4] [] [(4, .p 0 0), (6, .p 1 0), (16, .v (.bool false))] af bk fun df aA => ?_
 clear bk
 refine wpOps_nil (then_normal ?_)
 refine cond_false aA (b := false) kz rfl ?_
 refine wp_skip ?_
 refine then_normal ?_
 refine go_seq_region [0, 1, 2, 3] kz ?_
 refine go_rn [0] [1, 2, 3] [(4, .p 0 0), (18, .p 1 0)] af aA fun dg bn => ?_
 clear aA
 have ar := bn.recast 18 (.p 1 0) (.v (.pointer (some ⟨aa, 0, none⟩))) rfl rfl trivial
 have bo := ar.pk (env' := [(4, .p 0 0), (18, .v (.pointer (some ⟨aa, 0, none⟩)))])
 clear bn ar
 have aB := WOk.strOut (G := NoF) [⟨b1, 0, [.int .i64 0, .slice none 0 0, .bool false, .slice none 0 0, .slice none 0 0], true⟩] af
 obtain ⟨au, aj, av⟩ := af.cutB bo 1 [⟨b1, 0, [.int .i64 0, .slice none 0 0, .bool false, .slice none 0 0, .slice none 0 0], true⟩] [(4, .p 0 0), (18, .v (.pointer (some ⟨aa, 0, none⟩)))]
 have bp := mvCreatePartitionsResponse _ av.step immM av.to' bP
 refine of_op (wpOp_call au (f := 81) (vs := [.pointer (some ⟨aa, 0, none⟩)]) (d := 19) kz Tryz.call81 (tlCreatePartitionsResponse (IntKind.i16.wrap v) ab aa 0 _ _ aB bp) ?_)
 rintro e_ cC ⟨bY, rfl, bq, ak⟩
 have al := bq.move (Step.refl _ Nil) nilM (aj.laid (G := NoF) ak)
 obtain ⟨aC, aD, aE, aF, aG, aH, aI, aJ, aK, aL, aM, bZ, b8, am, bT, bU, cD, cE⟩ := al.open_
 rw [am] at al
 have bV := bT.small
 have bW := bU.small
 rw [am]
 refine ⟨_, rfl, fun cG aw => ?_⟩
 have ax := aj.next_nil ak
 have cd := aj.frN ak
 clear au
 refine of_op (wpOp_store ax aw (oi := 0) (cs := [.int .i64 aC, .slice aH aD.length aI, .bool aE, .slice aJ aF.length aK, .slice aL aG.length aM]) kz fun bX ay ao az => ?_)
 clear aw ax
 refine go_rn [3] [] [(4, .p 0 0), (5, .v (.bool true))] ao az fun cH bt => ?_
 clear az
 refine wpOps_nil (then_normal ?_)
 refine wp_ret ?_
 refine leave bt ao.cells (v := .tuple #[.agg #[.int .i64 aC, .slice aH aD.length aI, .bool aE, .slice aJ aF.length aK, .slice aL aG.length aM], .bool true]) kz ?_
 exact ⟨ab, _, rfl, (show TreeR _ (Imm NoF w bX [⟨b1, 0, [.int .i64 aC, .slice aH aD.length aI, .bool aE, .slice aJ aF.length aK, .slice aL aG.length aM], true⟩] []) _ (trCreatePartitionsResponse ab) from (al.move ay.step immM ay.to')).move (Step.refl _ Nil) nilM immOut, bN, ao.step⟩
theorem tegCreatePartitionsResponse (v : Int) (T : Tree) (B : Bs) {A2 : Option Addr} {c2 : Nat} {w : World} {F : Nat → Nat → Prop} (hB : tCreatePartitionsResponse (IntKind.i16.wrap v) T = B) (hs_ : Octs w F A2 c2 B) (hc : canCreatePartitionsResponse T) (hkey : T.ranged) (hroom : B.length + 16 ≤ 1099511627776) :
  Calls Tryz.prog 30 #[.int .i64 v, .slice A2 B.length c2] w (fun e w' => ∃ D cs, e = .returned (.tuple #[.agg cs.toArray, .bool true]) ∧ TreeR w' (Fp NoF w) cs (trCreatePartitionsResponse D) ∧ rvCreatePartitionsResponse (IntKind.i16.wrap v) D T ∧ Step w w' Nil) := by
 subst hB
 exact tzCreatePartitionsResponse v T hs_ hc hkey hroom
end Go.Proofs.YtgolpmkenmedoaaGreatDoor.ME