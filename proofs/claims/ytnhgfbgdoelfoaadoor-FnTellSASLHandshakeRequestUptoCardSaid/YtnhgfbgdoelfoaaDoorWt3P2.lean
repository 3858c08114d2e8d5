/- The texts of a claim, put together: the engine, the contracts, the law. Own work. -/
import Derived.Test.YtnhgfbgdoelfoaaDoorWt3P1
import Derived.Lib.EndianBits
import Derived.Scope
import Derived.Test.YtnhgfbgdoelfoaaDoorProg
import Derived.Lib.ConvBytes
namespace Go.Proofs.YtnhgfbgdoelfoaaDoor.ME
open Go
set_option linter.unusedVariables false
set_option linter.unusedSimpArgs false
set_option maxRecDepth 20000
theorem sPart (W : Fld → Tree → Bs) (A : Option Addr) (c : Nat) (l : List Fld) (v : Int) (flex : Bool) (ct : List Value) (t : Tree) (w : World) (F : Nat → Nat → Prop) (hW_ : ∀ cf f ct t w F, f ∈ l → FldR w F cf f → TreeR w F ct t → (W f t).length ≤ 1099511627776 → Calls Tryd.prog 65 #[.agg cf.toArray, .int .i64 v, .bool flex, .agg ct.toArray] w (FreshB w 5 (W f t))) (hl : FldsR w F A c l) (ht : TreeR w F ct t) (hroom : (partW W l v flex t).length ≤ 1099511627776) :
  Calls Tryd.prog 33 #[.slice A l.length c, .int .i64 v, .bool flex, .agg ct.toArray] w (FreshB w 5 (partW W l v flex t)) := by
 obtain ⟨xfs, h1, h2⟩ := hl.ex
 have hsm := h1.small
 obtain ⟨n1, s2, b3, l4, u5, A6, c7, A8, c9, aV, aW, lV, rfl, rfl, lW, lX, oW, lY⟩ := ht.open_
 have k7 := lW.small
 have k8 := lX.small
 have hkr := known_range l
 refine enter (n := 132) Tryd.func33 rfl Tryd.ntmps33 kz fun a hE => ?_
 have hW := WOk.start w Nil
 refine go_seq_region [0, 1] kz ?_
 refine of_op (wpOp_box hW hE (d := 7) (cs := [.int .i64 n1, .slice A6 s2.length c7, .bool b3, .slice A8 l4.length c9, .slice aV u5.length aW]) kz fun cU oX oY lZ l0 l3 bW gS => ?_)
 clear hE hW
 refine go_rn [1] [] [(0, .v (.slice A l.length c)), (1, .v (.int .i64 v)), (2, .v (.bool flex)), (7, .p 0 0)] bW gS fun oZ gT => ?_
 clear gS
 refine wpOps_nil (then_normal ?_)
 refine go_sp [(0, .v (.slice A l.length c)), (1, .v (.int .i64 v)), (2, .v (.bool flex)), (7, .p 0 0), (9, .v (.slice none 0 0)), (10, .v (.slice none 0 0))] bW gT fun o5 gU => ?_
 clear gT
 refine go_sp [(0, .v (.slice A l.length c)), (1, .v (.int .i64 v)), (2, .v (.bool flex)), (7, .p 0 0), (9, .v (.slice none 0 0)), (10, .v (.slice none 0 0)), (11, .v (.int .i64 0))] bW gU fun o6 gV => ?_
 clear gU
 refine wp_seq ?_
 refine go_sp [(0, .v (.slice A l.length c)), (1, .v (.int .i64 v)), (2, .v (.bool flex)), (7, .p 0 0), (9, .v (.slice none 0 0)), (10, .v (.slice none 0 0)), (11, .v (.int .i64 0)), (21, .v (.slice A l.length c)), (22, .v (.int .i64 ((l.length : Nat) : Int))), (23, .v (.int .i64 0))] bW gV fun o7 gW => ?_
 clear gV
 refine wp_block ?_
 have gX := bW.addNil 5 1
 have l5 := bW.frNil 5 1
 clear bW
 have htot : (bodyB W l v (Tree.mk n1 s2 b3 l4 u5) 0).length ≤ 1099511627776 := by have h_ := hroom; rw [partW, List.length_append] at h_; omega
 refine wp_loop_ghost (fun n_ a_ w_ => ∃ (k : Nat) (A_ : Option Addr) (c_ : Nat) (dn : Bs), n_ = l.length - k ∧ k ≤ l.length ∧ (dn ++ bodyB W (l.drop k) v (Tree.mk n1 s2 b3 l4 u5) k = bodyB W l v (Tree.mk n1 s2 b3 l4 u5) 0) ∧ LInv gX 132 [⟨cU, 0, [.int .i64 n1, .slice A6 s2.length c7, .bool b3, .slice A8 l4.length c9, .slice aV u5.length aW], true⟩] [brow A_ c_ 5 dn] [(0, .v (.slice A l.length c)), (1, .v (.int .i64 v)), (2, .v (.bool flex)), (7, .p 0 0), (9, .v (.slice A_ dn.length c_)), (10, .v (.slice none 0 0)), (11, .v (.int .i64 0)), (21, .v (.slice A l.length c)), (22, .v (.int .i64 ((l.length : Nat) : Int))), (23, .v (.int .i64 ((k : Nat) : Int)))] a_ w_) (l.length) ⟨0, none, 0, [], by omega, by omega, rfl, gW.pk, gX, Fr.refl _ _ _⟩ ?_
 clear gW
 rintro o9 pa pb ⟨k, A_, c_, dn, l6, l7, hB, gY, ax, gA⟩
 refine go_sp [(0, .v (.slice A l.length c)), (1, .v (.int .i64 v)), (2, .v (.bool flex)), (7, .p 0 0), (9, .v (.slice A_ dn.length c_)), (10, .v (.slice none 0 0)), (11, .v (.int .i64 0)), (21, .v (.slice A l.length c)), (22, .v (.int .i64 ((l.length : Nat) : Int))), (23, .v (.int .i64 ((k : Nat) : Int))), (24, .v (.bool (decide (((k : Nat) : Int) < ((l.length : Nat) : Int)))))] ax gY fun pc cV => ?_
 clear gY
 refine wp_seq ?_
 refine cond_of cV (b := decide (((k : Nat) : Int) < ((l.length : Nat) : Int))) kz (fun gB => ?_) (fun gB => ?_)
 ·
  have l9 := of_decide_eq_true gB
  refine wp_skip ?_
  refine then_normal ?_
  refine wp_seq ?_
  refine wp_block ?_
  refine go_seq_region [0, 1, 2, 3, 4, 5] kz ?_
  refine go_rn [0] [1, 2, 3, 4, 5] [(0, .v (.slice A l.length c)), (1, .v (.int .i64 v)), (2, .v (.bool flex)), (7, .p 0 0), (9, .v (.slice A_ dn.length c_)), (10, .v (.slice none 0 0)), (11, .v (.int .i64 0)), (21, .v (.slice A l.length c)), (22, .v (.int .i64 ((l.length : Nat) : Int))), (23, .v (.int .i64 ((k : Nat) : Int))), (25, .v (.int .i64 ((k : Nat) : Int)))] ax cV fun pd gZ => ?_
  clear cV
  obtain ⟨ma, mc, j8, md, dP⟩ := Slots.get h1 (i := k) (by omega)
  obtain ⟨me, bk⟩ : ∃ x, l[k]? = some x := ⟨_, List.getElem?_eq_getElem (by omega)⟩
  have gC := h2 k me bk
  obtain ⟨aA, aB, aC, aD, ay, aE, aF, aG, dM, dN, mf, rfl, dQ, mg, pe⟩ := gC.open_
  rw [dQ] at gC
  have k9 := mg.small
  rw [dQ] at dP
  refine of_op (wpOp_index gZ (t := 29) (A := A) (m := l.length) (q := ((k : Nat) : Int)) (d := 26) kz (e := 56) (size := 8) (bytes := 80) kz j8 rfl (by omega) fun pf g6 => ?_)
  clear gZ
  refine of_op (wpOp_load g6 (t := 56) (b := ma) (o := mc + k * 8) (d := 27) kz (cs := [.int .i64 aA, .int .i64 aB, .int .i64 aC, .int .i64 aD, .int .i64 ay, .int .i64 aE, .int .i64 aF, .slice dM aG.length dN]) (v := .agg #[.int .i64 aA, .int .i64 aB, .int .i64 aC, .int .i64 aD, .int .i64 ay, .int .i64 aE, .int .i64 aF, .slice dM aG.length dN]) kz (AtF.move dP ax.step nilM keepF).at_ fun pg g7 => ?_)
  clear g6
  refine of_op (wpOp_alloc ax g7 (d := 13) (cs := [.int .i64 0, .int .i64 0, .int .i64 0, .int .i64 0, .int .i64 0, .int .i64 0, .int .i64 0, .slice none 0 0]) kz fun ph pi pj mh mi gD gE g8 => ?_)
  clear g7 ax
  refine go_rn [4] [5] [(0, .v (.slice A l.length c)), (1, .v (.int .i64 v)), (2, .v (.bool flex)), (7, .p 0 0), (9, .v (.slice A_ dn.length c_)), (10, .v (.slice none 0 0)), (11, .v (.int .i64 0)), (12, .v (.int .i64 ((k : Nat) : Int))), (13, .p 1 0), (21, .v (.slice A l.length c)), (22, .v (.int .i64 ((l.length : Nat) : Int))), (23, .v (.int .i64 ((k : Nat) : Int))), (27, .v (.agg #[.int .i64 aA, .int .i64 aB, .int .i64 aC, .int .i64 aD, .int .i64 ay, .int .i64 aE, .int .i64 aF, .slice dM aG.length dN]))] gE g8 fun pl g9 => ?_
  clear g8
  refine of_op (wpOp_store gE g9 (oi := 1) (cs := [.int .i64 aA, .int .i64 aB, .int .i64 aC, .int .i64 aD, .int .i64 ay, .int .i64 aE, .int .i64 aF, .slice dM aG.length dN]) kz fun pm gF bn hC => ?_)
  clear g9 gE
  refine wpOps_nil (then_normal ?_)
  refine go_seq_region [0, 1, 2, 3, 4, 5, 6, 7] kz ?_
  refine go_rn [0, 1, 2, 3] [4, 5, 6, 7] [(0, .v (.slice A l.length c)), (1, .v (.int .i64 v)), (2, .v (.bool flex)), (7, .p 0 0), (9, .v (.slice A_ dn.length c_)), (10, .v (.slice none 0 0)), (11, .v (.int .i64 0)), (12, .v (.int .i64 ((k : Nat) : Int))), (13, .p 1 0), (21, .v (.slice A l.length c)), (22, .v (.int .i64 ((l.length : Nat) : Int))), (23, .v (.int .i64 ((k : Nat) : Int))), (31, .v (.bool (decide (ay < 0))))] bn hC fun pn dO => ?_
  clear hC
  refine (Bool.eq_false_or_eq_true (decide (ay < 0))).elim (fun cW => ?_) (fun cW => ?_)
  ·
   have mj := of_decide_eq_true cW
   have hJ := dO.cast (env' := [(0, .v (.slice A l.length c)), (1, .v (.int .i64 v)), (2, .v (.bool flex)), (7, .p 0 0), (9, .v (.slice A_ dn.length c_)), (10, .v (.slice none 0 0)), (11, .v (.int .i64 0)), (12, .v (.int .i64 ((k : Nat) : Int))), (13, .p 1 0), (21, .v (.slice A l.length c)), (22, .v (.int .i64 ((l.length : Nat) : Int))), (23, .v (.int .i64 ((k : Nat) : Int))), (31, .v (.bool true))]) (by rw [cW])
   clear dO
   refine go_rn [4, 5] [6, 7] [(0, .v (.slice A l.length c)), (1, .v (.int .i64 v)), (2, .v (.bool flex)), (7, .p 0 0), (9, .v (.slice A_ dn.length c_)), (10, .v (.slice none 0 0)), (11, .v (.int .i64 0)), (12, .v (.int .i64 ((k : Nat) : Int))), (13, .p 1 0), (21, .v (.slice A l.length c)), (22, .v (.int .i64 ((l.length : Nat) : Int))), (23, .v (.int .i64 ((k : Nat) : Int))), (31, .v (.bool true)), (32, .v (.agg #[.int .i64 aA, .int .i64 aB, .int .i64 aC, .int .i64 aD, .int .i64 ay, .int .i64 aE, .int .i64 aF, .slice dM aG.length dN])), (33, .v (.int .i64 v))] bn hJ fun po dR => ?_
   clear hJ
   refine of_op (wpOp_call dR (f := 43) (vs := [.agg #[.int .i64 aA, .int .i64 aB, .int .i64 aC, .int .i64 aD, .int .i64 ay, .int .i64 aE, .int .i64 aF, .slice dM aG.length dN], .int .i64 v]) (d := 34) kz Tryd.call43 (sHas aA aB aC aD ay aE aF aG _ _ v _) ?_)
   rintro e_ ml ⟨rfl, dS⟩
   refine ⟨_, rfl, fun mn dT => ?_⟩
   have bo := bn.next_nil dS
   have dU := bn.frN dS
   clear dR bn
   refine go_rn [7] [] [(0, .v (.slice A l.length c)), (1, .v (.int .i64 v)), (2, .v (.bool flex)), (7, .p 0 0), (9, .v (.slice A_ dn.length c_)), (10, .v (.slice none 0 0)), (11, .v (.int .i64 0)), (12, .v (.int .i64 ((k : Nat) : Int))), (13, .p 1 0), (21, .v (.slice A l.length c)), (22, .v (.int .i64 ((l.length : Nat) : Int))), (23, .v (.int .i64 ((k : Nat) : Int))), (35, .v (.bool (Fld.has (Fld.mk aA aB aC aD ay aE aF aG) v)))] bo dT fun mo bp => ?_
   clear dT
   refine wpOps_nil (then_normal ?_)
   refine cond_of bp (b := Fld.has (Fld.mk aA aB aC aD ay aE aF aG) v) kz (fun hK => ?_) (fun hK => ?_)
   ·
    refine go_drawK 9 kz bo fun mp hZ bq ia => ?_
    clear bo
    refine go_rnD [0, 1, 2, 3, 4, 5] [(0, .v (.slice A l.length c)), (1, .v (.int .i64 v)), (2, .v (.bool flex)), (7, .p 0 0), (9, .v (.slice A_ dn.length c_)), (10, .v (.slice none 0 0)), (11, .v (.int .i64 0)), (21, .v (.slice A l.length c)), (22, .v (.int .i64 ((l.length : Nat) : Int))), (23, .v (.int .i64 ((k : Nat) : Int))), (36, .v (.slice A_ dn.length c_)), (37, .v (.agg #[.int .i64 aA, .int .i64 aB, .int .i64 aC, .int .i64 aD, .int .i64 ay, .int .i64 aE, .int .i64 aF, .slice dM aG.length dN])), (38, .v (.int .i64 v)), (39, .v (.bool flex)), (40, .v (.agg #[.int .i64 n1, .slice A6 s2.length c7, .bool b3, .slice A8 l4.length c9, .slice aV u5.length aW])), (41, .v (.int .i64 ((k : Nat) : Int)))] 4 (panicFree_block (panicFree_then (panicFree_then (panicFree_block (panicFree_then panicFree_body))))) (fun _ h => h.cells) ia bp fun mq dV => ?_
    clear bp
    refine anyC_op (i := 6) kz (wpOp_call dV (f := 42) (vs := [.agg #[.int .i64 n1, .slice A6 s2.length c7, .bool b3, .slice A8 l4.length c9, .slice aV u5.length aW], .int .i64 ((k : Nat) : Int)]) (d := 42) kz Tryd.call42 (sAt _ _ k _ _ (ht.move bq.step nilM bq.imm)) ?_)
    rintro e_ mr ⟨la, rfl, ib, bt⟩
    have cX := ib.move bt nilM (fun b o h_ hb_ => bq.laid (G := F) bt b o (.inl h_) (Nat.lt_of_lt_of_le hb_ bt.size))
    obtain ⟨gG, gH, gI, gJ, gK, gL, gM, gN, gO, gP, gQ, lb, lc, cY, j9, ka, mt, mu⟩ := cX.open_
    rw [cY] at cX
    have kd := j9.small
    have ke := ka.small
    rw [cY]
    refine ⟨_, rfl, fun mw dW => ?_⟩
    have bu := bq.next_nil bt
    have cm := bq.frN bt
    clear dV
    have ic := TT.ofW cm bu
    refine ⟨fun _ => ic, ?_⟩
    refine anyC_op (i := 7) kz (wpOp_call dW (f := 65) (vs := [.agg #[.int .i64 aA, .int .i64 aB, .int .i64 aC, .int .i64 aD, .int .i64 ay, .int .i64 aE, .int .i64 aF, .slice dM aG.length dN], .int .i64 v, .bool flex, .agg #[.int .i64 gG, .slice gL gH.length gM, .bool gI, .slice gN gJ.length gO, .slice gP gK.length gQ]]) (d := 43) kz Tryd.call65 ( hW_ _ _ _ _ _ _ (List.mem_of_getElem? bk) (gC.move bu.step nilM bu.imm) cX (by have h_ := congrArg List.length hB; rw [bodyB_pos bk (by assumption) (by assumption)] at h_; simp only [List.length_append] at h_; omega)) ?_)
    rintro e_ mx ⟨cZ, c5, rfl, ig, ii⟩
    refine ⟨_, rfl, fun my dX => ?_⟩
    obtain ⟨bw, da⟩ := bu.frFresh ii (brow cZ c5 5 (W (Fld.mk aA aB aC aD ay aE aF aG) (Tree.at_ (Tree.mk n1 s2 b3 l4 u5) k))) (Nat.le_refl _) ig
    clear dW bu
    have kf : (W (Fld.mk aA aB aC aD ay aE aF aG) (Tree.at_ (Tree.mk n1 s2 b3 l4 u5) k)).length ≤ 1099511627776 := by have h_ := congrArg List.length hB; rw [bodyB_pos bk (by assumption) (by assumption)] at h_; simp only [List.length_append] at h_; omega
    have ij := TT.ofW (cm.trans da) bw
    refine ⟨fun _ => ij, ?_⟩
    refine anyC_op (i := 8) kz (wpOp_append bw dX (k := 0) (d := 44) (t := 22) (e := 5) (size := 1) (bytes := 1) (A := A_) (As := cZ) (m0 := dn.length) (c := c_) (m := ((W (Fld.mk aA aB aC aD ay aE aF aG) (Tree.at_ (Tree.mk n1 s2 b3 l4 u5) k)).length)) (cs := c5) (xs := (bc dn)) (news := bc (W (Fld.mk aA aB aC aD ay aE aF aG) (Tree.at_ (Tree.mk n1 s2 b3 l4 u5) k))) kz kz rfl (own_src (bw.own 1 _ rfl) (bc_one _)) (own_cap (bw.own 1 _ rfl)) (by have h_ := congrArg List.length hB; rw [bodyB_pos bk (by assumption) (by assumption)] at h_; simp only [List.length_append] at h_ ⊢; omega) fun aX aY mz mA dY dZ d5 => ?_)
    clear dX bw
    have ik : (⟨aX, aY, 5, 1, dn.length + (W (Fld.mk aA aB aC aD ay aE aF aG) (Tree.at_ (Tree.mk n1 s2 b3 l4 u5) k)).length, bc dn ++ bc (W (Fld.mk aA aB aC aD ay aE aF aG) (Tree.at_ (Tree.mk n1 s2 b3 l4 u5) k))⟩ : Rw) = brow aX aY 5 (dn ++ (W (Fld.mk aA aB aC aD ay aE aF aG) (Tree.at_ (Tree.mk n1 s2 b3 l4 u5) k))) := brow_eq (rfl) rfl
    obtain ⟨cq, d6⟩ := dZ.rowEq 0 [brow aX aY 5 (dn ++ (W (Fld.mk aA aB aC aD ay aE aF aG) (Tree.at_ (Tree.mk n1 s2 b3 l4 u5) k))), brow cZ c5 5 (W (Fld.mk aA aB aC aD ay aE aF aG) (Tree.at_ (Tree.mk n1 s2 b3 l4 u5) k))] ik
    clear dZ
    have d7 := EnvOk.pick d5 (ks := [0, 1, 2, 7, 9, 10, 11, 21, 22, 23, 36, 37, 38, 39, 40, 41, 42, 43, 44]) (env' := [(0, .v (.slice A l.length c)), (1, .v (.int .i64 v)), (2, .v (.bool flex)), (7, .p 0 0), (9, .v (.slice A_ dn.length c_)), (10, .v (.slice none 0 0)), (11, .v (.int .i64 0)), (21, .v (.slice A l.length c)), (22, .v (.int .i64 ((l.length : Nat) : Int))), (23, .v (.int .i64 ((k : Nat) : Int))), (36, .v (.slice A_ dn.length c_)), (37, .v (.agg #[.int .i64 aA, .int .i64 aB, .int .i64 aC, .int .i64 aD, .int .i64 ay, .int .i64 aE, .int .i64 aF, .slice dM aG.length dN])), (38, .v (.int .i64 v)), (39, .v (.bool flex)), (40, .v (.agg #[.int .i64 n1, .slice A6 s2.length c7, .bool b3, .slice A8 l4.length c9, .slice aV u5.length aW])), (41, .v (.int .i64 ((k : Nat) : Int))), (42, .v (.agg #[.int .i64 gG, .slice gL gH.length gM, .bool gI, .slice gN gJ.length gO, .slice gP gK.length gQ])), (43, .v (.slice cZ ((W (Fld.mk aA aB aC aD ay aE aF aG) (Tree.at_ (Tree.mk n1 s2 b3 l4 u5) k)).length) c5)), (44, .v (.slice aX (dn.length + (W (Fld.mk aA aB aC aD ay aE aF aG) (Tree.at_ (Tree.mk n1 s2 b3 l4 u5) k)).length) aY))]) kz
    have d8 := d7.cast (env' := [(0, .v (.slice A l.length c)), (1, .v (.int .i64 v)), (2, .v (.bool flex)), (7, .p 0 0), (9, .v (.slice A_ dn.length c_)), (10, .v (.slice none 0 0)), (11, .v (.int .i64 0)), (21, .v (.slice A l.length c)), (22, .v (.int .i64 ((l.length : Nat) : Int))), (23, .v (.int .i64 ((k : Nat) : Int))), (36, .v (.slice A_ dn.length c_)), (37, .v (.agg #[.int .i64 aA, .int .i64 aB, .int .i64 aC, .int .i64 aD, .int .i64 ay, .int .i64 aE, .int .i64 aF, .slice dM aG.length dN])), (38, .v (.int .i64 v)), (39, .v (.bool flex)), (40, .v (.agg #[.int .i64 n1, .slice A6 s2.length c7, .bool b3, .slice A8 l4.length c9, .slice aV u5.length aW])), (41, .v (.int .i64 ((k : Nat) : Int))), (42, .v (.agg #[.int .i64 gG, .slice gL gH.length gM, .bool gI, .slice gN gJ.length gO, .slice gP gK.length gQ])), (43, .v (.slice cZ ((W (Fld.mk aA aB aC aD ay aE aF aG) (Tree.at_ (Tree.mk n1 s2 b3 l4 u5) k)).length) c5)), (44, .v (.slice aX ((dn ++ (W (Fld.mk aA aB aC aD ay aE aF aG) (Tree.at_ (Tree.mk n1 s2 b3 l4 u5) k))).length) aY))]) (by simp only [List.length_append, List.length_cons, List.length_nil, Nat.zero_add])
    clear d5
    clear d7
    have il := TT.ofW (((cm.trans da).trans dY).trans d6) cq
    refine ⟨fun _ => il, ?_⟩
    refine anyC_op (i := 9) kz (wpOp_pure [0, 1, 2, 7, 9, 10, 11, 21, 22, 23] cq.cells d8 (env' := [(0, .v (.slice A l.length c)), (1, .v (.int .i64 v)), (2, .v (.bool flex)), (7, .p 0 0), (9, .v (.slice aX ((dn ++ (W (Fld.mk aA aB aC aD ay aE aF aG) (Tree.at_ (Tree.mk n1 s2 b3 l4 u5) k))).length) aY)), (10, .v (.slice none 0 0)), (11, .v (.int .i64 0)), (21, .v (.slice A l.length c)), (22, .v (.int .i64 ((l.length : Nat) : Int))), (23, .v (.int .i64 ((k : Nat) : Int)))]) kz fun mB d9 => ?_)
    clear d8
    refine ⟨fun h => absurd rfl h, ?_⟩
    refine anyC_done kz ?_ _
    refine block_normal ?_
    refine then_normal ?_
    refine go_region [0, 1] kz ?_
    refine go_rn [0, 1] [] [(0, .v (.slice A l.length c)), (1, .v (.int .i64 v)), (2, .v (.bool flex)), (7, .p 0 0), (9, .v (.slice aX ((dn ++ (W (Fld.mk aA aB aC aD ay aE aF aG) (Tree.at_ (Tree.mk n1 s2 b3 l4 u5) k))).length) aY)), (10, .v (.slice none 0 0)), (11, .v (.int .i64 0)), (21, .v (.slice A l.length c)), (22, .v (.int .i64 ((l.length : Nat) : Int))), (23, .v (.int .i64 (IntKind.i64.wrap (((k : Nat) : Int) + 1))))] cq d9 fun mC im => ?_
    clear d9
    refine wpOps_nil (then_normal ?_)
    obtain ⟨ea, io, ip⟩ := cq.cutB im 1 [⟨cU, 0, [.int .i64 n1, .slice A6 s2.length c7, .bool b3, .slice A8 l4.length c9, .slice aV u5.length aW], true⟩] [(0, .v (.slice A l.length c)), (1, .v (.int .i64 v)), (2, .v (.bool flex)), (7, .p 0 0), (9, .v (.slice aX ((dn ++ (W (Fld.mk aA aB aC aD ay aE aF aG) (Tree.at_ (Tree.mk n1 s2 b3 l4 u5) k))).length) aY)), (10, .v (.slice none 0 0)), (11, .v (.int .i64 0)), (21, .v (.slice A l.length c)), (22, .v (.int .i64 ((l.length : Nat) : Int))), (23, .v (.int .i64 (IntKind.i64.wrap (((k : Nat) : Int) + 1))))]
    obtain ⟨iq, ir⟩ := io.cutR 1 [brow aX aY 5 (dn ++ (W (Fld.mk aA aB aC aD ay aE aF aG) (Tree.at_ (Tree.mk n1 s2 b3 l4 u5) k)))]
    have iu : IntKind.i64.wrap (((k : Nat) : Int) + 1) = ((k + 1 : Nat) : Int) := wrap_succ (by omega)
    rw [iu] at ea
    exact ⟨l.length - (k + 1), by omega, k + 1, aX, aY, dn ++ (W (Fld.mk aA aB aC aD ay aE aF aG) (Tree.at_ (Tree.mk n1 s2 b3 l4 u5) k)), rfl, by omega, by rw [List.append_assoc, ← bodyB_pos bk (by assumption) (by assumption)]; exact hB, ea.pk, iq, ((((((((((gA.trans gD).trans gF).trans dU).trans hZ).trans cm).trans da).trans dY).trans d6).trans ip).trans ir)⟩
   ·
    refine wp_skip ?_
    refine block_normal ?_
    refine then_normal ?_
    refine go_region [0, 1] kz ?_
    refine go_rn [0, 1] [] [(0, .v (.slice A l.length c)), (1, .v (.int .i64 v)), (2, .v (.bool flex)), (7, .p 0 0), (9, .v (.slice A_ dn.length c_)), (10, .v (.slice none 0 0)), (11, .v (.int .i64 0)), (21, .v (.slice A l.length c)), (22, .v (.int .i64 ((l.length : Nat) : Int))), (23, .v (.int .i64 (IntKind.i64.wrap (((k : Nat) : Int) + 1))))] bo bp fun mD iv => ?_
    clear bp
    refine wpOps_nil (then_normal ?_)
    obtain ⟨eb, iw, ix⟩ := bo.cutB iv 1 [⟨cU, 0, [.int .i64 n1, .slice A6 s2.length c7, .bool b3, .slice A8 l4.length c9, .slice aV u5.length aW], true⟩] [(0, .v (.slice A l.length c)), (1, .v (.int .i64 v)), (2, .v (.bool flex)), (7, .p 0 0), (9, .v (.slice A_ dn.length c_)), (10, .v (.slice none 0 0)), (11, .v (.int .i64 0)), (21, .v (.slice A l.length c)), (22, .v (.int .i64 ((l.length : Nat) : Int))), (23, .v (.int .i64 (IntKind.i64.wrap (((k : Nat) : Int) + 1))))]
    have iy : IntKind.i64.wrap (((k : Nat) : Int) + 1) = ((k + 1 : Nat) : Int) := wrap_succ (by omega)
    rw [iy] at eb
    exact ⟨l.length - (k + 1), by omega, k + 1, A_, c_, dn, rfl, by omega, by rw [← bodyB_neg2 bk (by assumption)]; exact hB, eb.pk, iw, ((((gA.trans gD).trans gF).trans dU).trans ix)⟩
  ·
   have ld := of_decide_eq_false cW
   have ec := dO.cast (env' := [(0, .v (.slice A l.length c)), (1, .v (.int .i64 v)), (2, .v (.bool flex)), (7, .p 0 0), (9, .v (.slice A_ dn.length c_)), (10, .v (.slice none 0 0)), (11, .v (.int .i64 0)), (12, .v (.int .i64 ((k : Nat) : Int))), (13, .p 1 0), (21, .v (.slice A l.length c)), (22, .v (.int .i64 ((l.length : Nat) : Int))), (23, .v (.int .i64 ((k : Nat) : Int))), (31, .v (.bool false))]) (by rw [cW])
   clear dO
   refine go_rn [4, 5, 6, 7] [] [(0, .v (.slice A l.length c)), (1, .v (.int .i64 v)), (2, .v (.bool flex)), (7, .p 0 0), (9, .v (.slice A_ dn.length c_)), (10, .v (.slice none 0 0)), (11, .v (.int .i64 0)), (12, .v (.int .i64 ((k : Nat) : Int))), (13, .p 1 0), (21, .v (.slice A l.length c)), (22, .v (.int .i64 ((l.length : Nat) : Int))), (23, .v (.int .i64 ((k : Nat) : Int))), (35, .v (.bool false))] bn ec fun mF db => ?_
   clear ec
   refine wpOps_nil (then_normal ?_)
   refine cond_false db (b := false) kz rfl ?_
   refine wp_skip ?_
   refine block_normal ?_
   refine then_normal ?_
   refine go_region [0, 1] kz ?_
   refine go_rn [0, 1] [] [(0, .v (.slice A l.length c)), (1, .v (.int .i64 v)), (2, .v (.bool flex)), (7, .p 0 0), (9, .v (.slice A_ dn.length c_)), (10, .v (.slice none 0 0)), (11, .v (.int .i64 0)), (21, .v (.slice A l.length c)), (22, .v (.int .i64 ((l.length : Nat) : Int))), (23, .v (.int .i64 (IntKind.i64.wrap (((k : Nat) : Int) + 1))))] bn db fun mG iz => ?_
   clear db
   refine wpOps_nil (then_normal ?_)
   obtain ⟨ee, iA, iB⟩ := bn.cutB iz 1 [⟨cU, 0, [.int .i64 n1, .slice A6 s2.length c7, .bool b3, .slice A8 l4.length c9, .slice aV u5.length aW], true⟩] [(0, .v (.slice A l.length c)), (1, .v (.int .i64 v)), (2, .v (.bool flex)), (7, .p 0 0), (9, .v (.slice A_ dn.length c_)), (10, .v (.slice none 0 0)), (11, .v (.int .i64 0)), (21, .v (.slice A l.length c)), (22, .v (.int .i64 ((l.length : Nat) : Int))), (23, .v (.int .i64 (IntKind.i64.wrap (((k : Nat) : Int) + 1))))]
   have iC : IntKind.i64.wrap (((k : Nat) : Int) + 1) = ((k + 1 : Nat) : Int) := wrap_succ (by omega)
   rw [iC] at ee
   exact ⟨l.length - (k + 1), by omega, k + 1, A_, c_, dn, rfl, by omega, by rw [← bodyB_neg1 bk (by assumption)]; exact hB, ee.pk, iA, (((gA.trans gD).trans gF).trans iB)⟩
 ·
  have lf := of_decide_eq_false gB
  refine wp_exit ?_
  refine then_exit ?_
  refine then_exit ?_
  refine block_exit ?_
  refine then_normal ?_
  refine wp_seq ?_
  refine go_sp [(0, .v (.slice A l.length c)), (1, .v (.int .i64 v)), (2, .v (.bool flex)), (7, .p 0 0), (9, .v (.slice A_ dn.length c_)), (10, .v (.slice none 0 0)), (11, .v (.int .i64 0)), (47, .v (.bool (!flex)))] ax cV fun mH bx => ?_
  clear cV
  refine cond_of bx (b := !flex) kz (fun cr => ?_) (fun cr => ?_)
  ·
   refine go_sp [(8, .v (.slice A_ dn.length c_))] ax bx fun mI iD => ?_
   clear bx
   refine wp_ret ?_
   refine then_ret ?_
   refine leave iD ax.cells (v := .slice A_ dn.length c_) kz ?_
   exact fresh_end ax (k := 0) rfl (by rw [show flex = false by simpa using cr, partW_old, ← hB, bodyB_end (by omega), List.append_nil])
  ·
   refine wp_skip ?_
   refine then_normal ?_
   refine wp_seq ?_
   refine go_seq_region [0, 1, 2, 3] kz ?_
   refine go_rn [0] [1, 2, 3] [(0, .v (.slice A l.length c)), (1, .v (.int .i64 v)), (2, .v (.bool flex)), (7, .p 0 0), (9, .v (.slice A_ dn.length c_)), (10, .v (.slice none 0 0)), (11, .v (.int .i64 0)), (49, .v (.slice A l.length c))] ax bx fun mJ ef => ?_
   clear bx
   refine of_op (wpOp_call ef (f := 66) (vs := [.slice A l.length c]) (d := 50) kz Tryd.call66 (sKnown _ _ l _ _ ⟨xfs, (h1.move ax.step nilM ax.imm), (fun i_ x_ h_ => ((h2 i_ x_ h_).move ax.step nilM ax.imm))⟩) ?_)
   rintro e_ mK ⟨rfl, eg⟩
   refine ⟨_, rfl, fun mL eh => ?_⟩
   have dc := ax.next_nil eg
   have lg := ax.frN eg
   clear ef ax
   refine go_rn [2, 3] [] [(0, .v (.slice A l.length c)), (1, .v (.int .i64 v)), (2, .v (.bool flex)), (7, .p 0 0), (9, .v (.slice A_ dn.length c_)), (10, .v (.slice none 0 0)), (11, .v (.int .i64 0)), (51, .v (.int .i64 (IntKind.i64.wrap (knownI l)))), (52, .v (.int .i64 0))] dc eh fun mM de => ?_
   clear eh
   refine wpOps_nil (then_normal ?_)
   refine wp_block ?_
   have hdn : dn = bodyB W l v (Tree.mk n1 s2 b3 l4 u5) 0 := by rw [← hB, bodyB_end (by omega), List.append_nil]
   have ei : dn = (bodyB W l v (Tree.mk n1 s2 b3 l4 u5) 0) := hdn
   have iE := congrArg (brow A_ c_ 5) ei
   obtain ⟨df, lh⟩ := dc.rowEq 0 [brow A_ c_ 5 (bodyB W l v (Tree.mk n1 s2 b3 l4 u5) 0)] iE
   clear dc
   rw [ei] at de
   have hfx : flex = true := by simpa using cr
   have htot2 : (bodyB W l v (Tree.mk n1 s2 b3 l4 u5) 0).length + (uv (tagsN W l (Tree.mk n1 s2 b3 l4 u5) (knownI l).toNat + (unknownT l u5).length)).length + ((tagsK W l (Tree.mk n1 s2 b3 l4 u5) (knownI l).toNat).length + (tagsB (unknownT l u5)).length) ≤ 1099511627776 := by have h_ := hroom; rw [hfx, partW_flex] at h_; simpa only [List.length_append] using h_
   have hmono := fun i (h_ : i ≤ (knownI l).toNat) => tagsK_mono W l (Tree.mk n1 s2 b3 l4 u5) h_
   have hcnt := tagsN_le W l (Tree.mk n1 s2 b3 l4 u5)
   have hknn := known_nat l
   have ej := EnvOk.pick de (ks := [0, 1, 2, 7, 9, 10, 11, 51, 52]) (env' := [(0, .v (.slice A l.length c)), (1, .v (.int .i64 v)), (2, .v (.bool flex)), (7, .p 0 0), (9, .v (.slice A_ ((bodyB W l v (Tree.mk n1 s2 b3 l4 u5) 0).length) c_)), (10, .v (.slice none 0 0)), (11, .v (.int .i64 0)), (51, .v (.int .i64 (IntKind.i64.wrap (knownI l)))), (52, .v (.int .i64 0))]) kz
   have ek := ej.cast (env' := [(0, .v (.slice A l.length c)), (1, .v (.int .i64 v)), (2, .v (.bool flex)), (7, .p 0 0), (9, .v (.slice A_ ((bodyB W l v (Tree.mk n1 s2 b3 l4 u5) 0).length) c_)), (10, .v (.slice none 0 0)), (11, .v (.int .i64 0)), (51, .v (.int .i64 (((knownI l).toNat : Nat) : Int))), (52, .v (.int .i64 0))]) (by rw [hknn])
   clear de ej
   have em := df.addNil 5 1
   have li := df.frNil 5 1
   clear df
   refine wp_loop_ghost (fun n_ a_ w_ => ∃ (k2 : Nat) (A2_ : Option Addr) (c2_ : Nat), n_ = (knownI l).toNat - k2 ∧ k2 ≤ (knownI l).toNat ∧ LInv em 132 [⟨cU, 0, [.int .i64 n1, .slice A6 s2.length c7, .bool b3, .slice A8 l4.length c9, .slice aV u5.length aW], true⟩] [brow A_ c_ 5 (bodyB W l v (Tree.mk n1 s2 b3 l4 u5) 0), brow A2_ c2_ 5 (tagsK W l (Tree.mk n1 s2 b3 l4 u5) k2)] [(0, .v (.slice A l.length c)), (1, .v (.int .i64 v)), (2, .v (.bool flex)), (7, .p 0 0), (9, .v (.slice A_ ((bodyB W l v (Tree.mk n1 s2 b3 l4 u5) 0).length) c_)), (10, .v (.slice A2_ ((tagsK W l (Tree.mk n1 s2 b3 l4 u5) k2).length) c2_)), (11, .v (.int .i64 ((tagsN W l (Tree.mk n1 s2 b3 l4 u5) k2 : Nat) : Int))), (51, .v (.int .i64 (((knownI l).toNat : Nat) : Int))), (52, .v (.int .i64 ((k2 : Nat) : Int)))] a_ w_) ((knownI l).toNat) ⟨0, none, 0, by omega, by omega, ek.pk, em, Fr.refl _ _ _⟩ ?_
   clear ek
   rintro mN mO mQ ⟨k2, A2_, c2_, lj, lm, eo, al, iF⟩
   refine go_sp [(0, .v (.slice A l.length c)), (1, .v (.int .i64 v)), (2, .v (.bool flex)), (7, .p 0 0), (9, .v (.slice A_ ((bodyB W l v (Tree.mk n1 s2 b3 l4 u5) 0).length) c_)), (10, .v (.slice A2_ ((tagsK W l (Tree.mk n1 s2 b3 l4 u5) k2).length) c2_)), (11, .v (.int .i64 ((tagsN W l (Tree.mk n1 s2 b3 l4 u5) k2 : Nat) : Int))), (51, .v (.int .i64 (((knownI l).toNat : Nat) : Int))), (52, .v (.int .i64 ((k2 : Nat) : Int))), (53, .v (.bool (decide (((k2 : Nat) : Int) < (((knownI l).toNat : Nat) : Int)))))] al eo fun mR bz => ?_
   clear eo
   refine wp_seq ?_
   refine cond_of bz (b := decide (((k2 : Nat) : Int) < (((knownI l).toNat : Nat) : Int))) kz (fun dg => ?_) (fun dg => ?_)
   ·
    have ln := of_decide_eq_true dg
    refine wp_skip ?_
    refine then_normal ?_
    refine wp_seq ?_
    refine wp_block ?_
    refine go_sp [(0, .v (.slice A l.length c)), (1, .v (.int .i64 v)), (2, .v (.bool flex)), (7, .p 0 0), (9, .v (.slice A_ ((bodyB W l v (Tree.mk n1 s2 b3 l4 u5) 0).length) c_)), (10, .v (.slice A2_ ((tagsK W l (Tree.mk n1 s2 b3 l4 u5) k2).length) c2_)), (11, .v (.int .i64 ((tagsN W l (Tree.mk n1 s2 b3 l4 u5) k2 : Nat) : Int))), (14, .v (.int .i64 ((k2 : Nat) : Int))), (51, .v (.int .i64 (((knownI l).toNat : Nat) : Int))), (52, .v (.int .i64 ((k2 : Nat) : Int)))] al bz fun mS ep => ?_
    clear bz
    refine go_sp [(0, .v (.slice A l.length c)), (1, .v (.int .i64 v)), (2, .v (.bool flex)), (7, .p 0 0), (9, .v (.slice A_ ((bodyB W l v (Tree.mk n1 s2 b3 l4 u5) 0).length) c_)), (10, .v (.slice A2_ ((tagsK W l (Tree.mk n1 s2 b3 l4 u5) k2).length) c2_)), (11, .v (.int .i64 ((tagsN W l (Tree.mk n1 s2 b3 l4 u5) k2 : Nat) : Int))), (14, .v (.int .i64 ((k2 : Nat) : Int))), (51, .v (.int .i64 (((knownI l).toNat : Nat) : Int))), (52, .v (.int .i64 ((k2 : Nat) : Int))), (55, .v (.slice A l.length c)), (56, .v (.int .i64 ((l.length : Nat) : Int))), (57, .v (.int .i64 0))] al ep fun mT dh => ?_
    clear ep
    refine wp_block ?_
    have eu : (tagsK W l (Tree.mk n1 s2 b3 l4 u5) k2) = (tagsK W l (Tree.mk n1 s2 b3 l4 u5) k2 ++ []) := (List.append_nil _).symm
    have iG := congrArg (brow A2_ c2_ 5) eu
    obtain ⟨ev, iH⟩ := al.rowEq 1 [brow A_ c_ 5 (bodyB W l v (Tree.mk n1 s2 b3 l4 u5) 0), brow A2_ c2_ 5 (tagsK W l (Tree.mk n1 s2 b3 l4 u5) k2 ++ [])] iG
    clear al
    rw [eu] at dh
    have hm2 := hmono (k2 + 1) (by omega)
    rw [tagsK, List.length_append] at hm2
    have hc2 := hcnt (k2 + 1)
    rw [tagsN, tagsK, List.length_append] at hc2
    have hc3 := tagN_le W k2 (Tree.mk n1 s2 b3 l4 u5) l 0
    refine wp_loop_ghost (fun n_ a_ w_ => ∃ (q : Nat) (A3_ : Option Addr) (c3_ : Nat) (dm : Bs) (cn : Nat), n_ = l.length - q ∧ q ≤ l.length ∧ (dm ++ tagB W (l.drop q) k2 (Tree.mk n1 s2 b3 l4 u5) q = tagB W l k2 (Tree.mk n1 s2 b3 l4 u5) 0) ∧ (cn + tagN W (l.drop q) k2 (Tree.mk n1 s2 b3 l4 u5) q = tagN W l k2 (Tree.mk n1 s2 b3 l4 u5) 0) ∧ LInv ev 132 [⟨cU, 0, [.int .i64 n1, .slice A6 s2.length c7, .bool b3, .slice A8 l4.length c9, .slice aV u5.length aW], true⟩] [brow A_ c_ 5 (bodyB W l v (Tree.mk n1 s2 b3 l4 u5) 0), brow A3_ c3_ 5 (tagsK W l (Tree.mk n1 s2 b3 l4 u5) k2 ++ dm)] [(0, .v (.slice A l.length c)), (1, .v (.int .i64 v)), (2, .v (.bool flex)), (7, .p 0 0), (9, .v (.slice A_ ((bodyB W l v (Tree.mk n1 s2 b3 l4 u5) 0).length) c_)), (10, .v (.slice A3_ ((tagsK W l (Tree.mk n1 s2 b3 l4 u5) k2 ++ dm).length) c3_)), (11, .v (.int .i64 ((tagsN W l (Tree.mk n1 s2 b3 l4 u5) k2 + cn : Nat) : Int))), (14, .v (.int .i64 ((k2 : Nat) : Int))), (51, .v (.int .i64 (((knownI l).toNat : Nat) : Int))), (52, .v (.int .i64 ((k2 : Nat) : Int))), (55, .v (.slice A l.length c)), (56, .v (.int .i64 ((l.length : Nat) : Int))), (57, .v (.int .i64 ((q : Nat) : Int)))] a_ w_) (l.length) ⟨0, A2_, c2_, [], 0, by omega, by omega, rfl, Nat.zero_add _, dh.pk, ev, Fr.refl _ _ _⟩ ?_
    clear dh
    rintro mU mV mW ⟨q, A3_, c3_, dm, cn, lp, lq, hB2, hN2, ew, aM, cu⟩
    refine go_sp [(0, .v (.slice A l.length c)), (1, .v (.int .i64 v)), (2, .v (.bool flex)), (7, .p 0 0), (9, .v (.slice A_ ((bodyB W l v (Tree.mk n1 s2 b3 l4 u5) 0).length) c_)), (10, .v (.slice A3_ ((tagsK W l (Tree.mk n1 s2 b3 l4 u5) k2 ++ dm).length) c3_)), (11, .v (.int .i64 ((tagsN W l (Tree.mk n1 s2 b3 l4 u5) k2 + cn : Nat) : Int))), (14, .v (.int .i64 ((k2 : Nat) : Int))), (51, .v (.int .i64 (((knownI l).toNat : Nat) : Int))), (52, .v (.int .i64 ((k2 : Nat) : Int))), (55, .v (.slice A l.length c)), (56, .v (.int .i64 ((l.length : Nat) : Int))), (57, .v (.int .i64 ((q : Nat) : Int))), (58, .v (.bool (decide (((q : Nat) : Int) < ((l.length : Nat) : Int)))))] aM ew fun mX bA => ?_
    clear ew
    refine wp_seq ?_
    refine cond_of bA (b := decide (((q : Nat) : Int) < ((l.length : Nat) : Int))) kz (fun di => ?_) (fun di => ?_)
    ·
     have lr := of_decide_eq_true di
     refine wp_skip ?_
     refine then_normal ?_
     refine wp_seq ?_
     refine wp_block ?_
     refine go_seq_region [0, 1, 2, 3, 4, 5] kz ?_
     refine go_rn [0] [1, 2, 3, 4, 5] [(0, .v (.slice A l.length c)), (1, .v (.int .i64 v)), (2, .v (.bool flex)), (7, .p 0 0), (9, .v (.slice A_ ((bodyB W l v (Tree.mk n1 s2 b3 l4 u5) 0).length) c_)), (10, .v (.slice A3_ ((tagsK W l (Tree.mk n1 s2 b3 l4 u5) k2 ++ dm).length) c3_)), (11, .v (.int .i64 ((tagsN W l (Tree.mk n1 s2 b3 l4 u5) k2 + cn : Nat) : Int))), (14, .v (.int .i64 ((k2 : Nat) : Int))), (51, .v (.int .i64 (((knownI l).toNat : Nat) : Int))), (52, .v (.int .i64 ((k2 : Nat) : Int))), (55, .v (.slice A l.length c)), (56, .v (.int .i64 ((l.length : Nat) : Int))), (57, .v (.int .i64 ((q : Nat) : Int))), (59, .v (.int .i64 ((q : Nat) : Int)))] aM bA fun mY ey => ?_
     clear bA
     obtain ⟨kg, kh, iI, ls, dj⟩ := Slots.get h1 (i := q) (by omega)
     obtain ⟨ki, ap⟩ : ∃ x, l[q]? = some x := ⟨_, List.getElem?_eq_getElem (by omega)⟩
     have cw := h2 q ki ap
     obtain ⟨ab, ac, ae, af, aa, ag, ah, ai, bB, bC, lu, rfl, dl, kj, mZ⟩ := cw.open_
     rw [dl] at cw
     have km := kj.small
     rw [dl] at dj
     refine of_op (wpOp_index ey (t := 29) (A := A) (m := l.length) (q := ((q : Nat) : Int)) (d := 60) kz (e := 56) (size := 8) (bytes := 80) kz iI rfl (by omega) fun m4 ez => ?_)
     clear ey
     refine of_op (wpOp_load ez (t := 56) (b := kg) (o := kh + q * 8) (d := 61) kz (cs := [.int .i64 ab, .int .i64 ac, .int .i64 ae, .int .i64 af, .int .i64 aa, .int .i64 ag, .int .i64 ah, .slice bB ai.length bC]) (v := .agg #[.int .i64 ab, .int .i64 ac, .int .i64 ae, .int .i64 af, .int .i64 aa, .int .i64 ag, .int .i64 ah, .slice bB ai.length bC]) kz (AtF.move dj aM.step nilM keepF).at_ fun m5 eB => ?_)
     clear ez
     refine of_op (wpOp_alloc aM eB (d := 16) (cs := [.int .i64 0, .int .i64 0, .int .i64 0, .int .i64 0, .int .i64 0, .int .i64 0, .int .i64 0, .slice none 0 0]) kz fun m6 m7 m8 lv lw dp dq eC => ?_)
     clear eB aM
     refine go_rn [4] [5] [(0, .v (.slice A l.length c)), (1, .v (.int .i64 v)), (2, .v (.bool flex)), (7, .p 0 0), (9, .v (.slice A_ ((bodyB W l v (Tree.mk n1 s2 b3 l4 u5) 0).length) c_)), (10, .v (.slice A3_ ((tagsK W l (Tree.mk n1 s2 b3 l4 u5) k2 ++ dm).length) c3_)), (11, .v (.int .i64 ((tagsN W l (Tree.mk n1 s2 b3 l4 u5) k2 + cn : Nat) : Int))), (14, .v (.int .i64 ((k2 : Nat) : Int))), (15, .v (.int .i64 ((q : Nat) : Int))), (16, .p 1 0), (51, .v (.int .i64 (((knownI l).toNat : Nat) : Int))), (52, .v (.int .i64 ((k2 : Nat) : Int))), (55, .v (.slice A l.length c)), (56, .v (.int .i64 ((l.length : Nat) : Int))), (57, .v (.int .i64 ((q : Nat) : Int))), (61, .v (.agg #[.int .i64 ab, .int .i64 ac, .int .i64 ae, .int .i64 af, .int .i64 aa, .int .i64 ag, .int .i64 ah, .slice bB ai.length bC]))] dq eC fun m9 eD => ?_
     clear eC
     refine of_op (wpOp_store dq eD (oi := 1) (cs := [.int .i64 ab, .int .i64 ac, .int .i64 ae, .int .i64 af, .int .i64 aa, .int .i64 ag, .int .i64 ah, .slice bB ai.length bC]) kz fun nf dr eE eF => ?_)
     clear eD dq
     refine wpOps_nil (then_normal ?_)
     refine go_seq_drawK 12 kz eE fun ng dt aO du => ?_
     clear eE
     refine go_rnD [0, 1, 2, 3, 4] [(0, .v (.slice A l.length c)), (1, .v (.int .i64 v)), (2, .v (.bool flex)), (7, .p 0 0), (9, .v (.slice A_ ((bodyB W l v (Tree.mk n1 s2 b3 l4 u5) 0).length) c_)), (10, .v (.slice A3_ ((tagsK W l (Tree.mk n1 s2 b3 l4 u5) k2 ++ dm).length) c3_)), (11, .v (.int .i64 ((tagsN W l (Tree.mk n1 s2 b3 l4 u5) k2 + cn : Nat) : Int))), (14, .v (.int .i64 ((k2 : Nat) : Int))), (15, .v (.int .i64 ((q : Nat) : Int))), (16, .p 1 0), (51, .v (.int .i64 (((knownI l).toNat : Nat) : Int))), (52, .v (.int .i64 ((k2 : Nat) : Int))), (55, .v (.slice A l.length c)), (56, .v (.int .i64 ((l.length : Nat) : Int))), (57, .v (.int .i64 ((q : Nat) : Int))), (66, .v (.bool (aa == ((k2 : Nat) : Int))))] 7 (panicFree_then (panicFree_block (panicFree_then (panicFree_then (panicFree_block (panicFree_block (panicFree_then (panicFree_then (panicFree_block (panicFree_then panicFree_body)))))))))) (fun _ h => h.cells) du eF fun nh cz => ?_
     clear eF
     refine (Bool.eq_false_or_eq_true (aa == ((k2 : Nat) : Int))).elim (fun bD => ?_) (fun bD => ?_)
     ·
      have lx : aa = ((k2 : Nat) : Int) := by simpa using bD
      have eG := cz.cast (env' := [(0, .v (.slice A l.length c)), (1, .v (.int .i64 v)), (2, .v (.bool flex)), (7, .p 0 0), (9, .v (.slice A_ ((bodyB W l v (Tree.mk n1 s2 b3 l4 u5) 0).length) c_)), (10, .v (.slice A3_ ((tagsK W l (Tree.mk n1 s2 b3 l4 u5) k2 ++ dm).length) c3_)), (11, .v (.int .i64 ((tagsN W l (Tree.mk n1 s2 b3 l4 u5) k2 + cn : Nat) : Int))), (14, .v (.int .i64 ((k2 : Nat) : Int))), (15, .v (.int .i64 ((q : Nat) : Int))), (16, .p 1 0), (51, .v (.int .i64 (((knownI l).toNat : Nat) : Int))), (52, .v (.int .i64 ((k2 : Nat) : Int))), (55, .v (.slice A l.length c)), (56, .v (.int .i64 ((l.length : Nat) : Int))), (57, .v (.int .i64 ((q : Nat) : Int))), (66, .v (.bool true))]) (by rw [bD])
      clear cz
      refine go_rnD [5, 6, 7] [(0, .v (.slice A l.length c)), (1, .v (.int .i64 v)), (2, .v (.bool flex)), (7, .p 0 0), (9, .v (.slice A_ ((bodyB W l v (Tree.mk n1 s2 b3 l4 u5) 0).length) c_)), (10, .v (.slice A3_ ((tagsK W l (Tree.mk n1 s2 b3 l4 u5) k2 ++ dm).length) c3_)), (11, .v (.int .i64 ((tagsN W l (Tree.mk n1 s2 b3 l4 u5) k2 + cn : Nat) : Int))), (14, .v (.int .i64 ((k2 : Nat) : Int))), (15, .v (.int .i64 ((q : Nat) : Int))), (16, .p 1 0), (51, .v (.int .i64 (((knownI l).toNat : Nat) : Int))), (52, .v (.int .i64 ((k2 : Nat) : Int))), (55, .v (.slice A l.length c)), (56, .v (.int .i64 ((l.length : Nat) : Int))), (57, .v (.int .i64 ((q : Nat) : Int))), (66, .v (.bool true)), (67, .v (.agg #[.int .i64 ab, .int .i64 ac, .int .i64 ae, .int .i64 af, .int .i64 aa, .int .i64 ag, .int .i64 ah, .slice bB ai.length bC])), (68, .v (.agg #[.int .i64 n1, .slice A6 s2.length c7, .bool b3, .slice A8 l4.length c9, .slice aV u5.length aW])), (69, .v (.int .i64 ((q : Nat) : Int)))] 4 (panicFree_then (panicFree_block (panicFree_then (panicFree_then (panicFree_block (panicFree_block (panicFree_then (panicFree_then (panicFree_block (panicFree_then panicFree_body)))))))))) (fun _ h => h.cells) du eG fun ni eH => ?_
      clear eG
      refine anyC_op (i := 8) kz (wpOp_call eH (f := 42) (vs := [.agg #[.int .i64 n1, .slice A6 s2.length c7, .bool b3, .slice A8 l4.length c9, .slice aV u5.length aW], .int .i64 ((q : Nat) : Int)]) (d := 70) kz Tryd.call42 (sAt _ _ q _ _ (ht.move aO.step nilM aO.imm)) ?_)
      rintro e_ nj ⟨ly, rfl, iJ, bE⟩
      have dv := iJ.move bE nilM (fun b o h_ hb_ => aO.laid (G := F) bE b o (.inl h_) (Nat.lt_of_lt_of_le hb_ bE.size))
      obtain ⟨ko, kp, kq, ku, kv, kw, kx, ky, kA, kB, kC, lz, lA, dw, kD, kE, nk, nl⟩ := dv.open_
      rw [dw] at dv
      have kF := kD.small
      have kG := kE.small
      rw [dw]
      refine ⟨_, rfl, fun nm eI => ?_⟩
      have aZ := aO.next_nil bE
      have cA := aO.frN bE
      clear eH
      have iK := TT.ofW cA aZ
      refine ⟨fun _ => iK, ?_⟩
      refine anyC_op (i := 9) kz (wpOp_call eI (f := 44) (vs := [.agg #[.int .i64 ab, .int .i64 ac, .int .i64 ae, .int .i64 af, .int .i64 aa, .int .i64 ag, .int .i64 ah, .slice bB ai.length bC], .agg #[.int .i64 ko, .slice kw kp.length kx, .bool kq, .slice ky ku.length kA, .slice kB kv.length kC]]) (d := 71) kz Tryd.call44 (sUsual _ _ _ _ _ _ _ (cw.move aZ.step nilM aZ.imm) (Nat.le_refl _) dv) ?_)
      rintro e_ np ⟨rfl, eJ⟩
      refine ⟨_, rfl, fun nr eK => ?_⟩
      have bF := aZ.next_nil eJ
      have dx := aZ.frN eJ
      clear eI aZ
      have eL := TT.ofW (cA.trans dx) bF
      refine ⟨fun _ => eL, ?_⟩
      refine go_rnD [10, 11] [(0, .v (.slice A l.length c)), (1, .v (.int .i64 v)), (2, .v (.bool flex)), (7, .p 0 0), (9, .v (.slice A_ ((bodyB W l v (Tree.mk n1 s2 b3 l4 u5) 0).length) c_)), (10, .v (.slice A3_ ((tagsK W l (Tree.mk n1 s2 b3 l4 u5) k2 ++ dm).length) c3_)), (11, .v (.int .i64 ((tagsN W l (Tree.mk n1 s2 b3 l4 u5) k2 + cn : Nat) : Int))), (14, .v (.int .i64 ((k2 : Nat) : Int))), (15, .v (.int .i64 ((q : Nat) : Int))), (16, .p 1 0), (51, .v (.int .i64 (((knownI l).toNat : Nat) : Int))), (52, .v (.int .i64 ((k2 : Nat) : Int))), (55, .v (.slice A l.length c)), (56, .v (.int .i64 ((l.length : Nat) : Int))), (57, .v (.int .i64 ((q : Nat) : Int))), (73, .v (.bool (!(Fld.usual (Fld.mk ab ac ae af aa ag ah ai) (Tree.at_ (Tree.mk n1 s2 b3 l4 u5) q)))))] 0 (panicFree_then (panicFree_block (panicFree_then (panicFree_then (panicFree_block (panicFree_block (panicFree_then (panicFree_then (panicFree_block (panicFree_then panicFree_body)))))))))) (fun _ h => h.cells) eL eK fun ns bG => ?_
      clear eK
      refine anyC_done kz ?_ _
      refine then_normal ?_
      refine cond_of bG (b := !(Fld.usual (Fld.mk ab ac ae af aa ag ah ai) (Tree.at_ (Tree.mk n1 s2 b3 l4 u5) q))) kz (fun az => ?_) (fun az => ?_)
      ·
       refine go_seq_drawK 7 kz bF fun nt iL bH iM => ?_
       clear bF
       refine go_rnD [0, 1, 2, 3, 4] [(0, .v (.slice A l.length c)), (1, .v (.int .i64 v)), (2, .v (.bool flex)), (7, .p 0 0), (9, .v (.slice A_ ((bodyB W l v (Tree.mk n1 s2 b3 l4 u5) 0).length) c_)), (10, .v (.slice A3_ ((tagsK W l (Tree.mk n1 s2 b3 l4 u5) k2 ++ dm).length) c3_)), (11, .v (.int .i64 ((tagsN W l (Tree.mk n1 s2 b3 l4 u5) k2 + cn : Nat) : Int))), (14, .v (.int .i64 ((k2 : Nat) : Int))), (51, .v (.int .i64 (((knownI l).toNat : Nat) : Int))), (52, .v (.int .i64 ((k2 : Nat) : Int))), (55, .v (.slice A l.length c)), (56, .v (.int .i64 ((l.length : Nat) : Int))), (57, .v (.int .i64 ((q : Nat) : Int))), (74, .v (.agg #[.int .i64 ab, .int .i64 ac, .int .i64 ae, .int .i64 af, .int .i64 aa, .int .i64 ag, .int .i64 ah, .slice bB ai.length bC])), (75, .v (.int .i64 v)), (76, .v (.bool flex)), (77, .v (.agg #[.int .i64 n1, .slice A6 s2.length c7, .bool b3, .slice A8 l4.length c9, .slice aV u5.length aW])), (78, .v (.int .i64 ((q : Nat) : Int)))] 3 (panicFree_then (panicFree_block (panicFree_then (panicFree_then (panicFree_block (panicFree_block (panicFree_then (panicFree_then (panicFree_block (panicFree_then panicFree_body)))))))))) (fun _ h => h.cells) iM bG fun nu eM => ?_
       clear bG
       refine anyC_op (i := 5) kz (wpOp_call eM (f := 42) (vs := [.agg #[.int .i64 n1, .slice A6 s2.length c7, .bool b3, .slice A8 l4.length c9, .slice aV u5.length aW], .int .i64 ((q : Nat) : Int)]) (d := 79) kz Tryd.call42 (sAt _ _ q _ _ (ht.move bH.step nilM bH.imm)) ?_)
       rintro e_ nv ⟨lB, rfl, iN, bI⟩
       have dy := iN.move bI nilM (fun b o h_ hb_ => bH.laid (G := F) bI b o (.inl h_) (Nat.lt_of_lt_of_le hb_ bI.size))
       obtain ⟨kH, kI, kJ, kK, kL, kM, kN, kO, kP, kQ, kR, lC, lD, dz, kS, kT, nw, nx⟩ := dy.open_
       rw [dz] at dy
       have kU := kS.small
       have kV := kT.small
       rw [dz]
       refine ⟨_, rfl, fun ny eN => ?_⟩
       have bJ := bH.next_nil bI
       have dA := bH.frN bI
       clear eM
       have iO := TT.ofW dA bJ
       refine ⟨fun _ => iO, ?_⟩
       refine anyC_op (i := 6) kz (wpOp_call eN (f := 65) (vs := [.agg #[.int .i64 ab, .int .i64 ac, .int .i64 ae, .int .i64 af, .int .i64 aa, .int .i64 ag, .int .i64 ah, .slice bB ai.length bC], .int .i64 v, .bool flex, .agg #[.int .i64 kH, .slice kM kI.length kN, .bool kJ, .slice kO kK.length kP, .slice kQ kL.length kR]]) (d := 80) kz Tryd.call65 ( hW_ _ _ _ _ _ _ (List.mem_of_getElem? ap) (cw.move bJ.step nilM bJ.imm) dy (by have h_ := congrArg List.length hB2; rw [tagB_pos ap (by omega) (by simpa using az)] at h_; simp only [List.length_append] at h_; omega)) ?_)
       rintro e_ nz ⟨av, aw, rfl, iP, iQ⟩
       refine ⟨_, rfl, fun nA eO => ?_⟩
       obtain ⟨bK, eP⟩ := bJ.frFresh iQ (brow av aw 5 (W (Fld.mk ab ac ae af aa ag ah ai) (Tree.at_ (Tree.mk n1 s2 b3 l4 u5) q))) (Nat.le_refl _) iP
       clear eN bJ
       have kW : (W (Fld.mk ab ac ae af aa ag ah ai) (Tree.at_ (Tree.mk n1 s2 b3 l4 u5) q)).length ≤ 1099511627776 := by have h_ := congrArg List.length hB2; rw [tagB_pos ap (by omega) (by simpa using az)] at h_; simp only [List.length_append] at h_; omega
       have iR := TT.ofW (dA.trans eP) bK
       refine ⟨fun _ => iR, ?_⟩
       refine anyC_op (i := 7) kz (wpOp_pure [0, 1, 2, 7, 9, 10, 11, 14, 17, 51, 52, 55, 56, 57] bK.cells eO (env' := [(0, .v (.slice A l.length c)), (1, .v (.int .i64 v)), (2, .v (.bool flex)), (7, .p 0 0), (9, .v (.slice A_ ((bodyB W l v (Tree.mk n1 s2 b3 l4 u5) 0).length) c_)), (10, .v (.slice A3_ ((tagsK W l (Tree.mk n1 s2 b3 l4 u5) k2 ++ dm).length) c3_)), (11, .v (.int .i64 ((tagsN W l (Tree.mk n1 s2 b3 l4 u5) k2 + cn : Nat) : Int))), (14, .v (.int .i64 ((k2 : Nat) : Int))), (17, .v (.slice av ((W (Fld.mk ab ac ae af aa ag ah ai) (Tree.at_ (Tree.mk n1 s2 b3 l4 u5) q)).length) aw)), (51, .v (.int .i64 (((knownI l).toNat : Nat) : Int))), (52, .v (.int .i64 ((k2 : Nat) : Int))), (55, .v (.slice A l.length c)), (56, .v (.int .i64 ((l.length : Nat) : Int))), (57, .v (.int .i64 ((q : Nat) : Int)))]) kz fun nB eQ => ?_)
       clear eO
       refine ⟨fun h => absurd rfl h, ?_⟩
       refine anyC_done kz ?_ _
       refine then_normal ?_
       refine go_seq_region [0, 1, 2, 3, 4, 5, 6, 7, 8, 9, 10, 11, 12] kz ?_
       refine go_rn [0, 1, 2] [3, 4, 5, 6, 7, 8, 9, 10, 11, 12] [(0, .v (.slice A l.length c)), (1, .v (.int .i64 v)), (2, .v (.bool flex)), (7, .p 0 0), (9, .v (.slice A_ ((bodyB W l v (Tree.mk n1 s2 b3 l4 u5) 0).length) c_)), (11, .v (.int .i64 ((tagsN W l (Tree.mk n1 s2 b3 l4 u5) k2 + cn : Nat) : Int))), (14, .v (.int .i64 ((k2 : Nat) : Int))), (17, .v (.slice av ((W (Fld.mk ab ac ae af aa ag ah ai) (Tree.at_ (Tree.mk n1 s2 b3 l4 u5) q)).length) aw)), (51, .v (.int .i64 (((knownI l).toNat : Nat) : Int))), (52, .v (.int .i64 ((k2 : Nat) : Int))), (55, .v (.slice A l.length c)), (56, .v (.int .i64 ((l.length : Nat) : Int))), (57, .v (.int .i64 ((q : Nat) : Int))), (81, .v (.slice A3_ ((tagsK W l (Tree.mk n1 s2 b3 l4 u5) k2 ++ dm).length) c3_)), (83, .v (.int .u64 (IntKind.u64.wrap ((k2 : Nat) : Int))))] bK eQ fun nC eR => ?_
       clear eQ
       have iS : IntKind.u64.wrap ((k2 : Nat) : Int) = ((k2 : Nat) : Int) := by simp only [wrap_u64, wrap_u32, wrap_u16, IntKind.wrap_i64, IntKind.wrap_i32]; omega
       have eS := EnvOk.pick eR (ks := [0, 1, 2, 7, 9, 11, 14, 17, 51, 52, 55, 56, 57, 81, 83]) (env' := [(0, .v (.slice A l.length c)), (1, .v (.int .i64 v)), (2, .v (.bool flex)), (7, .p 0 0), (9, .v (.slice A_ ((bodyB W l v (Tree.mk n1 s2 b3 l4 u5) 0).length) c_)), (11, .v (.int .i64 ((tagsN W l (Tree.mk n1 s2 b3 l4 u5) k2 + cn : Nat) : Int))), (14, .v (.int .i64 ((k2 : Nat) : Int))), (17, .v (.slice av ((W (Fld.mk ab ac ae af aa ag ah ai) (Tree.at_ (Tree.mk n1 s2 b3 l4 u5) q)).length) aw)), (51, .v (.int .i64 (((knownI l).toNat : Nat) : Int))), (52, .v (.int .i64 ((k2 : Nat) : Int))), (55, .v (.slice A l.length c)), (56, .v (.int .i64 ((l.length : Nat) : Int))), (57, .v (.int .i64 ((q : Nat) : Int))), (81, .v (.slice A3_ ((tagsK W l (Tree.mk n1 s2 b3 l4 u5) k2 ++ dm).length) c3_)), (83, .v (.int .u64 (IntKind.u64.wrap ((k2 : Nat) : Int))))]) kz
       have eU := eS.cast (env' := [(0, .v (.slice A l.length c)), (1, .v (.int .i64 v)), (2, .v (.bool flex)), (7, .p 0 0), (9, .v (.slice A_ ((bodyB W l v (Tree.mk n1 s2 b3 l4 u5) 0).length) c_)), (11, .v (.int .i64 ((tagsN W l (Tree.mk n1 s2 b3 l4 u5) k2 + cn : Nat) : Int))), (14, .v (.int .i64 ((k2 : Nat) : Int))), (17, .v (.slice av ((W (Fld.mk ab ac ae af aa ag ah ai) (Tree.at_ (Tree.mk n1 s2 b3 l4 u5) q)).length) aw)), (51, .v (.int .i64 (((knownI l).toNat : Nat) : Int))), (52, .v (.int .i64 ((k2 : Nat) : Int))), (55, .v (.slice A l.length c)), (56, .v (.int .i64 ((l.length : Nat) : Int))), (57, .v (.int .i64 ((q : Nat) : Int))), (81, .v (.slice A3_ ((tagsK W l (Tree.mk n1 s2 b3 l4 u5) k2 ++ dm).length) c3_)), (83, .v (.int .u64 ((k2 : Nat) : Int)))]) (by rw [iS])
       clear eR eS
       refine of_op (wpOp_call eU (f := 67) (vs := [.int .u64 ((k2 : Nat) : Int)]) (d := 84) kz Tryd.call67 (sUvarint k2 (by omega) _) ?_)
       rintro e_ nD ⟨bX, bY, rfl, iT, iU⟩
       refine ⟨_, rfl, fun nE eV => ?_⟩
       obtain ⟨cB, iV⟩ := bK.frFresh iU (brow bX bY 5 (uv k2)) (Nat.le_refl _) iT
       clear eU bK
       refine of_op (wpOp_append cB eV (k := 1) (d := 85) (t := 22) (e := 5) (size := 1) (bytes := 1) (A := A3_) (As := bX) (m0 := ((tagsK W l (Tree.mk n1 s2 b3 l4 u5) k2 ++ dm).length)) (c := c3_) (m := ((uv k2).length)) (cs := bY) (xs := (bc (tagsK W l (Tree.mk n1 s2 b3 l4 u5) k2 ++ dm))) (news := bc (uv k2)) kz kz rfl (own_src (cB.own 3 _ rfl) (bc_one _)) (own_cap (cB.own 3 _ rfl)) (by have h_ := congrArg List.length hB2; rw [tagB_pos ap (by omega) (by simpa using az)] at h_; simp only [List.length_append] at h_ ⊢; omega) fun aP aQ nF nG iW eW eX => ?_)
       clear eV cB
       have iX : (⟨aP, aQ, 5, 1, (tagsK W l (Tree.mk n1 s2 b3 l4 u5) k2 ++ dm).length + (uv k2).length, bc (tagsK W l (Tree.mk n1 s2 b3 l4 u5) k2 ++ dm) ++ bc (uv k2)⟩ : Rw) = brow aP aQ 5 (tagsK W l (Tree.mk n1 s2 b3 l4 u5) k2 ++ dm ++ (uv k2)) := brow_eq (rfl) rfl
       obtain ⟨dB, iY⟩ := eW.rowEq 1 [brow A_ c_ 5 (bodyB W l v (Tree.mk n1 s2 b3 l4 u5) 0), brow aP aQ 5 (tagsK W l (Tree.mk n1 s2 b3 l4 u5) k2 ++ dm ++ (uv k2)), brow av aw 5 (W (Fld.mk ab ac ae af aa ag ah ai) (Tree.at_ (Tree.mk n1 s2 b3 l4 u5) q)), brow bX bY 5 (uv k2)] iX
       clear eW
       have eY := EnvOk.pick eX (ks := [0, 1, 2, 7, 9, 11, 14, 17, 51, 52, 55, 56, 57, 81, 83, 84, 85]) (env' := [(0, .v (.slice A l.length c)), (1, .v (.int .i64 v)), (2, .v (.bool flex)), (7, .p 0 0), (9, .v (.slice A_ ((bodyB W l v (Tree.mk n1 s2 b3 l4 u5) 0).length) c_)), (11, .v (.int .i64 ((tagsN W l (Tree.mk n1 s2 b3 l4 u5) k2 + cn : Nat) : Int))), (14, .v (.int .i64 ((k2 : Nat) : Int))), (17, .v (.slice av ((W (Fld.mk ab ac ae af aa ag ah ai) (Tree.at_ (Tree.mk n1 s2 b3 l4 u5) q)).length) aw)), (51, .v (.int .i64 (((knownI l).toNat : Nat) : Int))), (52, .v (.int .i64 ((k2 : Nat) : Int))), (55, .v (.slice A l.length c)), (56, .v (.int .i64 ((l.length : Nat) : Int))), (57, .v (.int .i64 ((q : Nat) : Int))), (81, .v (.slice A3_ ((tagsK W l (Tree.mk n1 s2 b3 l4 u5) k2 ++ dm).length) c3_)), (83, .v (.int .u64 ((k2 : Nat) : Int))), (84, .v (.slice bX ((uv k2).length) bY)), (85, .v (.slice aP ((tagsK W l (Tree.mk n1 s2 b3 l4 u5) k2 ++ dm).length + (uv k2).length) aQ))]) kz
       have eZ := eY.cast (env' := [(0, .v (.slice A l.length c)), (1, .v (.int .i64 v)), (2, .v (.bool flex)), (7, .p 0 0), (9, .v (.slice A_ ((bodyB W l v (Tree.mk n1 s2 b3 l4 u5) 0).length) c_)), (11, .v (.int .i64 ((tagsN W l (Tree.mk n1 s2 b3 l4 u5) k2 + cn : Nat) : Int))), (14, .v (.int .i64 ((k2 : Nat) : Int))), (17, .v (.slice av ((W (Fld.mk ab ac ae af aa ag ah ai) (Tree.at_ (Tree.mk n1 s2 b3 l4 u5) q)).length) aw)), (51, .v (.int .i64 (((knownI l).toNat : Nat) : Int))), (52, .v (.int .i64 ((k2 : Nat) : Int))), (55, .v (.slice A l.length c)), (56, .v (.int .i64 ((l.length : Nat) : Int))), (57, .v (.int .i64 ((q : Nat) : Int))), (81, .v (.slice A3_ ((tagsK W l (Tree.mk n1 s2 b3 l4 u5) k2 ++ dm).length) c3_)), (83, .v (.int .u64 ((k2 : Nat) : Int))), (84, .v (.slice bX ((uv k2).length) bY)), (85, .v (.slice aP ((tagsK W l (Tree.mk n1 s2 b3 l4 u5) k2 ++ dm ++ (uv k2)).length) aQ))]) (by simp only [List.length_append, List.length_cons, List.length_nil, Nat.zero_add])
       clear eX
       clear eY
       refine go_rn [5, 6, 7] [8, 9, 10, 11, 12] [(0, .v (.slice A l.length c)), (1, .v (.int .i64 v)), (2, .v (.bool flex)), (7, .p 0 0), (9, .v (.slice A_ ((bodyB W l v (Tree.mk n1 s2 b3 l4 u5) 0).length) c_)), (11, .v (.int .i64 ((tagsN W l (Tree.mk n1 s2 b3 l4 u5) k2 + cn : Nat) : Int))), (14, .v (.int .i64 ((k2 : Nat) : Int))), (17, .v (.slice av ((W (Fld.mk ab ac ae af aa ag ah ai) (Tree.at_ (Tree.mk n1 s2 b3 l4 u5) q)).length) aw)), (51, .v (.int .i64 (((knownI l).toNat : Nat) : Int))), (52, .v (.int .i64 ((k2 : Nat) : Int))), (55, .v (.slice A l.length c)), (56, .v (.int .i64 ((l.length : Nat) : Int))), (57, .v (.int .i64 ((q : Nat) : Int))), (85, .v (.slice aP ((tagsK W l (Tree.mk n1 s2 b3 l4 u5) k2 ++ dm ++ (uv k2)).length) aQ)), (88, .v (.int .u64 (IntKind.u64.wrap (((W (Fld.mk ab ac ae af aa ag ah ai) (Tree.at_ (Tree.mk n1 s2 b3 l4 u5) q)).length : Nat) : Int))))] dB eZ fun nH e9 => ?_
       clear eZ
       have iZ : IntKind.u64.wrap (((W (Fld.mk ab ac ae af aa ag ah ai) (Tree.at_ (Tree.mk n1 s2 b3 l4 u5) q)).length : Nat) : Int) = (((W (Fld.mk ab ac ae af aa ag ah ai) (Tree.at_ (Tree.mk n1 s2 b3 l4 u5) q)).length : Nat) : Int) := by simp only [wrap_u64, wrap_u32, wrap_u16, IntKind.wrap_i64, IntKind.wrap_i32]; omega
       have fa := EnvOk.pick e9 (ks := [0, 1, 2, 7, 9, 11, 14, 17, 51, 52, 55, 56, 57, 85, 88]) (env' := [(0, .v (.slice A l.length c)), (1, .v (.int .i64 v)), (2, .v (.bool flex)), (7, .p 0 0), (9, .v (.slice A_ ((bodyB W l v (Tree.mk n1 s2 b3 l4 u5) 0).length) c_)), (11, .v (.int .i64 ((tagsN W l (Tree.mk n1 s2 b3 l4 u5) k2 + cn : Nat) : Int))), (14, .v (.int .i64 ((k2 : Nat) : Int))), (17, .v (.slice av ((W (Fld.mk ab ac ae af aa ag ah ai) (Tree.at_ (Tree.mk n1 s2 b3 l4 u5) q)).length) aw)), (51, .v (.int .i64 (((knownI l).toNat : Nat) : Int))), (52, .v (.int .i64 ((k2 : Nat) : Int))), (55, .v (.slice A l.length c)), (56, .v (.int .i64 ((l.length : Nat) : Int))), (57, .v (.int .i64 ((q : Nat) : Int))), (85, .v (.slice aP ((tagsK W l (Tree.mk n1 s2 b3 l4 u5) k2 ++ dm ++ (uv k2)).length) aQ)), (88, .v (.int .u64 (IntKind.u64.wrap (((W (Fld.mk ab ac ae af aa ag ah ai) (Tree.at_ (Tree.mk n1 s2 b3 l4 u5) q)).length : Nat) : Int))))]) kz
       have fb := fa.cast (env' := [(0, .v (.slice A l.length c)), (1, .v (.int .i64 v)), (2, .v (.bool flex)), (7, .p 0 0), (9, .v (.slice A_ ((bodyB W l v (Tree.mk n1 s2 b3 l4 u5) 0).length) c_)), (11, .v (.int .i64 ((tagsN W l (Tree.mk n1 s2 b3 l4 u5) k2 + cn : Nat) : Int))), (14, .v (.int .i64 ((k2 : Nat) : Int))), (17, .v (.slice av ((W (Fld.mk ab ac ae af aa ag ah ai) (Tree.at_ (Tree.mk n1 s2 b3 l4 u5) q)).length) aw)), (51, .v (.int .i64 (((knownI l).toNat : Nat) : Int))), (52, .v (.int .i64 ((k2 : Nat) : Int))), (55, .v (.slice A l.length c)), (56, .v (.int .i64 ((l.length : Nat) : Int))), (57, .v (.int .i64 ((q : Nat) : Int))), (85, .v (.slice aP ((tagsK W l (Tree.mk n1 s2 b3 l4 u5) k2 ++ dm ++ (uv k2)).length) aQ)), (88, .v (.int .u64 (((W (Fld.mk ab ac ae af aa ag ah ai) (Tree.at_ (Tree.mk n1 s2 b3 l4 u5) q)).length : Nat) : Int)))]) (by rw [iZ])
       clear e9 fa
       refine of_op (wpOp_call fb (f := 67) (vs := [.int .u64 (((W (Fld.mk ab ac ae af aa ag ah ai) (Tree.at_ (Tree.mk n1 s2 b3 l4 u5) q)).length : Nat) : Int)]) (d := 89) kz Tryd.call67 (sUvarint ((W (Fld.mk ab ac ae af aa ag ah ai) (Tree.at_ (Tree.mk n1 s2 b3 l4 u5) q)).length) (by omega) _) ?_)
       rintro e_ nI ⟨cO, cP, rfl, i6, i7⟩
       refine ⟨_, rfl, fun nJ fe => ?_⟩
       obtain ⟨cC, ja⟩ := dB.frFresh i7 (brow cO cP 5 (uv ((W (Fld.mk ab ac ae af aa ag ah ai) (Tree.at_ (Tree.mk n1 s2 b3 l4 u5) q)).length))) (Nat.le_refl _) i6
       clear fb dB
       refine of_op (wpOp_append cC fe (k := 1) (d := 90) (t := 22) (e := 5) (size := 1) (bytes := 1) (A := aP) (As := cO) (m0 := ((tagsK W l (Tree.mk n1 s2 b3 l4 u5) k2 ++ dm ++ (uv k2)).length)) (c := aQ) (m := ((uv ((W (Fld.mk ab ac ae af aa ag ah ai) (Tree.at_ (Tree.mk n1 s2 b3 l4 u5) q)).length)).length)) (cs := cP) (xs := (bc (tagsK W l (Tree.mk n1 s2 b3 l4 u5) k2 ++ dm ++ (uv k2)))) (news := bc (uv ((W (Fld.mk ab ac ae af aa ag ah ai) (Tree.at_ (Tree.mk n1 s2 b3 l4 u5) q)).length))) kz kz rfl (own_src (cC.own 4 _ rfl) (bc_one _)) (own_cap (cC.own 4 _ rfl)) (by have h_ := congrArg List.length hB2; rw [tagB_pos ap (by omega) (by simpa using az)] at h_; simp only [List.length_append] at h_ ⊢; omega) fun bd bf nK nL jb ff fg => ?_)
       clear fe cC
       have jc : (⟨bd, bf, 5, 1, (tagsK W l (Tree.mk n1 s2 b3 l4 u5) k2 ++ dm ++ (uv k2)).length + (uv ((W (Fld.mk ab ac ae af aa ag ah ai) (Tree.at_ (Tree.mk n1 s2 b3 l4 u5) q)).length)).length, bc (tagsK W l (Tree.mk n1 s2 b3 l4 u5) k2 ++ dm ++ (uv k2)) ++ bc (uv ((W (Fld.mk ab ac ae af aa ag ah ai) (Tree.at_ (Tree.mk n1 s2 b3 l4 u5) q)).length))⟩ : Rw) = brow bd bf 5 (tagsK W l (Tree.mk n1 s2 b3 l4 u5) k2 ++ dm ++ (uv k2) ++ (uv ((W (Fld.mk ab ac ae af aa ag ah ai) (Tree.at_ (Tree.mk n1 s2 b3 l4 u5) q)).length))) := brow_eq (rfl) rfl
       obtain ⟨bL, jd⟩ := ff.rowEq 1 [brow A_ c_ 5 (bodyB W l v (Tree.mk n1 s2 b3 l4 u5) 0), brow bd bf 5 (tagsK W l (Tree.mk n1 s2 b3 l4 u5) k2 ++ dm ++ (uv k2) ++ (uv ((W (Fld.mk ab ac ae af aa ag ah ai) (Tree.at_ (Tree.mk n1 s2 b3 l4 u5) q)).length))), brow av aw 5 (W (Fld.mk ab ac ae af aa ag ah ai) (Tree.at_ (Tree.mk n1 s2 b3 l4 u5) q)), brow bX bY 5 (uv k2), brow cO cP 5 (uv ((W (Fld.mk ab ac ae af aa ag ah ai) (Tree.at_ (Tree.mk n1 s2 b3 l4 u5) q)).length))] jc
       clear ff
       have fh := EnvOk.pick fg (ks := [0, 1, 2, 7, 9, 11, 14, 17, 51, 52, 55, 56, 57, 85, 88, 89, 90]) (env' := [(0, .v (.slice A l.length c)), (1, .v (.int .i64 v)), (2, .v (.bool flex)), (7, .p 0 0), (9, .v (.slice A_ ((bodyB W l v (Tree.mk n1 s2 b3 l4 u5) 0).length) c_)), (11, .v (.int .i64 ((tagsN W l (Tree.mk n1 s2 b3 l4 u5) k2 + cn : Nat) : Int))), (14, .v (.int .i64 ((k2 : Nat) : Int))), (17, .v (.slice av ((W (Fld.mk ab ac ae af aa ag ah ai) (Tree.at_ (Tree.mk n1 s2 b3 l4 u5) q)).length) aw)), (51, .v (.int .i64 (((knownI l).toNat : Nat) : Int))), (52, .v (.int .i64 ((k2 : Nat) : Int))), (55, .v (.slice A l.length c)), (56, .v (.int .i64 ((l.length : Nat) : Int))), (57, .v (.int .i64 ((q : Nat) : Int))), (85, .v (.slice aP ((tagsK W l (Tree.mk n1 s2 b3 l4 u5) k2 ++ dm ++ (uv k2)).length) aQ)), (88, .v (.int .u64 (((W (Fld.mk ab ac ae af aa ag ah ai) (Tree.at_ (Tree.mk n1 s2 b3 l4 u5) q)).length : Nat) : Int))), (89, .v (.slice cO ((uv ((W (Fld.mk ab ac ae af aa ag ah ai) (Tree.at_ (Tree.mk n1 s2 b3 l4 u5) q)).length)).length) cP)), (90, .v (.slice bd ((tagsK W l (Tree.mk n1 s2 b3 l4 u5) k2 ++ dm ++ (uv k2)).length + (uv ((W (Fld.mk ab ac ae af aa ag ah ai) (Tree.at_ (Tree.mk n1 s2 b3 l4 u5) q)).length)).length) bf))]) kz
       have fi := fh.cast (env' := [(0, .v (.slice A l.length c)), (1, .v (.int .i64 v)), (2, .v (.bool flex)), (7, .p 0 0), (9, .v (.slice A_ ((bodyB W l v (Tree.mk n1 s2 b3 l4 u5) 0).length) c_)), (11, .v (.int .i64 ((tagsN W l (Tree.mk n1 s2 b3 l4 u5) k2 + cn : Nat) : Int))), (14, .v (.int .i64 ((k2 : Nat) : Int))), (17, .v (.slice av ((W (Fld.mk ab ac ae af aa ag ah ai) (Tree.at_ (Tree.mk n1 s2 b3 l4 u5) q)).length) aw)), (51, .v (.int .i64 (((knownI l).toNat : Nat) : Int))), (52, .v (.int .i64 ((k2 : Nat) : Int))), (55, .v (.slice A l.length c)), (56, .v (.int .i64 ((l.length : Nat) : Int))), (57, .v (.int .i64 ((q : Nat) : Int))), (85, .v (.slice aP ((tagsK W l (Tree.mk n1 s2 b3 l4 u5) k2 ++ dm ++ (uv k2)).length) aQ)), (88, .v (.int .u64 (((W (Fld.mk ab ac ae af aa ag ah ai) (Tree.at_ (Tree.mk n1 s2 b3 l4 u5) q)).length : Nat) : Int))), (89, .v (.slice cO ((uv ((W (Fld.mk ab ac ae af aa ag ah ai) (Tree.at_ (Tree.mk n1 s2 b3 l4 u5) q)).length)).length) cP)), (90, .v (.slice bd ((tagsK W l (Tree.mk n1 s2 b3 l4 u5) k2 ++ dm ++ (uv k2) ++ (uv ((W (Fld.mk ab ac ae af aa ag ah ai) (Tree.at_ (Tree.mk n1 s2 b3 l4 u5) q)).length))).length) bf))]) (by simp only [List.length_append, List.length_cons, List.length_nil, Nat.zero_add])
       clear fg
       clear fh
       refine go_rn [10] [11, 12] [(0, .v (.slice A l.length c)), (1, .v (.int .i64 v)), (2, .v (.bool flex)), (7, .p 0 0), (9, .v (.slice A_ ((bodyB W l v (Tree.mk n1 s2 b3 l4 u5) 0).length) c_)), (11, .v (.int .i64 ((tagsN W l (Tree.mk n1 s2 b3 l4 u5) k2 + cn : Nat) : Int))), (14, .v (.int .i64 ((k2 : Nat) : Int))), (51, .v (.int .i64 (((knownI l).toNat : Nat) : Int))), (52, .v (.int .i64 ((k2 : Nat) : Int))), (55, .v (.slice A l.length c)), (56, .v (.int .i64 ((l.length : Nat) : Int))), (57, .v (.int .i64 ((q : Nat) : Int))), (90, .v (.slice bd ((tagsK W l (Tree.mk n1 s2 b3 l4 u5) k2 ++ dm ++ (uv k2) ++ (uv ((W (Fld.mk ab ac ae af aa ag ah ai) (Tree.at_ (Tree.mk n1 s2 b3 l4 u5) q)).length))).length) bf)), (91, .v (.slice av ((W (Fld.mk ab ac ae af aa ag ah ai) (Tree.at_ (Tree.mk n1 s2 b3 l4 u5) q)).length) aw))] bL fi fun nM fj => ?_
       clear fi
       refine of_op (wpOp_append bL fj (k := 1) (d := 92) (t := 22) (e := 5) (size := 1) (bytes := 1) (A := bd) (As := av) (m0 := ((tagsK W l (Tree.mk n1 s2 b3 l4 u5) k2 ++ dm ++ (uv k2) ++ (uv ((W (Fld.mk ab ac ae af aa ag ah ai) (Tree.at_ (Tree.mk n1 s2 b3 l4 u5) q)).length))).length)) (c := bf) (m := ((W (Fld.mk ab ac ae af aa ag ah ai) (Tree.at_ (Tree.mk n1 s2 b3 l4 u5) q)).length)) (cs := aw) (xs := (bc (tagsK W l (Tree.mk n1 s2 b3 l4 u5) k2 ++ dm ++ (uv k2) ++ (uv ((W (Fld.mk ab ac ae af aa ag ah ai) (Tree.at_ (Tree.mk n1 s2 b3 l4 u5) q)).length))))) (news := bc (W (Fld.mk ab ac ae af aa ag ah ai) (Tree.at_ (Tree.mk n1 s2 b3 l4 u5) q))) kz kz rfl (own_src (bL.own 2 _ rfl) (bc_one _)) (own_cap (bL.own 2 _ rfl)) (by have h_ := congrArg List.length hB2; rw [tagB_pos ap (by omega) (by simpa using az)] at h_; simp only [List.length_append] at h_ ⊢; omega) fun aI aJ nN nO je fk fl => ?_)
       clear fj bL
       have jf : (⟨aI, aJ, 5, 1, (tagsK W l (Tree.mk n1 s2 b3 l4 u5) k2 ++ dm ++ (uv k2) ++ (uv ((W (Fld.mk ab ac ae af aa ag ah ai) (Tree.at_ (Tree.mk n1 s2 b3 l4 u5) q)).length))).length + (W (Fld.mk ab ac ae af aa ag ah ai) (Tree.at_ (Tree.mk n1 s2 b3 l4 u5) q)).length, bc (tagsK W l (Tree.mk n1 s2 b3 l4 u5) k2 ++ dm ++ (uv k2) ++ (uv ((W (Fld.mk ab ac ae af aa ag ah ai) (Tree.at_ (Tree.mk n1 s2 b3 l4 u5) q)).length))) ++ bc (W (Fld.mk ab ac ae af aa ag ah ai) (Tree.at_ (Tree.mk n1 s2 b3 l4 u5) q))⟩ : Rw) = brow aI aJ 5 (tagsK W l (Tree.mk n1 s2 b3 l4 u5) k2 ++ dm ++ (uv k2) ++ (uv ((W (Fld.mk ab ac ae af aa ag ah ai) (Tree.at_ (Tree.mk n1 s2 b3 l4 u5) q)).length)) ++ (W (Fld.mk ab ac ae af aa ag ah ai) (Tree.at_ (Tree.mk n1 s2 b3 l4 u5) q))) := brow_eq (rfl) rfl
       obtain ⟨cD, jg⟩ := fk.rowEq 1 [brow A_ c_ 5 (bodyB W l v (Tree.mk n1 s2 b3 l4 u5) 0), brow aI aJ 5 (tagsK W l (Tree.mk n1 s2 b3 l4 u5) k2 ++ dm ++ (uv k2) ++ (uv ((W (Fld.mk ab ac ae af aa ag ah ai) (Tree.at_ (Tree.mk n1 s2 b3 l4 u5) q)).length)) ++ (W (Fld.mk ab ac ae af aa ag ah ai) (Tree.at_ (Tree.mk n1 s2 b3 l4 u5) q))), brow av aw 5 (W (Fld.mk ab ac ae af aa ag ah ai) (Tree.at_ (Tree.mk n1 s2 b3 l4 u5) q)), brow bX bY 5 (uv k2), brow cO cP 5 (uv ((W (Fld.mk ab ac ae af aa ag ah ai) (Tree.at_ (Tree.mk n1 s2 b3 l4 u5) q)).length))] jf
       clear fk
       have fm := EnvOk.pick fl (ks := [0, 1, 2, 7, 9, 11, 14, 51, 52, 55, 56, 57, 90, 91, 92]) (env' := [(0, .v (.slice A l.length c)), (1, .v (.int .i64 v)), (2, .v (.bool flex)), (7, .p 0 0), (9, .v (.slice A_ ((bodyB W l v (Tree.mk n1 s2 b3 l4 u5) 0).length) c_)), (11, .v (.int .i64 ((tagsN W l (Tree.mk n1 s2 b3 l4 u5) k2 + cn : Nat) : Int))), (14, .v (.int .i64 ((k2 : Nat) : Int))), (51, .v (.int .i64 (((knownI l).toNat : Nat) : Int))), (52, .v (.int .i64 ((k2 : Nat) : Int))), (55, .v (.slice A l.length c)), (56, .v (.int .i64 ((l.length : Nat) : Int))), (57, .v (.int .i64 ((q : Nat) : Int))), (90, .v (.slice bd ((tagsK W l (Tree.mk n1 s2 b3 l4 u5) k2 ++ dm ++ (uv k2) ++ (uv ((W (Fld.mk ab ac ae af aa ag ah ai) (Tree.at_ (Tree.mk n1 s2 b3 l4 u5) q)).length))).length) bf)), (91, .v (.slice av ((W (Fld.mk ab ac ae af aa ag ah ai) (Tree.at_ (Tree.mk n1 s2 b3 l4 u5) q)).length) aw)), (92, .v (.slice aI ((tagsK W l (Tree.mk n1 s2 b3 l4 u5) k2 ++ dm ++ (uv k2) ++ (uv ((W (Fld.mk ab ac ae af aa ag ah ai) (Tree.at_ (Tree.mk n1 s2 b3 l4 u5) q)).length))).length + (W (Fld.mk ab ac ae af aa ag ah ai) (Tree.at_ (Tree.mk n1 s2 b3 l4 u5) q)).length) aJ))]) kz
       have fo := fm.cast (env' := [(0, .v (.slice A l.length c)), (1, .v (.int .i64 v)), (2, .v (.bool flex)), (7, .p 0 0), (9, .v (.slice A_ ((bodyB W l v (Tree.mk n1 s2 b3 l4 u5) 0).length) c_)), (11, .v (.int .i64 ((tagsN W l (Tree.mk n1 s2 b3 l4 u5) k2 + cn : Nat) : Int))), (14, .v (.int .i64 ((k2 : Nat) : Int))), (51, .v (.int .i64 (((knownI l).toNat : Nat) : Int))), (52, .v (.int .i64 ((k2 : Nat) : Int))), (55, .v (.slice A l.length c)), (56, .v (.int .i64 ((l.length : Nat) : Int))), (57, .v (.int .i64 ((q : Nat) : Int))), (90, .v (.slice bd ((tagsK W l (Tree.mk n1 s2 b3 l4 u5) k2 ++ dm ++ (uv k2) ++ (uv ((W (Fld.mk ab ac ae af aa ag ah ai) (Tree.at_ (Tree.mk n1 s2 b3 l4 u5) q)).length))).length) bf)), (91, .v (.slice av ((W (Fld.mk ab ac ae af aa ag ah ai) (Tree.at_ (Tree.mk n1 s2 b3 l4 u5) q)).length) aw)), (92, .v (.slice aI ((tagsK W l (Tree.mk n1 s2 b3 l4 u5) k2 ++ dm ++ (uv k2) ++ (uv ((W (Fld.mk ab ac ae af aa ag ah ai) (Tree.at_ (Tree.mk n1 s2 b3 l4 u5) q)).length)) ++ (W (Fld.mk ab ac ae af aa ag ah ai) (Tree.at_ (Tree.mk n1 s2 b3 l4 u5) q))).length) aJ))]) (by simp only [List.length_append, List.length_cons, List.length_nil, Nat.zero_add])
       clear fl
       clear fm
       refine go_rn [12] [] [(0, .v (.slice A l.length c)), (1, .v (.int .i64 v)), (2, .v (.bool flex)), (7, .p 0 0), (9, .v (.slice A_ ((bodyB W l v (Tree.mk n1 s2 b3 l4 u5) 0).length) c_)), (10, .v (.slice aI ((tagsK W l (Tree.mk n1 s2 b3 l4 u5) k2 ++ dm ++ (uv k2) ++ (uv ((W (Fld.mk ab ac ae af aa ag ah ai) (Tree.at_ (Tree.mk n1 s2 b3 l4 u5) q)).length)) ++ (W (Fld.mk ab ac ae af aa ag ah ai) (Tree.at_ (Tree.mk n1 s2 b3 l4 u5) q))).length) aJ)), (11, .v (.int .i64 ((tagsN W l (Tree.mk n1 s2 b3 l4 u5) k2 + cn : Nat) : Int))), (14, .v (.int .i64 ((k2 : Nat) : Int))), (51, .v (.int .i64 (((knownI l).toNat : Nat) : Int))), (52, .v (.int .i64 ((k2 : Nat) : Int))), (55, .v (.slice A l.length c)), (56, .v (.int .i64 ((l.length : Nat) : Int))), (57, .v (.int .i64 ((q : Nat) : Int)))] cD fo fun nP fq => ?_
       clear fo
       refine wpOps_nil (then_normal ?_)
       refine go_region [0, 1, 2] kz ?_
       refine go_rn [0, 1, 2] [] [(0, .v (.slice A l.length c)), (1, .v (.int .i64 v)), (2, .v (.bool flex)), (7, .p 0 0), (9, .v (.slice A_ ((bodyB W l v (Tree.mk n1 s2 b3 l4 u5) 0).length) c_)), (10, .v (.slice aI ((tagsK W l (Tree.mk n1 s2 b3 l4 u5) k2 ++ dm ++ (uv k2) ++ (uv ((W (Fld.mk ab ac ae af aa ag ah ai) (Tree.at_ (Tree.mk n1 s2 b3 l4 u5) q)).length)) ++ (W (Fld.mk ab ac ae af aa ag ah ai) (Tree.at_ (Tree.mk n1 s2 b3 l4 u5) q))).length) aJ)), (11, .v (.int .i64 (IntKind.i64.wrap (((tagsN W l (Tree.mk n1 s2 b3 l4 u5) k2 + cn : Nat) : Int) + 1)))), (14, .v (.int .i64 ((k2 : Nat) : Int))), (51, .v (.int .i64 (((knownI l).toNat : Nat) : Int))), (52, .v (.int .i64 ((k2 : Nat) : Int))), (55, .v (.slice A l.length c)), (56, .v (.int .i64 ((l.length : Nat) : Int))), (57, .v (.int .i64 ((q : Nat) : Int)))] cD fq fun nQ fr => ?_
       clear fq
       refine wpOps_nil ?_
       refine block_normal ?_
       refine then_normal ?_
       refine go_region [0, 1] kz ?_
       refine go_rn [0, 1] [] [(0, .v (.slice A l.length c)), (1, .v (.int .i64 v)), (2, .v (.bool flex)), (7, .p 0 0), (9, .v (.slice A_ ((bodyB W l v (Tree.mk n1 s2 b3 l4 u5) 0).length) c_)), (10, .v (.slice aI ((tagsK W l (Tree.mk n1 s2 b3 l4 u5) k2 ++ dm ++ (uv k2) ++ (uv ((W (Fld.mk ab ac ae af aa ag ah ai) (Tree.at_ (Tree.mk n1 s2 b3 l4 u5) q)).length)) ++ (W (Fld.mk ab ac ae af aa ag ah ai) (Tree.at_ (Tree.mk n1 s2 b3 l4 u5) q))).length) aJ)), (11, .v (.int .i64 (IntKind.i64.wrap (((tagsN W l (Tree.mk n1 s2 b3 l4 u5) k2 + cn : Nat) : Int) + 1)))), (14, .v (.int .i64 ((k2 : Nat) : Int))), (51, .v (.int .i64 (((knownI l).toNat : Nat) : Int))), (52, .v (.int .i64 ((k2 : Nat) : Int))), (55, .v (.slice A l.length c)), (56, .v (.int .i64 ((l.length : Nat) : Int))), (57, .v (.int .i64 (IntKind.i64.wrap (((q : Nat) : Int) + 1))))] cD fr fun nR jh => ?_
       clear fr
       refine wpOps_nil (then_normal ?_)
       obtain ⟨cE, ji, jj⟩ := cD.cutB jh 1 [⟨cU, 0, [.int .i64 n1, .slice A6 s2.length c7, .bool b3, .slice A8 l4.length c9, .slice aV u5.length aW], true⟩] [(0, .v (.slice A l.length c)), (1, .v (.int .i64 v)), (2, .v (.bool flex)), (7, .p 0 0), (9, .v (.slice A_ ((bodyB W l v (Tree.mk n1 s2 b3 l4 u5) 0).length) c_)), (10, .v (.slice aI ((tagsK W l (Tree.mk n1 s2 b3 l4 u5) k2 ++ dm ++ (uv k2) ++ (uv ((W (Fld.mk ab ac ae af aa ag ah ai) (Tree.at_ (Tree.mk n1 s2 b3 l4 u5) q)).length)) ++ (W (Fld.mk ab ac ae af aa ag ah ai) (Tree.at_ (Tree.mk n1 s2 b3 l4 u5) q))).length) aJ)), (11, .v (.int .i64 (IntKind.i64.wrap (((tagsN W l (Tree.mk n1 s2 b3 l4 u5) k2 + cn : Nat) : Int) + 1)))), (14, .v (.int .i64 ((k2 : Nat) : Int))), (51, .v (.int .i64 (((knownI l).toNat : Nat) : Int))), (52, .v (.int .i64 ((k2 : Nat) : Int))), (55, .v (.slice A l.length c)), (56, .v (.int .i64 ((l.length : Nat) : Int))), (57, .v (.int .i64 (IntKind.i64.wrap (((q : Nat) : Int) + 1))))]
       obtain ⟨ft, jk⟩ := ji.cutR 2 [brow A_ c_ 5 (bodyB W l v (Tree.mk n1 s2 b3 l4 u5) 0), brow aI aJ 5 (tagsK W l (Tree.mk n1 s2 b3 l4 u5) k2 ++ dm ++ (uv k2) ++ (uv ((W (Fld.mk ab ac ae af aa ag ah ai) (Tree.at_ (Tree.mk n1 s2 b3 l4 u5) q)).length)) ++ (W (Fld.mk ab ac ae af aa ag ah ai) (Tree.at_ (Tree.mk n1 s2 b3 l4 u5) q)))]
       have fu : (tagsK W l (Tree.mk n1 s2 b3 l4 u5) k2 ++ dm ++ (uv k2) ++ (uv ((W (Fld.mk ab ac ae af aa ag ah ai) (Tree.at_ (Tree.mk n1 s2 b3 l4 u5) q)).length)) ++ (W (Fld.mk ab ac ae af aa ag ah ai) (Tree.at_ (Tree.mk n1 s2 b3 l4 u5) q))) = (tagsK W l (Tree.mk n1 s2 b3 l4 u5) k2 ++ (dm ++ (uv k2 ++ uv (W (Fld.mk ab ac ae af aa ag ah ai) (Tree.at_ (Tree.mk n1 s2 b3 l4 u5) q)).length ++ W (Fld.mk ab ac ae af aa ag ah ai) (Tree.at_ (Tree.mk n1 s2 b3 l4 u5) q)))) := by simp only [List.append_assoc]
       have jl := congrArg (brow aI aJ 5) fu
       obtain ⟨jm, jn⟩ := ft.rowEq 1 [brow A_ c_ 5 (bodyB W l v (Tree.mk n1 s2 b3 l4 u5) 0), brow aI aJ 5 (tagsK W l (Tree.mk n1 s2 b3 l4 u5) k2 ++ (dm ++ (uv k2 ++ uv (W (Fld.mk ab ac ae af aa ag ah ai) (Tree.at_ (Tree.mk n1 s2 b3 l4 u5) q)).length ++ W (Fld.mk ab ac ae af aa ag ah ai) (Tree.at_ (Tree.mk n1 s2 b3 l4 u5) q))))] jl
       clear ft
       rw [fu] at cE
       have jo : IntKind.i64.wrap (((q : Nat) : Int) + 1) = ((q + 1 : Nat) : Int) := wrap_succ (by omega)
       rw [jo] at cE
       have jp : IntKind.i64.wrap (((tagsN W l (Tree.mk n1 s2 b3 l4 u5) k2 + cn : Nat) : Int) + 1) = ((tagsN W l (Tree.mk n1 s2 b3 l4 u5) k2 + (cn + 1) : Nat) : Int) := by rw [wrap_i64 (by omega) (by omega)]; omega
       rw [jp] at cE
       exact ⟨l.length - (q + 1), by omega, q + 1, aI, aJ, (dm ++ (uv k2 ++ uv (W (Fld.mk ab ac ae af aa ag ah ai) (Tree.at_ (Tree.mk n1 s2 b3 l4 u5) q)).length ++ W (Fld.mk ab ac ae af aa ag ah ai) (Tree.at_ (Tree.mk n1 s2 b3 l4 u5) q))), (cn + 1), rfl, by omega, by rw [List.append_assoc, ← tagB_pos ap (by omega) (by simpa using az)]; exact hB2, by rw [Nat.add_assoc, ← tagN_pos ap (by omega) (by simpa using az)]; exact hN2, cE.pk, jm, (((((((((((((((((((cu.trans dp).trans dr).trans dt).trans cA).trans dx).trans iL).trans dA).trans eP).trans iV).trans iW).trans iY).trans ja).trans jb).trans jd).trans je).trans jg).trans jj).trans jk).trans jn)⟩
      ·
       refine wp_skip ?_
       refine block_normal ?_
       refine then_normal ?_
       refine go_region [0, 1] kz ?_
       refine go_rn [0, 1] [] [(0, .v (.slice A l.length c)), (1, .v (.int .i64 v)), (2, .v (.bool flex)), (7, .p 0 0), (9, .v (.slice A_ ((bodyB W l v (Tree.mk n1 s2 b3 l4 u5) 0).length) c_)), (10, .v (.slice A3_ ((tagsK W l (Tree.mk n1 s2 b3 l4 u5) k2 ++ dm).length) c3_)), (11, .v (.int .i64 ((tagsN W l (Tree.mk n1 s2 b3 l4 u5) k2 + cn : Nat) : Int))), (14, .v (.int .i64 ((k2 : Nat) : Int))), (51, .v (.int .i64 (((knownI l).toNat : Nat) : Int))), (52, .v (.int .i64 ((k2 : Nat) : Int))), (55, .v (.slice A l.length c)), (56, .v (.int .i64 ((l.length : Nat) : Int))), (57, .v (.int .i64 (IntKind.i64.wrap (((q : Nat) : Int) + 1))))] bF bG fun nS jq => ?_
       clear bG
       refine wpOps_nil (then_normal ?_)
       obtain ⟨fv, jr, js⟩ := bF.cutB jq 1 [⟨cU, 0, [.int .i64 n1, .slice A6 s2.length c7, .bool b3, .slice A8 l4.length c9, .slice aV u5.length aW], true⟩] [(0, .v (.slice A l.length c)), (1, .v (.int .i64 v)), (2, .v (.bool flex)), (7, .p 0 0), (9, .v (.slice A_ ((bodyB W l v (Tree.mk n1 s2 b3 l4 u5) 0).length) c_)), (10, .v (.slice A3_ ((tagsK W l (Tree.mk n1 s2 b3 l4 u5) k2 ++ dm).length) c3_)), (11, .v (.int .i64 ((tagsN W l (Tree.mk n1 s2 b3 l4 u5) k2 + cn : Nat) : Int))), (14, .v (.int .i64 ((k2 : Nat) : Int))), (51, .v (.int .i64 (((knownI l).toNat : Nat) : Int))), (52, .v (.int .i64 ((k2 : Nat) : Int))), (55, .v (.slice A l.length c)), (56, .v (.int .i64 ((l.length : Nat) : Int))), (57, .v (.int .i64 (IntKind.i64.wrap (((q : Nat) : Int) + 1))))]
       have jt : IntKind.i64.wrap (((q : Nat) : Int) + 1) = ((q + 1 : Nat) : Int) := wrap_succ (by omega)
       rw [jt] at fv
       exact ⟨l.length - (q + 1), by omega, q + 1, A3_, c3_, dm, cn, rfl, by omega, by rw [← tagB_neg2 ap (by simpa using az)]; exact hB2, by rw [← tagN_neg2 ap (by simpa using az)]; exact hN2, fv.pk, jr, ((((((cu.trans dp).trans dr).trans dt).trans cA).trans dx).trans js)⟩
     ·
      have lE : aa ≠ ((k2 : Nat) : Int) := by simpa using bD
      have fw := cz.cast (env' := [(0, .v (.slice A l.length c)), (1, .v (.int .i64 v)), (2, .v (.bool flex)), (7, .p 0 0), (9, .v (.slice A_ ((bodyB W l v (Tree.mk n1 s2 b3 l4 u5) 0).length) c_)), (10, .v (.slice A3_ ((tagsK W l (Tree.mk n1 s2 b3 l4 u5) k2 ++ dm).length) c3_)), (11, .v (.int .i64 ((tagsN W l (Tree.mk n1 s2 b3 l4 u5) k2 + cn : Nat) : Int))), (14, .v (.int .i64 ((k2 : Nat) : Int))), (15, .v (.int .i64 ((q : Nat) : Int))), (16, .p 1 0), (51, .v (.int .i64 (((knownI l).toNat : Nat) : Int))), (52, .v (.int .i64 ((k2 : Nat) : Int))), (55, .v (.slice A l.length c)), (56, .v (.int .i64 ((l.length : Nat) : Int))), (57, .v (.int .i64 ((q : Nat) : Int))), (66, .v (.bool false))]) (by rw [bD])
      clear cz
      refine go_rnD [5, 6, 7, 8, 9, 10, 11] [(0, .v (.slice A l.length c)), (1, .v (.int .i64 v)), (2, .v (.bool flex)), (7, .p 0 0), (9, .v (.slice A_ ((bodyB W l v (Tree.mk n1 s2 b3 l4 u5) 0).length) c_)), (10, .v (.slice A3_ ((tagsK W l (Tree.mk n1 s2 b3 l4 u5) k2 ++ dm).length) c3_)), (11, .v (.int .i64 ((tagsN W l (Tree.mk n1 s2 b3 l4 u5) k2 + cn : Nat) : Int))), (14, .v (.int .i64 ((k2 : Nat) : Int))), (15, .v (.int .i64 ((q : Nat) : Int))), (16, .p 1 0), (51, .v (.int .i64 (((knownI l).toNat : Nat) : Int))), (52, .v (.int .i64 ((k2 : Nat) : Int))), (55, .v (.slice A l.length c)), (56, .v (.int .i64 ((l.length : Nat) : Int))), (57, .v (.int .i64 ((q : Nat) : Int))), (73, .v (.bool false))] 0 (panicFree_then (panicFree_block (panicFree_then (panicFree_then (panicFree_block (panicFree_block (panicFree_then (panicFree_then (panicFree_block (panicFree_then panicFree_body)))))))))) (fun _ h => h.cells) du fw fun nT dC => ?_
      clear fw
      refine anyC_done kz ?_ _
      refine then_normal ?_
      refine cond_false dC (b := false) kz rfl ?_
      refine wp_skip ?_
      refine block_normal ?_
      refine then_normal ?_
      refine go_region [0, 1] kz ?_
      refine go_rn [0, 1] [] [(0, .v (.slice A l.length c)), (1, .v (.int .i64 v)), (2, .v (.bool flex)), (7, .p 0 0), (9, .v (.slice A_ ((bodyB W l v (Tree.mk n1 s2 b3 l4 u5) 0).length) c_)), (10, .v (.slice A3_ ((tagsK W l (Tree.mk n1 s2 b3 l4 u5) k2 ++ dm).length) c3_)), (11, .v (.int .i64 ((tagsN W l (Tree.mk n1 s2 b3 l4 u5) k2 + cn : Nat) : Int))), (14, .v (.int .i64 ((k2 : Nat) : Int))), (51, .v (.int .i64 (((knownI l).toNat : Nat) : Int))), (52, .v (.int .i64 ((k2 : Nat) : Int))), (55, .v (.slice A l.length c)), (56, .v (.int .i64 ((l.length : Nat) : Int))), (57, .v (.int .i64 (IntKind.i64.wrap (((q : Nat) : Int) + 1))))] aO dC fun nU ju => ?_
      clear dC
      refine wpOps_nil (then_normal ?_)
      obtain ⟨fx, jv, jw⟩ := aO.cutB ju 1 [⟨cU, 0, [.int .i64 n1, .slice A6 s2.length c7, .bool b3, .slice A8 l4.length c9, .slice aV u5.length aW], true⟩] [(0, .v (.slice A l.length c)), (1, .v (.int .i64 v)), (2, .v (.bool flex)), (7, .p 0 0), (9, .v (.slice A_ ((bodyB W l v (Tree.mk n1 s2 b3 l4 u5) 0).length) c_)), (10, .v (.slice A3_ ((tagsK W l (Tree.mk n1 s2 b3 l4 u5) k2 ++ dm).length) c3_)), (11, .v (.int .i64 ((tagsN W l (Tree.mk n1 s2 b3 l4 u5) k2 + cn : Nat) : Int))), (14, .v (.int .i64 ((k2 : Nat) : Int))), (51, .v (.int .i64 (((knownI l).toNat : Nat) : Int))), (52, .v (.int .i64 ((k2 : Nat) : Int))), (55, .v (.slice A l.length c)), (56, .v (.int .i64 ((l.length : Nat) : Int))), (57, .v (.int .i64 (IntKind.i64.wrap (((q : Nat) : Int) + 1))))]
      have jx : IntKind.i64.wrap (((q : Nat) : Int) + 1) = ((q + 1 : Nat) : Int) := wrap_succ (by omega)
      rw [jx] at fx
      exact ⟨l.length - (q + 1), by omega, q + 1, A3_, c3_, dm, cn, rfl, by omega, by rw [← tagB_neg1 ap (by omega)]; exact hB2, by rw [← tagN_neg1 ap (by omega)]; exact hN2, fx.pk, jv, ((((cu.trans dp).trans dr).trans dt).trans jw)⟩
    ·
     have lF := of_decide_eq_false di
     refine wp_exit ?_
     refine then_exit ?_
     refine then_exit ?_
     refine block_exit ?_
     refine block_normal ?_
     refine then_normal ?_
     refine go_region [0, 1] kz ?_
     refine go_rn [0, 1] [] [(0, .v (.slice A l.length c)), (1, .v (.int .i64 v)), (2, .v (.bool flex)), (7, .p 0 0), (9, .v (.slice A_ ((bodyB W l v (Tree.mk n1 s2 b3 l4 u5) 0).length) c_)), (10, .v (.slice A3_ ((tagsK W l (Tree.mk n1 s2 b3 l4 u5) k2 ++ dm).length) c3_)), (11, .v (.int .i64 ((tagsN W l (Tree.mk n1 s2 b3 l4 u5) k2 + cn : Nat) : Int))), (51, .v (.int .i64 (((knownI l).toNat : Nat) : Int))), (52, .v (.int .i64 (IntKind.i64.wrap (((k2 : Nat) : Int) + 1))))] aM bA fun nV cG => ?_
     clear bA
     refine wpOps_nil (then_normal ?_)
     have fy : (tagsK W l (Tree.mk n1 s2 b3 l4 u5) k2 ++ dm) = (tagsK W l (Tree.mk n1 s2 b3 l4 u5) (k2 + 1)) := by rw [tagsK, ← hB2, tagB_end (by omega), List.append_nil]
     have jy := congrArg (brow A3_ c3_ 5) fy
     obtain ⟨jz, jA⟩ := aM.rowEq 1 [brow A_ c_ 5 (bodyB W l v (Tree.mk n1 s2 b3 l4 u5) 0), brow A3_ c3_ 5 (tagsK W l (Tree.mk n1 s2 b3 l4 u5) (k2 + 1))] jy
     clear aM
     rw [fy] at cG
     have jB : IntKind.i64.wrap (((k2 : Nat) : Int) + 1) = ((k2 + 1 : Nat) : Int) := wrap_succ (by omega)
     rw [jB] at cG
     have jC : ((tagsN W l (Tree.mk n1 s2 b3 l4 u5) k2 + cn : Nat) : Int) = ((tagsN W l (Tree.mk n1 s2 b3 l4 u5) (k2 + 1) : Nat) : Int) := by rw [tagsN, ← hN2, tagN_end (by omega), Nat.add_zero]
     rw [jC] at cG
     exact ⟨(knownI l).toNat - (k2 + 1), by omega, k2 + 1, A3_, c3_, rfl, by omega, cG.pk, jz, (((iF.trans iH).trans cu).trans jA)⟩
   ·
    have lG := of_decide_eq_false dg
    refine wp_exit ?_
    refine then_exit ?_
    refine then_exit ?_
    refine block_exit ?_
    refine then_normal ?_
    refine wp_seq ?_
    refine go_seq_region [0, 1, 2, 3, 4, 5] kz ?_
    refine go_rn [0, 1, 2] [3, 4, 5] [(9, .v (.slice A_ ((bodyB W l v (Tree.mk n1 s2 b3 l4 u5) 0).length) c_)), (10, .v (.slice A2_ ((tagsK W l (Tree.mk n1 s2 b3 l4 u5) k2).length) c2_)), (11, .v (.int .i64 ((tagsN W l (Tree.mk n1 s2 b3 l4 u5) k2 : Nat) : Int))), (97, .v (.slice A l.length c)), (99, .v (.slice aV u5.length aW))] al bz fun nW fz => ?_
    clear bz
    refine of_op (wpOp_call fz (f := 47) (vs := [.slice A l.length c, .slice aV u5.length aW]) (d := 100) kz Tryd.call47 (sUnknown _ _ l _ _ u5 _ _ ⟨xfs, (h1.move al.step nilM al.imm), (fun i_ x_ h_ => ((h2 i_ x_ h_).move al.step nilM al.imm))⟩ (lY.move al.step nilM al.imm)) ?_)
    rintro e_ nX ⟨am, ao, rfl, jD, dD⟩
    have jE := jD.move (Step.refl _ Nil) nilM (al.laid (G := F) dD)
    refine ⟨_, rfl, fun nY fA => ?_⟩
    have dE := al.next_nil dD
    have lH := al.frN dD
    clear fz
    refine go_rn [4, 5] [] [(9, .v (.slice A_ ((bodyB W l v (Tree.mk n1 s2 b3 l4 u5) 0).length) c_)), (10, .v (.slice A2_ ((tagsK W l (Tree.mk n1 s2 b3 l4 u5) k2).length) c2_)), (11, .v (.int .i64 ((tagsN W l (Tree.mk n1 s2 b3 l4 u5) k2 : Nat) : Int))), (100, .v (.slice am ((unknownT l u5).length) ao)), (101, .v (.int .i64 (((unknownT l u5).length : Nat) : Int))), (102, .v (.int .i64 0))] dE fA fun nZ dF => ?_
    clear fA
    refine wpOps_nil (then_normal ?_)
    refine wp_block ?_
    obtain ⟨lI, jF, kX⟩ := jE.ex
    have kY := jF.small
    have hkk2 : k2 = (knownI l).toNat := by omega
    have hc2 := hcnt k2
    have hm2 := hmono k2 (by omega)
    have fB : (tagsK W l (Tree.mk n1 s2 b3 l4 u5) k2) = (tagsK W l (Tree.mk n1 s2 b3 l4 u5) k2 ++ tagsB ((unknownT l u5).take 0)) := (List.append_nil _).symm
    have jG := congrArg (brow A2_ c2_ 5) fB
    obtain ⟨fC, aN⟩ := dE.rowEq 1 [brow A_ c_ 5 (bodyB W l v (Tree.mk n1 s2 b3 l4 u5) 0), brow A2_ c2_ 5 (tagsK W l (Tree.mk n1 s2 b3 l4 u5) k2 ++ tagsB ((unknownT l u5).take 0))] jG
    clear dE
    rw [fB] at dF
    refine wp_loop_ghost (fun n_ a_ w_ => ∃ (k : Nat) (A4_ : Option Addr) (c4_ : Nat), n_ = (unknownT l u5).length - k ∧ k ≤ (unknownT l u5).length ∧ LInv fC 132 [⟨cU, 0, [.int .i64 n1, .slice A6 s2.length c7, .bool b3, .slice A8 l4.length c9, .slice aV u5.length aW], true⟩] [brow A_ c_ 5 (bodyB W l v (Tree.mk n1 s2 b3 l4 u5) 0), brow A4_ c4_ 5 (tagsK W l (Tree.mk n1 s2 b3 l4 u5) k2 ++ tagsB ((unknownT l u5).take k))] [(9, .v (.slice A_ ((bodyB W l v (Tree.mk n1 s2 b3 l4 u5) 0).length) c_)), (10, .v (.slice A4_ ((tagsK W l (Tree.mk n1 s2 b3 l4 u5) k2 ++ tagsB ((unknownT l u5).take k)).length) c4_)), (11, .v (.int .i64 ((tagsN W l (Tree.mk n1 s2 b3 l4 u5) k2 + k : Nat) : Int))), (100, .v (.slice am ((unknownT l u5).length) ao)), (101, .v (.int .i64 (((unknownT l u5).length : Nat) : Int))), (102, .v (.int .i64 ((k : Nat) : Int)))] a_ w_) ((unknownT l u5).length) ⟨0, A2_, c2_, by omega, by omega, dF.pk, fC, Fr.refl _ _ _⟩ ?_
    clear dF
    rintro n0 n4 n5 ⟨k, A4_, c4_, lJ, lK, fD, ba, aH⟩
    refine go_sp [(9, .v (.slice A_ ((bodyB W l v (Tree.mk n1 s2 b3 l4 u5) 0).length) c_)), (10, .v (.slice A4_ ((tagsK W l (Tree.mk n1 s2 b3 l4 u5) k2 ++ tagsB ((unknownT l u5).take k)).length) c4_)), (11, .v (.int .i64 ((tagsN W l (Tree.mk n1 s2 b3 l4 u5) k2 + k : Nat) : Int))), (100, .v (.slice am ((unknownT l u5).length) ao)), (101, .v (.int .i64 (((unknownT l u5).length : Nat) : Int))), (102, .v (.int .i64 ((k : Nat) : Int))), (103, .v (.bool (decide (((k : Nat) : Int) < (((unknownT l u5).length : Nat) : Int)))))] ba fD fun n8 bM => ?_
    clear fD
    refine wp_seq ?_
    refine cond_of bM (b := decide (((k : Nat) : Int) < (((unknownT l u5).length : Nat) : Int))) kz (fun dG => ?_) (fun dG => ?_)
    ·
     have lL := of_decide_eq_true dG
     refine wp_skip ?_
     refine then_normal ?_
     refine wp_seq ?_
     refine wp_block ?_
     refine go_seq_region [0, 1, 2, 3] kz ?_
     obtain ⟨kZ, k5, jH, lM, dH⟩ := Slots.get jF (i := k) (by omega)
     obtain ⟨⟨ak, aj⟩, bN⟩ : ∃ x, (unknownT l u5)[k]? = some x := ⟨_, List.getElem?_eq_getElem (by omega)⟩
     obtain ⟨⟨ar, au, gR, dI⟩, oa, od⟩ := kX k ak aj bN
     rw [gR] at dH
     refine of_op (wpOp_index bM (t := 24) (A := am) (m := ((unknownT l u5).length)) (q := ((k : Nat) : Int)) (d := 104) kz (e := 73) (size := 2) (bytes := 32) kz jH rfl (by omega) fun oe fE => ?_)
     clear bM
     refine of_op (wpOp_load fE (t := 73) (b := kZ) (o := k5 + k * 2) (d := 105) kz (cs := [.int .u32 ak, .slice ar aj.length au]) (v := .agg #[.int .u32 ak, .slice ar aj.length au]) kz (AtF.move dH (aN.trans aH).step immM (aN.trans aH).to').at_ fun og fF => ?_)
     clear fE
     refine of_op (wpOp_alloc ba fF (d := 19) (cs := [.int .u32 0, .slice none 0 0]) kz fun oh ol om lN lO aR fG fH => ?_)
     clear fF ba
     refine of_op (wpOp_store fG fH (oi := 1) (cs := [.int .u32 ak, .slice ar aj.length au]) kz fun oq aS cH fI => ?_)
     clear fH fG
     refine wpOps_nil (then_normal ?_)
     refine go_seq_region [0, 1, 2, 3] kz ?_
     refine go_rn [0, 1] [2, 3] [(9, .v (.slice A_ ((bodyB W l v (Tree.mk n1 s2 b3 l4 u5) 0).length) c_)), (10, .v (.slice A4_ ((tagsK W l (Tree.mk n1 s2 b3 l4 u5) k2 ++ tagsB ((unknownT l u5).take k)).length) c4_)), (11, .v (.int .i64 ((tagsN W l (Tree.mk n1 s2 b3 l4 u5) k2 + k : Nat) : Int))), (19, .p 1 0), (100, .v (.slice am ((unknownT l u5).length) ao)), (101, .v (.int .i64 (((unknownT l u5).length : Nat) : Int))), (102, .v (.int .i64 ((k : Nat) : Int))), (107, .v (.slice ar aj.length au))] cH fI fun ot fJ => ?_
     clear fI
     have k6 := whole_le aj
     refine of_op (wpOp_call fJ (f := 48) (vs := [.slice ar aj.length au]) (d := 108) kz Tryd.call48 (sWhole _ _ aj (dI.move (((aN.trans aH).trans aR).trans aS).step immM (((aN.trans aH).trans aR).trans aS).to').le _) ?_)
     rintro e_ ou ⟨rfl, fK⟩
     refine ⟨_, rfl, fun ov fL => ?_⟩
     have cI := cH.next_nil fK
     have bO := cH.frN fK
     clear fJ cH
     refine go_rn [3] [] [(9, .v (.slice A_ ((bodyB W l v (Tree.mk n1 s2 b3 l4 u5) 0).length) c_)), (10, .v (.slice A4_ ((tagsK W l (Tree.mk n1 s2 b3 l4 u5) k2 ++ tagsB ((unknownT l u5).take k)).length) c4_)), (11, .v (.int .i64 ((tagsN W l (Tree.mk n1 s2 b3 l4 u5) k2 + k : Nat) : Int))), (19, .p 1 0), (20, .v (.slice ar ((whole aj).length) au)), (100, .v (.slice am ((unknownT l u5).length) ao)), (101, .v (.int .i64 (((unknownT l u5).length : Nat) : Int))), (102, .v (.int .i64 ((k : Nat) : Int)))] cI fL fun ow fM => ?_
     clear fL
     refine wpOps_nil (then_normal ?_)
     refine go_seq_region [0, 1, 2, 3, 4, 5, 6, 7, 8, 9, 10, 11, 12, 13] kz ?_
     refine go_rn [0, 1, 2, 3] [4, 5, 6, 7, 8, 9, 10, 11, 12, 13] [(9, .v (.slice A_ ((bodyB W l v (Tree.mk n1 s2 b3 l4 u5) 0).length) c_)), (11, .v (.int .i64 ((tagsN W l (Tree.mk n1 s2 b3 l4 u5) k2 + k : Nat) : Int))), (20, .v (.slice ar ((whole aj).length) au)), (100, .v (.slice am ((unknownT l u5).length) ao)), (101, .v (.int .i64 (((unknownT l u5).length : Nat) : Int))), (102, .v (.int .i64 ((k : Nat) : Int))), (109, .v (.slice A4_ ((tagsK W l (Tree.mk n1 s2 b3 l4 u5) k2 ++ tagsB ((unknownT l u5).take k)).length) c4_)), (112, .v (.int .u64 (IntKind.u64.wrap ak)))] cI fM fun ox fN => ?_
     clear fM
     have jI : IntKind.u64.wrap ak = ((ak.toNat : Nat) : Int) := by simp only [wrap_u64, wrap_u32, wrap_u16, IntKind.wrap_i64, IntKind.wrap_i32]; omega
     have fO := EnvOk.pick fN (ks := [9, 11, 20, 100, 101, 102, 109, 112]) (env' := [(9, .v (.slice A_ ((bodyB W l v (Tree.mk n1 s2 b3 l4 u5) 0).length) c_)), (11, .v (.int .i64 ((tagsN W l (Tree.mk n1 s2 b3 l4 u5) k2 + k : Nat) : Int))), (20, .v (.slice ar ((whole aj).length) au)), (100, .v (.slice am ((unknownT l u5).length) ao)), (101, .v (.int .i64 (((unknownT l u5).length : Nat) : Int))), (102, .v (.int .i64 ((k : Nat) : Int))), (109, .v (.slice A4_ ((tagsK W l (Tree.mk n1 s2 b3 l4 u5) k2 ++ tagsB ((unknownT l u5).take k)).length) c4_)), (112, .v (.int .u64 (IntKind.u64.wrap ak)))]) kz
     have fP := fO.cast (env' := [(9, .v (.slice A_ ((bodyB W l v (Tree.mk n1 s2 b3 l4 u5) 0).length) c_)), (11, .v (.int .i64 ((tagsN W l (Tree.mk n1 s2 b3 l4 u5) k2 + k : Nat) : Int))), (20, .v (.slice ar ((whole aj).length) au)), (100, .v (.slice am ((unknownT l u5).length) ao)), (101, .v (.int .i64 (((unknownT l u5).length : Nat) : Int))), (102, .v (.int .i64 ((k : Nat) : Int))), (109, .v (.slice A4_ ((tagsK W l (Tree.mk n1 s2 b3 l4 u5) k2 ++ tagsB ((unknownT l u5).take k)).length) c4_)), (112, .v (.int .u64 ((ak.toNat : Nat) : Int)))]) (by rw [jI])
     clear fN fO
     refine of_op (wpOp_call fP (f := 67) (vs := [.int .u64 ((ak.toNat : Nat) : Int)]) (d := 113) kz Tryd.call67 (sUvarint ak.toNat (by omega) _) ?_)
     rintro e_ oy ⟨bZ, b8, rfl, jJ, jK⟩
     refine ⟨_, rfl, fun oz fQ => ?_⟩
     obtain ⟨cJ, bP⟩ := cI.frFresh jK (brow bZ b8 5 (uv ak.toNat)) (Nat.le_refl _) jJ
     clear fP cI
     refine of_op (wpOp_append cJ fQ (k := 1) (d := 114) (t := 22) (e := 5) (size := 1) (bytes := 1) (A := A4_) (As := bZ) (m0 := ((tagsK W l (Tree.mk n1 s2 b3 l4 u5) k2 ++ tagsB ((unknownT l u5).take k)).length)) (c := c4_) (m := ((uv ak.toNat).length)) (cs := b8) (xs := (bc (tagsK W l (Tree.mk n1 s2 b3 l4 u5) k2 ++ tagsB ((unknownT l u5).take k)))) (news := bc (uv ak.toNat)) kz kz rfl (own_src (cJ.own 2 _ rfl) (bc_one _)) (own_cap (cJ.own 2 _ rfl)) (by have h_ := tagsB_le (l := (unknownT l u5)) (k + 1); rw [tagsB_succ bN] at h_; simp only [List.length_append] at h_ ⊢; omega) fun aT aU oA oB bQ fR fS => ?_)
     clear fQ cJ
     have jL : (⟨aT, aU, 5, 1, (tagsK W l (Tree.mk n1 s2 b3 l4 u5) k2 ++ tagsB ((unknownT l u5).take k)).length + (uv ak.toNat).length, bc (tagsK W l (Tree.mk n1 s2 b3 l4 u5) k2 ++ tagsB ((unknownT l u5).take k)) ++ bc (uv ak.toNat)⟩ : Rw) = brow aT aU 5 (tagsK W l (Tree.mk n1 s2 b3 l4 u5) k2 ++ tagsB ((unknownT l u5).take k) ++ (uv ak.toNat)) := brow_eq (rfl) rfl
     obtain ⟨dJ, bR⟩ := fR.rowEq 1 [brow A_ c_ 5 (bodyB W l v (Tree.mk n1 s2 b3 l4 u5) 0), brow aT aU 5 (tagsK W l (Tree.mk n1 s2 b3 l4 u5) k2 ++ tagsB ((unknownT l u5).take k) ++ (uv ak.toNat)), brow bZ b8 5 (uv ak.toNat)] jL
     clear fR
     have fT := EnvOk.pick fS (ks := [9, 11, 20, 100, 101, 102, 109, 112, 113, 114]) (env' := [(9, .v (.slice A_ ((bodyB W l v (Tree.mk n1 s2 b3 l4 u5) 0).length) c_)), (11, .v (.int .i64 ((tagsN W l (Tree.mk n1 s2 b3 l4 u5) k2 + k : Nat) : Int))), (20, .v (.slice ar ((whole aj).length) au)), (100, .v (.slice am ((unknownT l u5).length) ao)), (101, .v (.int .i64 (((unknownT l u5).length : Nat) : Int))), (102, .v (.int .i64 ((k : Nat) : Int))), (109, .v (.slice A4_ ((tagsK W l (Tree.mk n1 s2 b3 l4 u5) k2 ++ tagsB ((unknownT l u5).take k)).length) c4_)), (112, .v (.int .u64 ((ak.toNat : Nat) : Int))), (113, .v (.slice bZ ((uv ak.toNat).length) b8)), (114, .v (.slice aT ((tagsK W l (Tree.mk n1 s2 b3 l4 u5) k2 ++ tagsB ((unknownT l u5).take k)).length + (uv ak.toNat).length) aU))]) kz
     have fU := fT.cast (env' := [(9, .v (.slice A_ ((bodyB W l v (Tree.mk n1 s2 b3 l4 u5) 0).length) c_)), (11, .v (.int .i64 ((tagsN W l (Tree.mk n1 s2 b3 l4 u5) k2 + k : Nat) : Int))), (20, .v (.slice ar ((whole aj).length) au)), (100, .v (.slice am ((unknownT l u5).length) ao)), (101, .v (.int .i64 (((unknownT l u5).length : Nat) : Int))), (102, .v (.int .i64 ((k : Nat) : Int))), (109, .v (.slice A4_ ((tagsK W l (Tree.mk n1 s2 b3 l4 u5) k2 ++ tagsB ((unknownT l u5).take k)).length) c4_)), (112, .v (.int .u64 ((ak.toNat : Nat) : Int))), (113, .v (.slice bZ ((uv ak.toNat).length) b8)), (114, .v (.slice aT ((tagsK W l (Tree.mk n1 s2 b3 l4 u5) k2 ++ tagsB ((unknownT l u5).take k) ++ (uv ak.toNat)).length) aU))]) (by simp only [List.length_append, List.length_cons, List.length_nil, Nat.zero_add])
     clear fS
     clear fT
     refine go_rn [6, 7, 8] [9, 10, 11, 12, 13] [(9, .v (.slice A_ ((bodyB W l v (Tree.mk n1 s2 b3 l4 u5) 0).length) c_)), (11, .v (.int .i64 ((tagsN W l (Tree.mk n1 s2 b3 l4 u5) k2 + k : Nat) : Int))), (20, .v (.slice ar ((whole aj).length) au)), (100, .v (.slice am ((unknownT l u5).length) ao)), (101, .v (.int .i64 (((unknownT l u5).length : Nat) : Int))), (102, .v (.int .i64 ((k : Nat) : Int))), (114, .v (.slice aT ((tagsK W l (Tree.mk n1 s2 b3 l4 u5) k2 ++ tagsB ((unknownT l u5).take k) ++ (uv ak.toNat)).length) aU)), (117, .v (.int .u64 (IntKind.u64.wrap (((whole aj).length : Nat) : Int))))] dJ fU fun oC fV => ?_
     clear fU
     have jM : IntKind.u64.wrap (((whole aj).length : Nat) : Int) = (((whole aj).length : Nat) : Int) := by simp only [wrap_u64, wrap_u32, wrap_u16, IntKind.wrap_i64, IntKind.wrap_i32]; omega
     have fW := EnvOk.pick fV (ks := [9, 11, 20, 100, 101, 102, 114, 117]) (env' := [(9, .v (.slice A_ ((bodyB W l v (Tree.mk n1 s2 b3 l4 u5) 0).length) c_)), (11, .v (.int .i64 ((tagsN W l (Tree.mk n1 s2 b3 l4 u5) k2 + k : Nat) : Int))), (20, .v (.slice ar ((whole aj).length) au)), (100, .v (.slice am ((unknownT l u5).length) ao)), (101, .v (.int .i64 (((unknownT l u5).length : Nat) : Int))), (102, .v (.int .i64 ((k : Nat) : Int))), (114, .v (.slice aT ((tagsK W l (Tree.mk n1 s2 b3 l4 u5) k2 ++ tagsB ((unknownT l u5).take k) ++ (uv ak.toNat)).length) aU)), (117, .v (.int .u64 (IntKind.u64.wrap (((whole aj).length : Nat) : Int))))]) kz
     have fX := fW.cast (env' := [(9, .v (.slice A_ ((bodyB W l v (Tree.mk n1 s2 b3 l4 u5) 0).length) c_)), (11, .v (.int .i64 ((tagsN W l (Tree.mk n1 s2 b3 l4 u5) k2 + k : Nat) : Int))), (20, .v (.slice ar ((whole aj).length) au)), (100, .v (.slice am ((unknownT l u5).length) ao)), (101, .v (.int .i64 (((unknownT l u5).length : Nat) : Int))), (102, .v (.int .i64 ((k : Nat) : Int))), (114, .v (.slice aT ((tagsK W l (Tree.mk n1 s2 b3 l4 u5) k2 ++ tagsB ((unknownT l u5).take k) ++ (uv ak.toNat)).length) aU)), (117, .v (.int .u64 (((whole aj).length : Nat) : Int)))]) (by rw [jM])
     clear fV fW
     refine of_op (wpOp_call fX (f := 67) (vs := [.int .u64 (((whole aj).length : Nat) : Int)]) (d := 118) kz Tryd.call67 (sUvarint ((whole aj).length) (by omega) _) ?_)
     rintro e_ oD ⟨cQ, cR, rfl, jN, jO⟩
     refine ⟨_, rfl, fun oE fY => ?_⟩
     obtain ⟨cK, bS⟩ := dJ.frFresh jO (brow cQ cR 5 (uv ((whole aj).length))) (Nat.le_refl _) jN
     clear fX dJ
     refine of_op (wpOp_append cK fY (k := 1) (d := 119) (t := 22) (e := 5) (size := 1) (bytes := 1) (A := aT) (As := cQ) (m0 := ((tagsK W l (Tree.mk n1 s2 b3 l4 u5) k2 ++ tagsB ((unknownT l u5).take k) ++ (uv ak.toNat)).length)) (c := aU) (m := ((uv ((whole aj).length)).length)) (cs := cR) (xs := (bc (tagsK W l (Tree.mk n1 s2 b3 l4 u5) k2 ++ tagsB ((unknownT l u5).take k) ++ (uv ak.toNat)))) (news := bc (uv ((whole aj).length))) kz kz rfl (own_src (cK.own 3 _ rfl) (bc_one _)) (own_cap (cK.own 3 _ rfl)) (by have h_ := tagsB_le (l := (unknownT l u5)) (k + 1); rw [tagsB_succ bN] at h_; simp only [List.length_append] at h_ ⊢; omega) fun bg bh oF oG bT fZ f5 => ?_)
     clear fY cK
     have jP : (⟨bg, bh, 5, 1, (tagsK W l (Tree.mk n1 s2 b3 l4 u5) k2 ++ tagsB ((unknownT l u5).take k) ++ (uv ak.toNat)).length + (uv ((whole aj).length)).length, bc (tagsK W l (Tree.mk n1 s2 b3 l4 u5) k2 ++ tagsB ((unknownT l u5).take k) ++ (uv ak.toNat)) ++ bc (uv ((whole aj).length))⟩ : Rw) = brow bg bh 5 (tagsK W l (Tree.mk n1 s2 b3 l4 u5) k2 ++ tagsB ((unknownT l u5).take k) ++ (uv ak.toNat) ++ (uv ((whole aj).length))) := brow_eq (rfl) rfl
     obtain ⟨dK, bU⟩ := fZ.rowEq 1 [brow A_ c_ 5 (bodyB W l v (Tree.mk n1 s2 b3 l4 u5) 0), brow bg bh 5 (tagsK W l (Tree.mk n1 s2 b3 l4 u5) k2 ++ tagsB ((unknownT l u5).take k) ++ (uv ak.toNat) ++ (uv ((whole aj).length))), brow bZ b8 5 (uv ak.toNat), brow cQ cR 5 (uv ((whole aj).length))] jP
     clear fZ
     have f7 := EnvOk.pick f5 (ks := [9, 11, 20, 100, 101, 102, 114, 117, 118, 119]) (env' := [(9, .v (.slice A_ ((bodyB W l v (Tree.mk n1 s2 b3 l4 u5) 0).length) c_)), (11, .v (.int .i64 ((tagsN W l (Tree.mk n1 s2 b3 l4 u5) k2 + k : Nat) : Int))), (20, .v (.slice ar ((whole aj).length) au)), (100, .v (.slice am ((unknownT l u5).length) ao)), (101, .v (.int .i64 (((unknownT l u5).length : Nat) : Int))), (102, .v (.int .i64 ((k : Nat) : Int))), (114, .v (.slice aT ((tagsK W l (Tree.mk n1 s2 b3 l4 u5) k2 ++ tagsB ((unknownT l u5).take k) ++ (uv ak.toNat)).length) aU)), (117, .v (.int .u64 (((whole aj).length : Nat) : Int))), (118, .v (.slice cQ ((uv ((whole aj).length)).length) cR)), (119, .v (.slice bg ((tagsK W l (Tree.mk n1 s2 b3 l4 u5) k2 ++ tagsB ((unknownT l u5).take k) ++ (uv ak.toNat)).length + (uv ((whole aj).length)).length) bh))]) kz
     have f8 := f7.cast (env' := [(9, .v (.slice A_ ((bodyB W l v (Tree.mk n1 s2 b3 l4 u5) 0).length) c_)), (11, .v (.int .i64 ((tagsN W l (Tree.mk n1 s2 b3 l4 u5) k2 + k : Nat) : Int))), (20, .v (.slice ar ((whole aj).length) au)), (100, .v (.slice am ((unknownT l u5).length) ao)), (101, .v (.int .i64 (((unknownT l u5).length : Nat) : Int))), (102, .v (.int .i64 ((k : Nat) : Int))), (114, .v (.slice aT ((tagsK W l (Tree.mk n1 s2 b3 l4 u5) k2 ++ tagsB ((unknownT l u5).take k) ++ (uv ak.toNat)).length) aU)), (117, .v (.int .u64 (((whole aj).length : Nat) : Int))), (118, .v (.slice cQ ((uv ((whole aj).length)).length) cR)), (119, .v (.slice bg ((tagsK W l (Tree.mk n1 s2 b3 l4 u5) k2 ++ tagsB ((unknownT l u5).take k) ++ (uv ak.toNat) ++ (uv ((whole aj).length))).length) bh))]) (by simp only [List.length_append, List.length_cons, List.length_nil, Nat.zero_add])
     clear f5
     clear f7
     refine go_rn [11] [12, 13] [(9, .v (.slice A_ ((bodyB W l v (Tree.mk n1 s2 b3 l4 u5) 0).length) c_)), (11, .v (.int .i64 ((tagsN W l (Tree.mk n1 s2 b3 l4 u5) k2 + k : Nat) : Int))), (100, .v (.slice am ((unknownT l u5).length) ao)), (101, .v (.int .i64 (((unknownT l u5).length : Nat) : Int))), (102, .v (.int .i64 ((k : Nat) : Int))), (119, .v (.slice bg ((tagsK W l (Tree.mk n1 s2 b3 l4 u5) k2 ++ tagsB ((unknownT l u5).take k) ++ (uv ak.toNat) ++ (uv ((whole aj).length))).length) bh)), (120, .v (.slice ar ((whole aj).length) au))] dK f8 fun oH f9 => ?_
     clear f8
     refine of_op (wpOp_append dK f9 (k := 1) (d := 121) (t := 22) (e := 5) (size := 1) (bytes := 1) (A := bg) (As := ar) (m0 := ((tagsK W l (Tree.mk n1 s2 b3 l4 u5) k2 ++ tagsB ((unknownT l u5).take k) ++ (uv ak.toNat) ++ (uv ((whole aj).length))).length)) (c := bh) (m := ((whole aj).length)) (cs := au) (xs := (bc (tagsK W l (Tree.mk n1 s2 b3 l4 u5) k2 ++ tagsB ((unknownT l u5).take k) ++ (uv ak.toNat) ++ (uv ((whole aj).length))))) (news := bc (whole aj)) kz kz rfl ((dI.take 32767).move ((((((((((aN.trans aH).trans aR).trans aS).trans bO).trans bP).trans bQ).trans bR).trans bS).trans bT).trans bU).step immM ((((((((((aN.trans aH).trans aR).trans aS).trans bO).trans bP).trans bQ).trans bR).trans bS).trans bT).trans bU).to').src ((dI.take 32767).move ((((((((((aN.trans aH).trans aR).trans aS).trans bO).trans bP).trans bQ).trans bR).trans bS).trans bT).trans bU).step immM ((((((((((aN.trans aH).trans aR).trans aS).trans bO).trans bP).trans bQ).trans bR).trans bS).trans bT).trans bU).to').cap (by have h_ := tagsB_le (l := (unknownT l u5)) (k + 1); rw [tagsB_succ bN] at h_; simp only [List.length_append] at h_ ⊢; omega) fun aK aL oI oJ jQ ga gb => ?_)
     clear f9 dK
     have jR : (⟨aK, aL, 5, 1, (tagsK W l (Tree.mk n1 s2 b3 l4 u5) k2 ++ tagsB ((unknownT l u5).take k) ++ (uv ak.toNat) ++ (uv ((whole aj).length))).length + (whole aj).length, bc (tagsK W l (Tree.mk n1 s2 b3 l4 u5) k2 ++ tagsB ((unknownT l u5).take k) ++ (uv ak.toNat) ++ (uv ((whole aj).length))) ++ bc (whole aj)⟩ : Rw) = brow aK aL 5 (tagsK W l (Tree.mk n1 s2 b3 l4 u5) k2 ++ tagsB ((unknownT l u5).take k) ++ (uv ak.toNat) ++ (uv ((whole aj).length)) ++ (whole aj)) := brow_eq (rfl) rfl
     obtain ⟨cL, jS⟩ := ga.rowEq 1 [brow A_ c_ 5 (bodyB W l v (Tree.mk n1 s2 b3 l4 u5) 0), brow aK aL 5 (tagsK W l (Tree.mk n1 s2 b3 l4 u5) k2 ++ tagsB ((unknownT l u5).take k) ++ (uv ak.toNat) ++ (uv ((whole aj).length)) ++ (whole aj)), brow bZ b8 5 (uv ak.toNat), brow cQ cR 5 (uv ((whole aj).length))] jR
     clear ga
     have gc := EnvOk.pick gb (ks := [9, 11, 100, 101, 102, 119, 120, 121]) (env' := [(9, .v (.slice A_ ((bodyB W l v (Tree.mk n1 s2 b3 l4 u5) 0).length) c_)), (11, .v (.int .i64 ((tagsN W l (Tree.mk n1 s2 b3 l4 u5) k2 + k : Nat) : Int))), (100, .v (.slice am ((unknownT l u5).length) ao)), (101, .v (.int .i64 (((unknownT l u5).length : Nat) : Int))), (102, .v (.int .i64 ((k : Nat) : Int))), (119, .v (.slice bg ((tagsK W l (Tree.mk n1 s2 b3 l4 u5) k2 ++ tagsB ((unknownT l u5).take k) ++ (uv ak.toNat) ++ (uv ((whole aj).length))).length) bh)), (120, .v (.slice ar ((whole aj).length) au)), (121, .v (.slice aK ((tagsK W l (Tree.mk n1 s2 b3 l4 u5) k2 ++ tagsB ((unknownT l u5).take k) ++ (uv ak.toNat) ++ (uv ((whole aj).length))).length + (whole aj).length) aL))]) kz
     have gd := gc.cast (env' := [(9, .v (.slice A_ ((bodyB W l v (Tree.mk n1 s2 b3 l4 u5) 0).length) c_)), (11, .v (.int .i64 ((tagsN W l (Tree.mk n1 s2 b3 l4 u5) k2 + k : Nat) : Int))), (100, .v (.slice am ((unknownT l u5).length) ao)), (101, .v (.int .i64 (((unknownT l u5).length : Nat) : Int))), (102, .v (.int .i64 ((k : Nat) : Int))), (119, .v (.slice bg ((tagsK W l (Tree.mk n1 s2 b3 l4 u5) k2 ++ tagsB ((unknownT l u5).take k) ++ (uv ak.toNat) ++ (uv ((whole aj).length))).length) bh)), (120, .v (.slice ar ((whole aj).length) au)), (121, .v (.slice aK ((tagsK W l (Tree.mk n1 s2 b3 l4 u5) k2 ++ tagsB ((unknownT l u5).take k) ++ (uv ak.toNat) ++ (uv ((whole aj).length)) ++ (whole aj)).length) aL))]) (by simp only [List.length_append, List.length_cons, List.length_nil, Nat.zero_add])
     clear gb
     clear gc
     refine go_rn [13] [] [(9, .v (.slice A_ ((bodyB W l v (Tree.mk n1 s2 b3 l4 u5) 0).length) c_)), (10, .v (.slice aK ((tagsK W l (Tree.mk n1 s2 b3 l4 u5) k2 ++ tagsB ((unknownT l u5).take k) ++ (uv ak.toNat) ++ (uv ((whole aj).length)) ++ (whole aj)).length) aL)), (11, .v (.int .i64 ((tagsN W l (Tree.mk n1 s2 b3 l4 u5) k2 + k : Nat) : Int))), (100, .v (.slice am ((unknownT l u5).length) ao)), (101, .v (.int .i64 (((unknownT l u5).length : Nat) : Int))), (102, .v (.int .i64 ((k : Nat) : Int)))] cL gd fun oK ge => ?_
     clear gd
     refine wpOps_nil (then_normal ?_)
     refine go_region [0, 1, 2] kz ?_
     refine go_rn [0, 1, 2] [] [(9, .v (.slice A_ ((bodyB W l v (Tree.mk n1 s2 b3 l4 u5) 0).length) c_)), (10, .v (.slice aK ((tagsK W l (Tree.mk n1 s2 b3 l4 u5) k2 ++ tagsB ((unknownT l u5).take k) ++ (uv ak.toNat) ++ (uv ((whole aj).length)) ++ (whole aj)).length) aL)), (11, .v (.int .i64 (IntKind.i64.wrap (((tagsN W l (Tree.mk n1 s2 b3 l4 u5) k2 + k : Nat) : Int) + 1)))), (100, .v (.slice am ((unknownT l u5).length) ao)), (101, .v (.int .i64 (((unknownT l u5).length : Nat) : Int))), (102, .v (.int .i64 ((k : Nat) : Int)))] cL ge fun oL gg => ?_
     clear ge
     refine wpOps_nil ?_
     refine block_normal ?_
     refine then_normal ?_
     refine go_region [0, 1] kz ?_
     refine go_rn [0, 1] [] [(9, .v (.slice A_ ((bodyB W l v (Tree.mk n1 s2 b3 l4 u5) 0).length) c_)), (10, .v (.slice aK ((tagsK W l (Tree.mk n1 s2 b3 l4 u5) k2 ++ tagsB ((unknownT l u5).take k) ++ (uv ak.toNat) ++ (uv ((whole aj).length)) ++ (whole aj)).length) aL)), (11, .v (.int .i64 (IntKind.i64.wrap (((tagsN W l (Tree.mk n1 s2 b3 l4 u5) k2 + k : Nat) : Int) + 1)))), (100, .v (.slice am ((unknownT l u5).length) ao)), (101, .v (.int .i64 (((unknownT l u5).length : Nat) : Int))), (102, .v (.int .i64 (IntKind.i64.wrap (((k : Nat) : Int) + 1))))] cL gg fun oM jT => ?_
     clear gg
     refine wpOps_nil (then_normal ?_)
     obtain ⟨cM, jU, jV⟩ := cL.cutB jT 1 [⟨cU, 0, [.int .i64 n1, .slice A6 s2.length c7, .bool b3, .slice A8 l4.length c9, .slice aV u5.length aW], true⟩] [(9, .v (.slice A_ ((bodyB W l v (Tree.mk n1 s2 b3 l4 u5) 0).length) c_)), (10, .v (.slice aK ((tagsK W l (Tree.mk n1 s2 b3 l4 u5) k2 ++ tagsB ((unknownT l u5).take k) ++ (uv ak.toNat) ++ (uv ((whole aj).length)) ++ (whole aj)).length) aL)), (11, .v (.int .i64 (IntKind.i64.wrap (((tagsN W l (Tree.mk n1 s2 b3 l4 u5) k2 + k : Nat) : Int) + 1)))), (100, .v (.slice am ((unknownT l u5).length) ao)), (101, .v (.int .i64 (((unknownT l u5).length : Nat) : Int))), (102, .v (.int .i64 (IntKind.i64.wrap (((k : Nat) : Int) + 1))))]
     obtain ⟨gh, jW⟩ := jU.cutR 2 [brow A_ c_ 5 (bodyB W l v (Tree.mk n1 s2 b3 l4 u5) 0), brow aK aL 5 (tagsK W l (Tree.mk n1 s2 b3 l4 u5) k2 ++ tagsB ((unknownT l u5).take k) ++ (uv ak.toNat) ++ (uv ((whole aj).length)) ++ (whole aj))]
     have gi : (tagsK W l (Tree.mk n1 s2 b3 l4 u5) k2 ++ tagsB ((unknownT l u5).take k) ++ (uv ak.toNat) ++ (uv ((whole aj).length)) ++ (whole aj)) = (tagsK W l (Tree.mk n1 s2 b3 l4 u5) k2 ++ tagsB ((unknownT l u5).take (k + 1))) := by rw [tagsB_succ bN]; simp only [List.append_assoc]
     have jX := congrArg (brow aK aL 5) gi
     obtain ⟨jY, jZ⟩ := gh.rowEq 1 [brow A_ c_ 5 (bodyB W l v (Tree.mk n1 s2 b3 l4 u5) 0), brow aK aL 5 (tagsK W l (Tree.mk n1 s2 b3 l4 u5) k2 ++ tagsB ((unknownT l u5).take (k + 1)))] jX
     clear gh
     rw [gi] at cM
     have j0 : IntKind.i64.wrap (((k : Nat) : Int) + 1) = ((k + 1 : Nat) : Int) := wrap_succ (by omega)
     rw [j0] at cM
     have j1 : IntKind.i64.wrap (((tagsN W l (Tree.mk n1 s2 b3 l4 u5) k2 + k : Nat) : Int) + 1) = ((tagsN W l (Tree.mk n1 s2 b3 l4 u5) k2 + (k + 1) : Nat) : Int) := by rw [wrap_i64 (by omega) (by omega)]; omega
     rw [j1] at cM
     exact ⟨(unknownT l u5).length - (k + 1), by omega, k + 1, aK, aL, rfl, by omega, cM.pk, jY, ((((((((((((((aH.trans aR).trans aS).trans bO).trans bP).trans bQ).trans bR).trans bS).trans bT).trans bU).trans jQ).trans jS).trans jV).trans jW).trans jZ)⟩
    ·
     have lP := of_decide_eq_false dG
     refine wp_exit ?_
     refine then_exit ?_
     refine then_exit ?_
     refine block_exit ?_
     refine then_normal ?_
     refine go_seq_region [0, 1, 2, 3, 4, 5, 6, 7] kz ?_
     refine go_rn [0, 1, 2] [3, 4, 5, 6, 7] [(10, .v (.slice A4_ ((tagsK W l (Tree.mk n1 s2 b3 l4 u5) k2 ++ tagsB ((unknownT l u5).take k)).length) c4_)), (125, .v (.slice A_ ((bodyB W l v (Tree.mk n1 s2 b3 l4 u5) 0).length) c_)), (127, .v (.int .u64 (IntKind.u64.wrap ((tagsN W l (Tree.mk n1 s2 b3 l4 u5) k2 + k : Nat) : Int))))] ba bM fun oN gj => ?_
     clear bM
     have j2 : IntKind.u64.wrap ((tagsN W l (Tree.mk n1 s2 b3 l4 u5) k2 + k : Nat) : Int) = ((tagsN W l (Tree.mk n1 s2 b3 l4 u5) k2 + k : Nat) : Int) := by simp only [wrap_u64, wrap_u32, wrap_u16, IntKind.wrap_i64, IntKind.wrap_i32]; omega
     have gk := EnvOk.pick gj (ks := [10, 125, 127]) (env' := [(10, .v (.slice A4_ ((tagsK W l (Tree.mk n1 s2 b3 l4 u5) k2 ++ tagsB ((unknownT l u5).take k)).length) c4_)), (125, .v (.slice A_ ((bodyB W l v (Tree.mk n1 s2 b3 l4 u5) 0).length) c_)), (127, .v (.int .u64 (IntKind.u64.wrap ((tagsN W l (Tree.mk n1 s2 b3 l4 u5) k2 + k : Nat) : Int))))]) kz
     have gl := gk.cast (env' := [(10, .v (.slice A4_ ((tagsK W l (Tree.mk n1 s2 b3 l4 u5) k2 ++ tagsB ((unknownT l u5).take k)).length) c4_)), (125, .v (.slice A_ ((bodyB W l v (Tree.mk n1 s2 b3 l4 u5) 0).length) c_)), (127, .v (.int .u64 ((tagsN W l (Tree.mk n1 s2 b3 l4 u5) k2 + k : Nat) : Int)))]) (by rw [j2])
     clear gj gk
     refine of_op (wpOp_call gl (f := 67) (vs := [.int .u64 ((tagsN W l (Tree.mk n1 s2 b3 l4 u5) k2 + k : Nat) : Int)]) (d := 128) kz Tryd.call67 (sUvarint (tagsN W l (Tree.mk n1 s2 b3 l4 u5) k2 + k) (by omega) _) ?_)
     rintro e_ oO ⟨cS, cT, rfl, j3, j4⟩
     refine ⟨_, rfl, fun oP gm => ?_⟩
     obtain ⟨cN, lQ⟩ := ba.frFresh j4 (brow cS cT 5 (uv (tagsN W l (Tree.mk n1 s2 b3 l4 u5) k2 + k))) (Nat.le_refl _) j3
     clear gl ba
     refine of_op (wpOp_append cN gm (k := 0) (d := 129) (t := 22) (e := 5) (size := 1) (bytes := 1) (A := A_) (As := cS) (m0 := ((bodyB W l v (Tree.mk n1 s2 b3 l4 u5) 0).length)) (c := c_) (m := ((uv (tagsN W l (Tree.mk n1 s2 b3 l4 u5) k2 + k)).length)) (cs := cT) (xs := (bc (bodyB W l v (Tree.mk n1 s2 b3 l4 u5) 0))) (news := bc (uv (tagsN W l (Tree.mk n1 s2 b3 l4 u5) k2 + k))) kz kz rfl (own_src (cN.own 2 _ rfl) (bc_one _)) (own_cap (cN.own 2 _ rfl)) (by have hkk3 : k = (unknownT l u5).length := (by omega); subst hkk3; subst hkk2; simp only [List.length_append, List.take_length] at *; omega) fun bi bj oQ oR lR gn gp => ?_)
     clear gm cN
     have j5 : (⟨bi, bj, 5, 1, (bodyB W l v (Tree.mk n1 s2 b3 l4 u5) 0).length + (uv (tagsN W l (Tree.mk n1 s2 b3 l4 u5) k2 + k)).length, bc (bodyB W l v (Tree.mk n1 s2 b3 l4 u5) 0) ++ bc (uv (tagsN W l (Tree.mk n1 s2 b3 l4 u5) k2 + k))⟩ : Rw) = brow bi bj 5 (bodyB W l v (Tree.mk n1 s2 b3 l4 u5) 0 ++ (uv (tagsN W l (Tree.mk n1 s2 b3 l4 u5) k2 + k))) := brow_eq (rfl) rfl
     obtain ⟨bV, lS⟩ := gn.rowEq 0 [brow bi bj 5 (bodyB W l v (Tree.mk n1 s2 b3 l4 u5) 0 ++ (uv (tagsN W l (Tree.mk n1 s2 b3 l4 u5) k2 + k))), brow A4_ c4_ 5 (tagsK W l (Tree.mk n1 s2 b3 l4 u5) k2 ++ tagsB ((unknownT l u5).take k)), brow cS cT 5 (uv (tagsN W l (Tree.mk n1 s2 b3 l4 u5) k2 + k))] j5
     clear gn
     have gq := EnvOk.pick gp (ks := [10, 125, 127, 128, 129]) (env' := [(10, .v (.slice A4_ ((tagsK W l (Tree.mk n1 s2 b3 l4 u5) k2 ++ tagsB ((unknownT l u5).take k)).length) c4_)), (125, .v (.slice A_ ((bodyB W l v (Tree.mk n1 s2 b3 l4 u5) 0).length) c_)), (127, .v (.int .u64 ((tagsN W l (Tree.mk n1 s2 b3 l4 u5) k2 + k : Nat) : Int))), (128, .v (.slice cS ((uv (tagsN W l (Tree.mk n1 s2 b3 l4 u5) k2 + k)).length) cT)), (129, .v (.slice bi ((bodyB W l v (Tree.mk n1 s2 b3 l4 u5) 0).length + (uv (tagsN W l (Tree.mk n1 s2 b3 l4 u5) k2 + k)).length) bj))]) kz
     have gt := gq.cast (env' := [(10, .v (.slice A4_ ((tagsK W l (Tree.mk n1 s2 b3 l4 u5) k2 ++ tagsB ((unknownT l u5).take k)).length) c4_)), (125, .v (.slice A_ ((bodyB W l v (Tree.mk n1 s2 b3 l4 u5) 0).length) c_)), (127, .v (.int .u64 ((tagsN W l (Tree.mk n1 s2 b3 l4 u5) k2 + k : Nat) : Int))), (128, .v (.slice cS ((uv (tagsN W l (Tree.mk n1 s2 b3 l4 u5) k2 + k)).length) cT)), (129, .v (.slice bi ((bodyB W l v (Tree.mk n1 s2 b3 l4 u5) 0 ++ (uv (tagsN W l (Tree.mk n1 s2 b3 l4 u5) k2 + k))).length) bj))]) (by simp only [List.length_append, List.length_cons, List.length_nil, Nat.zero_add])
     clear gp
     clear gq
     refine go_rn [5] [6, 7] [(129, .v (.slice bi ((bodyB W l v (Tree.mk n1 s2 b3 l4 u5) 0 ++ (uv (tagsN W l (Tree.mk n1 s2 b3 l4 u5) k2 + k))).length) bj)), (130, .v (.slice A4_ ((tagsK W l (Tree.mk n1 s2 b3 l4 u5) k2 ++ tagsB ((unknownT l u5).take k)).length) c4_))] bV gt fun oS gv => ?_
     clear gt
     refine of_op (wpOp_append bV gv (k := 0) (d := 131) (t := 22) (e := 5) (size := 1) (bytes := 1) (A := bi) (As := A4_) (m0 := ((bodyB W l v (Tree.mk n1 s2 b3 l4 u5) 0 ++ (uv (tagsN W l (Tree.mk n1 s2 b3 l4 u5) k2 + k))).length)) (c := bj) (m := ((tagsK W l (Tree.mk n1 s2 b3 l4 u5) k2 ++ tagsB ((unknownT l u5).take k)).length)) (cs := c4_) (xs := (bc (bodyB W l v (Tree.mk n1 s2 b3 l4 u5) 0 ++ (uv (tagsN W l (Tree.mk n1 s2 b3 l4 u5) k2 + k))))) (news := bc (tagsK W l (Tree.mk n1 s2 b3 l4 u5) k2 ++ tagsB ((unknownT l u5).take k))) kz kz rfl (own_src (bV.own 1 _ rfl) (bc_one _)) (own_cap (bV.own 1 _ rfl)) (by have hkk3 : k = (unknownT l u5).length := (by omega); subst hkk3; subst hkk2; simp only [List.length_append, List.take_length] at *; omega) fun cd ce oT oU lT gw gx => ?_)
     clear gv bV
     have j6 : (⟨cd, ce, 5, 1, (bodyB W l v (Tree.mk n1 s2 b3 l4 u5) 0 ++ (uv (tagsN W l (Tree.mk n1 s2 b3 l4 u5) k2 + k))).length + (tagsK W l (Tree.mk n1 s2 b3 l4 u5) k2 ++ tagsB ((unknownT l u5).take k)).length, bc (bodyB W l v (Tree.mk n1 s2 b3 l4 u5) 0 ++ (uv (tagsN W l (Tree.mk n1 s2 b3 l4 u5) k2 + k))) ++ bc (tagsK W l (Tree.mk n1 s2 b3 l4 u5) k2 ++ tagsB ((unknownT l u5).take k))⟩ : Rw) = brow cd ce 5 (bodyB W l v (Tree.mk n1 s2 b3 l4 u5) 0 ++ (uv (tagsN W l (Tree.mk n1 s2 b3 l4 u5) k2 + k)) ++ (tagsK W l (Tree.mk n1 s2 b3 l4 u5) k2 ++ tagsB ((unknownT l u5).take k))) := brow_eq (rfl) rfl
     obtain ⟨dL, lU⟩ := gw.rowEq 0 [brow cd ce 5 (bodyB W l v (Tree.mk n1 s2 b3 l4 u5) 0 ++ (uv (tagsN W l (Tree.mk n1 s2 b3 l4 u5) k2 + k)) ++ (tagsK W l (Tree.mk n1 s2 b3 l4 u5) k2 ++ tagsB ((unknownT l u5).take k))), brow A4_ c4_ 5 (tagsK W l (Tree.mk n1 s2 b3 l4 u5) k2 ++ tagsB ((unknownT l u5).take k)), brow cS cT 5 (uv (tagsN W l (Tree.mk n1 s2 b3 l4 u5) k2 + k))] j6
     clear gw
     have gy := EnvOk.pick gx (ks := [129, 130, 131]) (env' := [(129, .v (.slice bi ((bodyB W l v (Tree.mk n1 s2 b3 l4 u5) 0 ++ (uv (tagsN W l (Tree.mk n1 s2 b3 l4 u5) k2 + k))).length) bj)), (130, .v (.slice A4_ ((tagsK W l (Tree.mk n1 s2 b3 l4 u5) k2 ++ tagsB ((unknownT l u5).take k)).length) c4_)), (131, .v (.slice cd ((bodyB W l v (Tree.mk n1 s2 b3 l4 u5) 0 ++ (uv (tagsN W l (Tree.mk n1 s2 b3 l4 u5) k2 + k))).length + (tagsK W l (Tree.mk n1 s2 b3 l4 u5) k2 ++ tagsB ((unknownT l u5).take k)).length) ce))]) kz
     have gz := gy.cast (env' := [(129, .v (.slice bi ((bodyB W l v (Tree.mk n1 s2 b3 l4 u5) 0 ++ (uv (tagsN W l (Tree.mk n1 s2 b3 l4 u5) k2 + k))).length) bj)), (130, .v (.slice A4_ ((tagsK W l (Tree.mk n1 s2 b3 l4 u5) k2 ++ tagsB ((unknownT l u5).take k)).length) c4_)), (131, .v (.slice cd ((bodyB W l v (Tree.mk n1 s2 b3 l4 u5) 0 ++ (uv (tagsN W l (Tree.mk n1 s2 b3 l4 u5) k2 + k)) ++ (tagsK W l (Tree.mk n1 s2 b3 l4 u5) k2 ++ tagsB ((unknownT l u5).take k))).length) ce))]) (by simp only [List.length_append, List.length_cons, List.length_nil, Nat.zero_add])
     clear gx
     clear gy
     refine go_rn [7] [] [(8, .v (.slice cd ((bodyB W l v (Tree.mk n1 s2 b3 l4 u5) 0 ++ (uv (tagsN W l (Tree.mk n1 s2 b3 l4 u5) k2 + k)) ++ (tagsK W l (Tree.mk n1 s2 b3 l4 u5) k2 ++ tagsB ((unknownT l u5).take k))).length) ce))] dL gz fun oV j7 => ?_
     clear gz
     refine wpOps_nil (then_normal ?_)
     refine wp_ret ?_
     refine leave j7 dL.cells (v := .slice cd ((bodyB W l v (Tree.mk n1 s2 b3 l4 u5) 0 ++ (uv (tagsN W l (Tree.mk n1 s2 b3 l4 u5) k2 + k)) ++ (tagsK W l (Tree.mk n1 s2 b3 l4 u5) k2 ++ tagsB ((unknownT l u5).take k))).length) ce) kz ?_
     have hkk3 : k = (unknownT l u5).length := by omega
     exact fresh_end dL (k := 0) rfl (by rw [show flex = true by simpa using cr, partW_flex, hkk3, hkk2, List.take_length])
theorem sPartOK : ∀ d, PartOK d
 | 0 => fun A c l v flex ct t w F hl hd ht hr => sPart (fun _ _ => []) A c l v flex ct t w F (fun cf f ct t w F hm hf ht hr => by
   obtain ⟨i, hi⟩ := List.mem_iff_getElem?.1 hm
   have h := depths_get hi
   obtain ⟨k, x1, x2, x3, x4, x5, x6, l, A, c, xs, rfl, _⟩ := hf.open_
   rw [depth_mk] at h; omega) hl ht hr
 | d + 1 => fun A c l v flex ct t w F hl hd ht hr => sPart (fun f t => fieldD d f v flex t) A c l v flex ct t w F (fun cf f ct t w F hm hf ht hr => sField (sPartOK d) cf f v flex ct t w F hf (by
   obtain ⟨i, hi⟩ := List.mem_iff_getElem?.1 hm
   have h := depths_get hi
   obtain ⟨k, x1, x2, x3, x4, x5, x6, l, A, c, xs, rfl, _⟩ := hf.open_
   rw [depth_mk] at h
   show depths l ≤ d
   omega) ht hr) hl ht hr
theorem sWrite {d : Nat} (A : Option Addr) (c : Nat) (l : List Fld) (x v : Int) (ct : List Value) (t : Tree) (w : World) (F : Nat → Nat → Prop) (hl : FldsR w F A c l) (hd : depths l ≤ d) (ht : TreeR w F ct t) (hroom : (writeB d l x v t).length ≤ 1099511627776) :
  Calls Tryd.prog 12 #[.agg #[.slice A l.length c, .int .i64 x], .int .i64 v, .agg ct.toArray] w (FreshB w 5 (writeB d l x v t)) := by
 obtain ⟨xfs, h1, h2⟩ := hl.ex
 have hsm := h1.small
 obtain ⟨n1, s2, b3, l4, u5, A6, c7, A8, c9, ag, ah, aI, rfl, rfl, aJ, aK, aV, aW⟩ := ht.open_
 have aG := aJ.small
 have aH := aK.small
 refine enter (n := 21) Tryd.func12 rfl Tryd.ntmps12 kz fun a hE => ?_
 have hW := WOk.start w Nil
 refine go_seq_region [0, 1, 2] kz ?_
 refine of_op (wpOp_box hW hE (d := 3) (cs := [.slice A l.length c, .int .i64 x]) kz fun aX aY aZ aL aM aN ai aj => ?_)
 clear hE hW
 refine of_op (wpOp_box ai aj (d := 5) (cs := [.int .i64 n1, .slice A6 s2.length c7, .bool b3, .slice A8 l4.length c9, .slice ag u5.length ah]) kz fun ba bd bf aO aP aQ aa ak => ?_)
 clear aj ai
 refine go_rn [2] [] [(1, .v (.int .i64 v)), (3, .p 0 0), (5, .p 1 0)] aa ak fun bg al => ?_
 clear ak
 refine wpOps_nil (then_normal ?_)
 refine go_seq_region [0, 1, 2, 3, 4, 5, 6, 7, 8, 9, 10, 11, 12, 13, 14] kz ?_
 refine go_rn [0, 1, 2, 3, 4, 5, 6] [7, 8, 9, 10, 11, 12, 13, 14] [(1, .v (.int .i64 v)), (3, .p 0 0), (5, .p 1 0), (8, .v (.slice A l.length c)), (9, .v (.int .i64 v)), (13, .v (.bool (decide (x ≥ 0))))] aa al fun bh ac => ?_
 clear al
 refine (Bool.eq_false_or_eq_true (decide (x ≥ 0))).elim (fun ab => ?_) (fun ab => ?_)
 ·
  have aR := of_decide_eq_true ab
  have am := ac.cast (env' := [(1, .v (.int .i64 v)), (3, .p 0 0), (5, .p 1 0), (8, .v (.slice A l.length c)), (9, .v (.int .i64 v)), (13, .v (.bool true))]) (by rw [ab])
  clear ac
  refine go_rn [7, 8, 9, 10, 11, 12] [13, 14] [(8, .v (.slice A l.length c)), (9, .v (.int .i64 v)), (18, .v (.bool (decide (v ≥ x)))), (19, .v (.agg #[.int .i64 n1, .slice A6 s2.length c7, .bool b3, .slice A8 l4.length c9, .slice ag u5.length ah]))] aa am fun bi ao => ?_
  clear am
  refine of_op (wpOp_call ao (f := 33) (vs := [.slice A l.length c, .int .i64 v, .bool (decide (v ≥ x)), .agg #[.int .i64 n1, .slice A6 s2.length c7, .bool b3, .slice A8 l4.length c9, .slice ag u5.length ah]]) (d := 20) kz Tryd.call33 (sPartOK _ _ _ l v (decide (v ≥ x)) _ (Tree.mk n1 s2 b3 l4 u5) _ _ ⟨xfs, (h1.move aa.step nilM aa.imm), (fun i_ x_ h_ => ((h2 i_ x_ h_).move aa.step nilM aa.imm))⟩ hd (ht.move aa.step nilM aa.imm) (by simpa [writeB, ab] using hroom)) ?_)
  rintro e_ bj ⟨aw, ax, rfl, ay, az⟩
  refine ⟨_, rfl, fun bk ap => ?_⟩
  obtain ⟨ae, aS⟩ := aa.frFresh az (brow aw ax 5 (partB d l v (decide (v ≥ x)) (Tree.mk n1 s2 b3 l4 u5))) (Nat.le_refl _) ay
  clear ao aa
  refine go_rn [14] [] [(6, .v (.slice aw ((partB d l v (decide (v ≥ x)) (Tree.mk n1 s2 b3 l4 u5)).length) ax))] ae ap fun bn aA => ?_
  clear ap
  refine wpOps_nil (then_normal ?_)
  refine wp_ret ?_
  refine leave aA ae.cells (v := .slice aw ((partB d l v (decide (v ≥ x)) (Tree.mk n1 s2 b3 l4 u5)).length) ax) kz ?_
  exact fresh_end ae (k := 0) rfl (by simp [writeB, ab])
 ·
  have aT := of_decide_eq_false ab
  have ar := ac.cast (env' := [(1, .v (.int .i64 v)), (3, .p 0 0), (5, .p 1 0), (8, .v (.slice A l.length c)), (9, .v (.int .i64 v)), (13, .v (.bool false))]) (by rw [ab])
  clear ac
  refine go_rn [7, 8, 9, 10, 11, 12] [13, 14] [(8, .v (.slice A l.length c)), (9, .v (.int .i64 v)), (18, .v (.bool false)), (19, .v (.agg #[.int .i64 n1, .slice A6 s2.length c7, .bool b3, .slice A8 l4.length c9, .slice ag u5.length ah]))] aa ar fun bo au => ?_
  clear ar
  refine of_op (wpOp_call au (f := 33) (vs := [.slice A l.length c, .int .i64 v, .bool false, .agg #[.int .i64 n1, .slice A6 s2.length c7, .bool b3, .slice A8 l4.length c9, .slice ag u5.length ah]]) (d := 20) kz Tryd.call33 (sPartOK _ _ _ l v false _ (Tree.mk n1 s2 b3 l4 u5) _ _ ⟨xfs, (h1.move aa.step nilM aa.imm), (fun i_ x_ h_ => ((h2 i_ x_ h_).move aa.step nilM aa.imm))⟩ hd (ht.move aa.step nilM aa.imm) (by simpa [writeB, ab] using hroom)) ?_)
  rintro e_ bp ⟨aB, aC, rfl, aD, aE⟩
  refine ⟨_, rfl, fun bq av => ?_⟩
  obtain ⟨af, aU⟩ := aa.frFresh aE (brow aB aC 5 (partB d l v false (Tree.mk n1 s2 b3 l4 u5))) (Nat.le_refl _) aD
  clear au aa
  refine go_rn [14] [] [(6, .v (.slice aB ((partB d l v false (Tree.mk n1 s2 b3 l4 u5)).length) aC))] af av fun bt aF => ?_
  clear av
  refine wpOps_nil (then_normal ?_)
  refine wp_ret ?_
  refine leave aF af.cells (v := .slice aB ((partB d l v false (Tree.mk n1 s2 b3 l4 u5)).length) aC) kz ?_
  exact fresh_end af (k := 0) rfl (by simp [writeB, ab])
def sSASLHandshakeRequestF : List Fld := [(Fld.mk 8 0 (-1) (-1) (-1) 0 0 [])]
def sSASLHandshakeRequestX : Int := -1
theorem sSASLHandshakeRequest (w : World) (F : Nat → Nat → Prop) : Calls Tryd.prog 16 #[] w (GivesM w F sSASLHandshakeRequestF sSASLHandshakeRequestX) := by
 refine enter (n := 4) Tryd.func16 rfl Tryd.ntmps16 kz fun a hE => ?_
 have hW := WOk.start w Nil
 refine go_seq_region [0] kz ?_
 refine of_op (wpOp_alloc hW hE (d := 0) (cs := [.slice none 0 0, .int .i64 0]) kz fun b1 a2 w3 hb4 hz5 hF6 hW7 hE8 => ?_)
 clear hE hW
 refine wpOps_nil (then_normal ?_)
 refine go_seq_region [0, 1, 2, 3] kz ?_
 refine go_rn [0] [1, 2, 3] [(0, .p 0 0), (1, .v (.agg #[.int .i64 8, .int .i64 0, .int .i64 (-1), .int .i64 (-1), .int .i64 (-1), .int .i64 0, .int .i64 0, .slice none 0 0]))] hW7 hE8 fun a9 ae => ?_
 clear hE8
 refine of_op (wpOp_lit hW7 ae (e := 56) (size := 8) (len := 1) (cs := [.int .i64 8, .int .i64 0, .int .i64 (-1), .int .i64 (-1), .int .i64 (-1), .int .i64 0, .int .i64 0, .slice none 0 0]) (d := 2) kz kz fun ah ap ar ak al am ab af => ?_)
 clear ae hW7
 refine go_rn [2] [3] [(0, .p 0 0), (3, .v (.agg #[.slice (some ⟨ah, 0, none⟩) 1 1, .int .i64 (-1)]))] ab af fun au ag => ?_
 clear af
 refine of_op (wpOp_store ab ag (oi := 0) (cs := [.slice (some ⟨ah, 0, none⟩) 1 1, .int .i64 (-1)]) kz fun aj ao ac ai => ?_)
 clear ag ab
 refine wpOps_nil (then_normal ?_)
 refine wp_ret ?_
 refine leave ai ac.cells (v := .agg #[.slice (some ⟨ah, 0, none⟩) 1 1, .int .i64 (-1)]) kz ?_
 have aa := Flds.slots (F := F) ac (k := 0) (n := 1) (xs := [.int .i64 8, .int .i64 0, .int .i64 (-1), .int .i64 (-1), .int .i64 (-1), .int .i64 0, .int .i64 0, .slice none 0 0]) rfl (Flds.snoc (Flds.nil _ _) (c := [.int .i64 8, .int .i64 0, .int .i64 (-1), .int .i64 (-1), .int .i64 (-1), .int .i64 0, .int .i64 0, .slice none 0 0]) (x := (Fld.mk 8 0 (-1) (-1) (-1) 0 0 [])) (FldR.mk (l := []) _ (noFlds aj (Fp F w)).1 (noFlds aj (Fp F w)).2)) rfl (by decide)
 exact ⟨_, _, rfl, ⟨_, aa.1, aa.2⟩, ac.step⟩
end Go.Proofs.YtnhgfbgdoelfoaaDoor.ME
namespace Go.Proofs.YtnhgfbgdoelfoaaDoor.ME
open Go
open Go.RowKit
set_option linter.unusedVariables false
set_option linter.unusedSimpArgs false
set_option maxRecDepth 20000
def canSASLHandshakeRequest (T : Tree) : Prop := ((T.at_ 0).S.length ≤ 32767) ∧ True
theorem canfitSASLHandshakeRequest (v : Int) (t : Tree) : canSASLHandshakeRequest (fitT v 8 sSASLHandshakeRequestF t) := by
 unfold canSASLHandshakeRequest
 exact ⟨(by rw [fit_t (d := 7) (show sSASLHandshakeRequestF[0]? = _ from rfl) (by decide)]; exact Nat.le_trans (whole_le _) (by decide)), (trivial)⟩
set_option maxHeartbeats 4000000 in
theorem pureSASLHandshakeRequest (v : Int) (h0 : 0 ≤ v) (h1 : v < 32768) (t : Tree) : tSASLHandshakeRequest v (fitT v 8 sSASLHandshakeRequestF t) = writeB 8 sSASLHandshakeRequestF sSASLHandshakeRequestX v t := by
 have aa := fit_t (v := v) (d := 7) (t := t) (l := sSASLHandshakeRequestF) (i := 0) (show sSASLHandshakeRequestF[0]? = _ from rfl) (by decide)
 unfold tSASLHandshakeRequest
 simp only [fit_U, tagsR_whole, wholeU_len, List.flatMap_map, List.length_map, aa]
 try simp only [be4_i32', be2_i16, be8_i64, be1_i8, be2_wrap, sixteenB_uuid, bool8, be8_f64]
 first | (exfalso; omega) | simp [writeB, sSASLHandshakeRequestX, sSASLHandshakeRequestF, partB, partW, bodyB, Fld.tag, Fld.has, fieldB, Fld.kind, Fld.null, Fld.of, Fld.sub, valueB, widthI, tagsN, tagsK, knownI, countedB, uv0, nul_no, h0]
end Go.Proofs.YtnhgfbgdoelfoaaDoor.ME
namespace Go.Proofs.YtnhgfbgdoelfoaaDoor.ME
open Go
open Go.RowKit
set_option linter.unusedVariables false
set_option linter.unusedSimpArgs false
def Moves (ok : World → (Nat → Nat → Prop) → DV → Prop) : Prop := ∀ {w w' : World} {F F' M : Nat → Nat → Prop} (d : DV), Step w w' M → (∀ b o, F b o → b < w.heap.size → ¬ M b o) → (∀ b o, F b o → b < w.heap.size → F' b o) → ok w F d → ok w' F' d
section
variable {w w' w0 : World} {F F' M : Nat → Nat → Prop} {size : Nat} {cells : DV → List Value} {ok : World → (Nat → Nat → Prop) → DV → Prop} {rel : DV → Tree → Prop} {xs : List Value} {ds : List DV} {ts : List Tree} {A : Option Addr} {c : Nat} {f : Nat → DV} {tb : Tb} {rs rs' : List Rw}
end
theorem wp_join {P : Program} {c : Code} {Mid N : Act → World → Prop} {Q : Exit → Act → World → Prop} {a : Act} {w : World} (h1 : c.wp P (Exit.then Mid Q) a w) (h2 : ∀ a' w', Mid a' w' → N a' w') : c.wp P (Exit.then N Q) a w :=
 wp_mono h1 fun e a' w' h => by
  cases e <;> first | exact h2 a' w' h | exact h
def dvS (s : ByteArray) : DV := .mk 0 false s [] none 0 0 none [] (fun _ => .leaf)
def dvP (m : Option Nat) (u : List (Int × Bs)) (fs : List DV) : DV := .mk 0 false ByteArray.empty [] none 0 0 m u (fun i => fs.getD i .leaf)
def cutA (A : Option Addr) (cp j : Nat) : Option Addr := if cp = j then A else A.map (·.add j)
theorem getD_drop (s : Bs) (j i : Nat) : (s.drop j).getD i 0 = s.getD (j + i) 0 := by
 rw [List.getD_eq_getElem?_getD, List.getD_eq_getElem?_getD, List.getElem?_drop]
theorem Octs.drop {w : World} {F : Nat → Nat → Prop} {A : Option Addr} {c : Nat} {s : Bs} (h : Octs w F A c s) {j : Nat} (hj : j ≤ s.length) : Octs w F (cutA A c j) (c - j) (s.drop j) := by
 have hle := h.le
 have hsm := h.small
 unfold Octs
 rw [List.length_drop]
 refine ⟨by omega, by omega, fun hA => ?_, fun ad hA hn => ?_⟩
 ·have hn : A = none := by
   unfold cutA at hA
   split at hA
   ·exact hA
   ·cases A with
    | none => rfl
    | some _ => cases hA
  have := h.none_ hn
  omega
 ·have hA' : A.map (·.add j) = some ad := by
   unfold cutA at hA
   rwa [if_neg (by omega)] at hA
  cases hq : A with
  | none => rw [hq] at hA'; cases hA'
  | some ad0 =>
   rw [hq] at hA'
   obtain ⟨b, o, rfl, h2⟩ := h.some_ ad0 hq (by omega)
   simp only [Option.map_some, Option.some.injEq, add_none] at hA'
   subst hA'
   refine ⟨b, o + j, rfl, fun i hi => ?_⟩
   rw [getD_drop, show o + j + i * 1 = o + (j + i) * 1 by omega]
   exact h2 (j + i) (by omega)
theorem Octs.cutS {w : World} {F : Nat → Nat → Prop} {A : Option Addr} {c : Nat} {s : Bs} (h : Octs w F A c s) {j : Nat} (hj : j ≤ s.length) : Octs w F A j (s.take j) := by
 have h1 := h.take j
 refine ⟨by rw [List.length_take]; omega, h1.small, fun hA => ?_, h1.some_⟩
 have := h.none_ hA
 rw [List.length_take]; omega
section
variable {P : Program} {ops : Array Oper} {Q : Exit → Act → World → Prop} {n : Nat} {tb : Tb} {env : Env} {rs : List Rw} {w0 : World} {M : Nat → Nat → Prop} {a : Act} {w : World}
theorem run_cut_lo {t e : TypeId} {bytes : Nat} (ht : rowTy P t = some (e, 1, bytes)) {A : Option Addr} {m cp : Nat} {k : IntKind} {q : Int} (h0 : 0 ≤ q) (h1 : q ≤ m) :
  (Instr.sliceAt t (.slice A m cp) (some (.int k q)) none none).run P w = .ok (.slice (cutA A cp q.toNat) (m - q.toNat) (cp - q.toNat)) w := by
 obtain ⟨ht', inf, z, hi, hz, hzs, hs1, rfl, hsz, hbp⟩ := rowTy_ok ht
 unfold Instr.sliceAt
 simp only [Sem.run_bind, run_underlying ht', Result.andThen_ok]
 unfold Instr.slice
 have hb : (0 ≤ q ∧ q ≤ (m : Int)) := ⟨h0, h1⟩
 simp only [Sem.run_bind, run_underlying ht', Result.andThen_ok, Instr.sliceBounds, Instr.sliceBound, asIntOf, Sem.run_pure, if_pos hb, run_sizeOf' hi, hs1, Nat.mul_one]
 rfl
theorem run_cut_hm {t e : TypeId} {bytes : Nat} (ht : rowTy P t = some (e, 1, bytes)) {A : Option Addr} {m cp : Nat} {k : IntKind} {q : Int} (h0 : 0 ≤ q) (h1 : q ≤ cp) :
  (Instr.sliceAt t (.slice A m cp) none (some (.int k q)) (some (.int k q))).run P w = .ok (.slice A q.toNat q.toNat) w := by
 obtain ⟨ht', inf, z, hi, hz, hzs, hs1, rfl, hsz, hbp⟩ := rowTy_ok ht
 unfold Instr.sliceAt
 simp only [Sem.run_bind, run_underlying ht', Result.andThen_ok]
 unfold Instr.slice
 have hb : (0 ≤ q ∧ q ≤ (cp : Int)) := ⟨h0, h1⟩
 have hb2 : (0 ≤ q ∧ q ≤ ((q.toNat : Nat) : Int)) := ⟨h0, by omega⟩
 simp only [Sem.run_bind, run_underlying ht', Result.andThen_ok, Instr.sliceBounds, Instr.sliceBound, asIntOf, Sem.run_pure, if_pos hb, if_pos hb2, run_sizeOf' hi]
 cases A with
 | none => simp
 | some ad => simp [Addr.add]
theorem wpOp_cut_lo {i d j : Nat} {N : Act → World → Prop} {t e : TypeId} {bytes m cp : Nat} {A : Option Addr} {q : Int} (hE : EnvOk n tb env a) (h : cutE tb env ops n i = some (t, .slice A m cp, some q, none, d)) (ht : rowTy P t = some (e, 1, bytes)) (hq : q = (j : Int)) (hj : j ≤ m)
  (K : ∀ a', EnvOk n tb ((d, .v (.slice (cutA A cp j) (m - j) (cp - j))) :: env) a' → N a' w) : wpOp P ops Q i N a w := by
 have h0 : 0 ≤ q := by omega
 have h1 : q ≤ m := by omega
 obtain rfl : j = q.toNat := by omega
 unfold cutE at h
 split at h
 ·rename_i t' x lo hi d' ho
  have hd : d' < n := (opAt_ok hE ho).choose_spec.2.2.2.1
  split at h
  ·simp at h
  ·rename_i s l hs
   split at h
   ·rename_i k q' hs2
    simp only [Option.some.injEq, Prod.mk.injEq, true_and] at h
    obtain ⟨rfl, hsv, rfl, rfl⟩ := h
    have e1 := (opd_ok hE hs).1
    have e2 := (opd_ok hE hs2).1
    refine wpOp_value hE ho (v := .slice (cutA A cp q'.toNat) (m - q'.toNat) (cp - q'.toNat)) (w' := w) (fun o' hop => ?_) (K _ (hE.put hd (.v _) trivial))
    unfold execOp
    rw [hop]
    rw [hsv] at e1
    simp only [SV.val] at e2
    simp only [e1, e2, Option.map_none, Option.map_some, Sem.run_bind, run_cut_lo ht h0 h1, Result.andThen_ok, Sem.run_pure]
   ·cases h
  ·split at h <;> simp at h
  ·split at h <;> simp at h
  ·cases h
 ·cases h
def cutmE (tb : Tb) (env : Env) (ops : Array Oper) (n i : Nat) : Option (TypeId × Value × IntKind × Int × IntKind × Int × Nat) :=
 match opAt env ops n i with
 | some (.slice t x none (some h) (some m), d) => match opd env x, opd env h, opd env m with
  | some s, some (.v (.int k p)), some (.v (.int k' q)) => some (t, s.val tb, k, p, k', q, d)
  | _, _, _ => none
 | _ => none
theorem wpOp_cutm {i d j : Nat} {N : Act → World → Prop} {t e : TypeId} {bytes m cp : Nat} {A : Option Addr} {k : IntKind} {q : Int} (hE : EnvOk n tb env a) (h : cutmE tb env ops n i = some (t, .slice A m cp, k, q, k, q, d)) (ht : rowTy P t = some (e, 1, bytes)) (hq : q = (j : Int)) (hj : j ≤ cp)
  (K : ∀ a', EnvOk n tb ((d, .v (.slice A j j)) :: env) a' → N a' w) : wpOp P ops Q i N a w := by
 have h0 : 0 ≤ q := by omega
 have h1 : q ≤ cp := by omega
 obtain rfl : j = q.toNat := by omega
 unfold cutmE at h
 split at h
 ·rename_i t' x hh mm d' ho
  have hd : d' < n := (opAt_ok hE ho).choose_spec.2.2.2.1
  split at h
  ·rename_i s k1 p1 k2 q2 g1 g2 g3
   simp only [Option.some.injEq, Prod.mk.injEq] at h
   obtain ⟨rfl, hsv, rfl, rfl, rfl, rfl, rfl⟩ := h
   have f1 := (opd_ok hE g1).1
   have f2 := (opd_ok hE g2).1
   have f3 := (opd_ok hE g3).1
   rw [hsv] at f1
   simp only [SV.val] at f2 f3
   refine wpOp_value hE ho (v := .slice A q2.toNat q2.toNat) (w' := w) (fun o' hop => ?_) (K _ (hE.put hd (.v _) trivial))
   unfold execOp
   rw [hop]
   simp only [f1, f2, f3, Option.map_none, Option.map_some, Sem.run_bind, run_cut_hm ht h0 h1, Result.andThen_ok, Sem.run_pure]
  ·cases h
 ·cases h
end
structure RdS (w : World) (F : Nat → Nat → Prop) (A : Option Addr) (n c : Nat) (s : Bs) : Prop where
 len : n = s.length
 oct : Octs w F A c s
theorem RdS.move {w w' : World} {F F' M : Nat → Nat → Prop} {A : Option Addr} {n c : Nat} {s : Bs} (h : RdS w F A n c s) (hs : Step w w' M) (hM : ∀ b o, F b o → b < w.heap.size → ¬ M b o) (hF : ∀ b o, F b o → b < w.heap.size → F' b o) : RdS w' F' A n c s := ⟨h.len, Octs.move h.oct hs hM hF⟩
theorem RdS.cast {w : World} {F : Nat → Nat → Prop} {A : Option Addr} {n c : Nat} {s t : Bs} (h : RdS w F A n c s) (e : s = t) : RdS w F A n c t := e ▸ h
theorem RdS.drop {w : World} {F : Nat → Nat → Prop} {A : Option Addr} {n c j : Nat} {s t : Bs} (h : RdS w F A n c (s ++ t)) (hj : j = s.length) : RdS w F (cutA A c j) (n - j) (c - j) t := by
 subst hj
 have h1 := h.oct.drop (j := s.length) (by rw [List.length_append]; omega)
 rw [List.drop_left] at h1
 exact ⟨by rw [h.len, List.length_append]; omega, h1⟩
theorem RdS.front {w : World} {F : Nat → Nat → Prop} {A : Option Addr} {n c j : Nat} {s t : Bs} (h : RdS w F A n c (s ++ t)) (hj : j = s.length) : Octs w F A j s := by
 subst hj
 have h1 := h.oct.cutS (j := s.length) (by rw [List.length_append]; omega)
 rwa [List.take_left] at h1
def RdM (br : Nat) : Nat → Nat → Prop := fun b o => b = br ∧ o < 2
def RdPost (w : World) (br : Nat) (F : Nat → Nat → Prop) (rest : Bs) (Q : Value → World → Prop) : Ending → World → Prop := fun e w' =>
 ∃ v A' n' c', e = .returned v ∧ Str w' br [.slice A' n' c', .bool false] ∧ RdS w' F A' n' c' rest ∧ Step w w' (RdM br) ∧ Q v w'
theorem WOk.startStr {w : World} {p : Nat} {cs : List Value} (h : Str w p cs) (hn : Nat.blt 0 cs.length = true := by kernel_rfl) : WOk w (fun b o => b = p ∧ o < cs.length) w [⟨p, 0, cs, true⟩] [] := by
 have hn' : 0 < cs.length := by simpa [Nat.blt_eq] using hn
 exact (WOk.start w _).add ⟨p, 0, cs, true⟩ (World.lt_of_cell (h.at_ 0 _ (List.getElem?_eq_getElem hn'))) (fun j v hj => by rw [Nat.zero_add]; exact h.at_ j v hj) (fun _ j hj => ⟨.inr ⟨rfl, by rw [Nat.zero_add]; exact hj⟩, by rw [Nat.zero_add]; exact h.frz j hj⟩) (fun i o hi => by simp at hi) (fun i r hi => by simp at hi)
theorem WOk.wrote {w0 w w' : World} {M : Nat → Nat → Prop} {tb : Tb} {rs : List Rw} {p : Nat} {cs cs' : List Value} (hW : WOk w0 M w tb rs) (i : Nat) (tb' : Tb) (hi : tb[i]? = some ⟨p, 0, cs, true⟩) (hst : Step w w' (fun b o => b = p ∧ o < cs.length)) (hs : Str w' p cs') (ht : tb.set i ⟨p, 0, cs', true⟩ = tb' := by rfl) (hl : cs'.length = cs.length := by rfl) :
  WOk w0 M w' tb' rs ∧ Fr w tb rs w' tb' rs ∧ ∀ {G : Nat → Nat → Prop} (b o : Nat), Fp (Imm G w0 w tb rs) w b o → b < w'.heap.size → Imm G w0 w' tb' rs b o := by
 subst ht
 have key : ∀ (j : Nat) (o : Ob), (tb.set i ⟨p, 0, cs', true⟩)[j]? = some o → (j = i ∧ o = ⟨p, 0, cs', true⟩) ∨ (j ≠ i ∧ tb[j]? = some o) := fun j o hj => by
  rcases set_get hj with ⟨h1, h2, _⟩ | ⟨h1, h2⟩
  ·exact .inl ⟨h1, h2⟩
  ·exact .inr ⟨h1, h2⟩
 have far : ∀ (j : Nat) (o : Ob), j ≠ i → tb[j]? = some o → ∀ q, q < o.cells.length → ¬ (o.blk = p ∧ o.off + q < cs.length) := fun j o hne hj q hq e => by
  rcases hW.apart j i o _ hne hj hi (.inr rfl) with h1 | h1 | h1
  ·exact h1 e.1
  ·simp only [Nat.le_zero] at h1; omega
  ·simp only [Nat.zero_add] at h1; omega
 have act : ∀ b o, Act_ (tb.set i ⟨p, 0, cs', true⟩) rs b o → Act_ tb rs b o := fun b o ha => by
  rcases ha with ⟨j, ob, hj, h1, h2, h3, h4⟩ | ha
  ·rcases key j ob hj with ⟨rfl, rfl⟩ | ⟨_, hj⟩
   ·exact .inl ⟨j, _, hi, rfl, h2, h3, by simpa [hl] using h4⟩
   ·exact .inl ⟨j, ob, hj, h1, h2, h3, h4⟩
  ·exact .inr ha
 refine ⟨⟨hW.step.trans hst fun b o hb e => ?_, ?_, ?_, ?_, ?_, ?_, hW.ownM, ?_, hW.rr⟩, ⟨fun b o _ hn ha => hn (act b o ha), hst.mono fun b o _ e => .inl ⟨i, _, hi, rfl, e.1.symm, Nat.zero_le _, by simpa using e.2⟩⟩, fun b o hf hb => ?_⟩
 rotate_right
 ·rcases hf with hf | hf
  ·exact ⟨hf.1, hb, fun ha => hf.2.2 (act b o ha)⟩
  ·exact ⟨.inr (Nat.le_trans hW.step.size hf), hb, fun ha => by have := hW.act_live (act b o ha); omega⟩
 ·have h1 := (hW.rw_ i _ hi rfl o e.2).1
  simp only [Nat.zero_add] at h1
  rcases h1 with h1 | h1
  ·have := e.1; omega
  ·rw [e.1]; exact h1
 ·intro j o hj q v hv
  rcases key j o hj with ⟨rfl, rfl⟩ | ⟨hne, hj⟩
  ·dsimp only
   rw [Nat.zero_add]
   exact hs.at_ q v hv
  ·exact hst.cell (far j o hne hj q (List.getElem?_eq_some_iff.1 hv).1) (hW.cells j o hj q v hv)
 ·intro j o hj
  rcases key j o hj with ⟨rfl, rfl⟩ | ⟨_, hj⟩
  ·have h1 := hW.live j _ hi
   exact Nat.lt_of_lt_of_le h1 hst.size
  ·exact Nat.lt_of_lt_of_le (hW.live j o hj) hst.size
 ·intro j o hj hr q hq
  rcases key j o hj with ⟨rfl, rfl⟩ | ⟨hne, hj⟩
  ·dsimp only at hq ⊢
   refine ⟨(hW.rw_ j _ hi rfl q (by simpa [hl] using hq)).1, ?_⟩
   rw [Nat.zero_add]
   exact hs.frz q hq
  ·obtain ⟨h1, h2⟩ := hW.rw_ j o hj hr q hq
   exact ⟨h1, hst.frozen (far j o hne hj q hq) (hW.cells j o hj q _ (List.getElem?_eq_getElem hq)) h2⟩
 ·intro j k o o' hjk hj hk hw
  rcases key j o hj with ⟨rfl, rfl⟩ | ⟨hne, hj'⟩
  ·rcases key k o' hk with ⟨rfl, rfl⟩ | ⟨hne', hk'⟩
   ·exact absurd rfl hjk
   ·have := hW.apart j k _ o' hjk hi hk' (.inl rfl)
    simpa [hl] using this
  ·rcases key k o' hk with ⟨rfl, rfl⟩ | ⟨hne', hk'⟩
   ·have := hW.apart j k o _ hjk hj' hi (.inr rfl)
    simpa [hl] using this
   ·exact hW.apart j k o o' hjk hj' hk' hw
 ·intro j r hj
  refine own_keep (hW.own j r hj) fun g hg => (hst.keeps g (own_live (hW.own j r hj) hg)).1 fun o e => ?_
  exact hW.rtb j r hj g hg i _ hi e.1.symm
 ·intro j r hj g hg k o hk
  rcases key k o hk with ⟨rfl, rfl⟩ | ⟨_, hk⟩
  ·have h1 := hW.rtb j r hj g hg k _ hi
   exact h1
  ·exact hW.rtb j r hj g hg k o hk
theorem WOk.giveUp {G : Nat → Nat → Prop} {w0 w : World} {tb : Tb} {rs : List Rw} {A : Option Addr} {c e : Nat} {s : Bs} (hW : WOk w0 Nil w tb rs) (k : Nat) (rs' : List Rw) (hk : rs[k]? = some (brow A c e s)) (hsm : s.length ≤ 1099511627776) (hr : rs.take k = rs' := by rfl) : Octs w (Imm G w0 w tb rs') A c s := by
 subst hr
 refine octs_own (hW.own k _ hk) hsm fun g hg o => ?_
 have hb := own_live (hW.own k _ hk) (r := brow A c e s) hg
 refine ⟨?_, hb, fun ha => ?_⟩
 ·rcases hW.ownM k _ hk g hg with h2 | h2
  ·exact .inr h2
  ·exact (h2 0).elim
 ·rcases ha with ⟨i, ob, h2, _, h3, _⟩ | ⟨i, r, h2, h3⟩
  ·exact hW.rtb k _ hk g hg i ob h2 h3
  ·rw [List.getElem?_take] at h2
   split at h2
   ·rename_i hlt
    exact hW.rr k i _ r (by omega) hk h2 g hg h3
   ·cases h2
theorem imm_not {G : Nat → Nat → Prop} {w0 w : World} {tb : Tb} {rs : List Rw} {p : Nat} {cs : List Value} (i : Nat) (hi : tb[i]? = some ⟨p, 0, cs, true⟩) : ∀ b o, Imm G w0 w tb rs b o → ¬ (b = p ∧ o < cs.length) := fun b o h e => by
 obtain ⟨rfl, h2⟩ := e
 exact h.2.2 (.inl ⟨i, _, hi, rfl, rfl, Nat.zero_le _, by simpa using h2⟩)
end Go.Proofs.YtnhgfbgdoelfoaaDoor.ME
namespace Go.Proofs.YtnhgfbgdoelfoaaDoor.ME
open Go
set_option linter.unusedVariables false
set_option linter.unusedSimpArgs false
theorem or_join (k : IntKind) (n : Nat) (hn : n = k.bits) (hk : ∀ z : Int, 0 ≤ z → z < 2 ^ n → k.wrap z = z) (i : Nat) (y x : Int) (h0 : 0 ≤ y) (h1 : y < 2 ^ i) (h2 : y < 2 ^ n) (h3 : 0 ≤ x) (h4 : x % 2 ^ i = 0) (h5 : x < 2 ^ n) :
  k.wrap (BitVec.ofInt n y ||| BitVec.ofInt n x).toNat = y + x := by
 subst hn
 exact bits_join_low k k.bits (Nat.le_refl _) hk i y x h0 h1 h2 h3 h4 h5
theorem or16 (i : Nat) (y x : Int) (h0 : 0 ≤ y) (h1 : y < 2 ^ i) (h2 : y < 2 ^ 16) (h3 : 0 ≤ x) (h4 : x % 2 ^ i = 0) (h5 : x < 2 ^ 16) : IntKind.u16.wrap (BitVec.ofInt 16 y ||| BitVec.ofInt 16 x).toNat = y + x :=
 or_join .u16 16 rfl (fun z a b => by rw [wrap_u16]; omega) i y x h0 h1 h2 h3 h4 h5
def oc (s : Bs) (i : Nat) : Nat := (s.getD i 0).toNat
theorem oc_lt (s : Bs) (i : Nat) : oc s i < 256 := (s.getD i 0).toNat_lt
theorem oc_cons (b : UInt8) (s : Bs) (i : Nat) : oc (b :: s) (i + 1) = oc s i := rfl
theorem oc_zero (b : UInt8) (s : Bs) : oc (b :: s) 0 = b.toNat := rfl
theorem oc_by8 (x : Int) (s : Bs) : ((oc (by8 x :: s) 0 : Nat) : Int) = x % 256 := by rw [oc_zero, by8_toNat]
def be16 (s : Bs) : Int := ((oc s 0 : Nat) : Int) * 256 + oc s 1
theorem be16_be (x : Int) (s : Bs) : be16 (be 2 x ++ s) = IntKind.u16.wrap x := by
 rw [wrap_u16]
 simp only [be, List.cons_append, List.nil_append, be16, oc_cons, oc_by8, Int.reducePow]
 omega
theorem i16w (x : Int) : IntKind.i16.wrap x = (x + 32768) % 65536 - 32768 := by simp [IntKind.wrap, IntKind.signed, IntKind.bits]; omega
theorem i32w (x : Int) : IntKind.i32.wrap x = (x + 2147483648) % 4294967296 - 2147483648 := by simp [IntKind.wrap, IntKind.signed, IntKind.bits]; omega
theorem i64w (x : Int) : IntKind.i64.wrap x = (x + 9223372036854775808) % 18446744073709551616 - 9223372036854775808 := by simp [IntKind.wrap, IntKind.signed, IntKind.bits]; omega
theorem i16_u16 (x : Int) : IntKind.i16.wrap (IntKind.u16.wrap x) = IntKind.i16.wrap x := by rw [i16w, i16w, wrap_u16]; omega
theorem u16_le (b0 b1 : Nat) (h0 : b0 < 256) (h1 : b1 < 256) : IntKind.u16.wrap (BitVec.ofInt 16 (IntKind.u16.wrap (((b1 : Nat) : Int))) ||| BitVec.ofInt 16 (IntKind.u16.wrap (IntKind.u16.wrap (((b0 : Nat) : Int)) * 256))).toNat = ((b0 : Nat) : Int) * 256 + ((b1 : Nat) : Int) := by
 have e1 : IntKind.u16.wrap (BitVec.ofInt 16 (IntKind.u16.wrap (((b1 : Nat) : Int))) ||| BitVec.ofInt 16 (IntKind.u16.wrap (IntKind.u16.wrap (((b0 : Nat) : Int)) * 256))).toNat = ((b1 : Nat) : Int) + ((b0 : Nat) : Int) * 256 := by
  rw [or16 8 _ _ (by first | omega | (simp only [wrap_u16]; omega)) (by first | omega | (simp only [wrap_u16]; omega)) (by first | omega | (simp only [wrap_u16]; omega)) (by first | omega | (simp only [wrap_u16]; omega)) (by first | omega | (simp only [wrap_u16]; omega)) (by first | omega | (simp only [wrap_u16]; omega))]; first | omega | (simp only [wrap_u16]; omega)
 rw [e1]
 omega
theorem imm_n {G : Nat → Nat → Prop} {w0 w : World} {tb : Tb} {rs : List Rw} {p n : Nat} {cs : List Value} (i : Nat) (hi : tb[i]? = some ⟨p, 0, cs, true⟩) (hn : cs.length = n := by rfl) : ∀ b o, Imm G w0 w tb rs b o → ¬ (b = p ∧ o < n) := by
 subst hn
 exact imm_not i hi
theorem imm_rd {G : Nat → Nat → Prop} {w0 w : World} {tb : Tb} {rs : List Rw} {p : Nat} {x y : Value} (i : Nat) (hi : tb[i]? = some ⟨p, 0, [x, y], true⟩) : ∀ b o, Imm G w0 w tb rs b o → ¬ RdM p b o := imm_not i hi
theorem WOk.immM {G : Nat → Nat → Prop} {w0 w : World} {M : Nat → Nat → Prop} {tb : Tb} {rs : List Rw} (h : WOk w0 M w tb rs) (hd : ∀ b o, G b o → ¬ M b o) : ∀ b o, G b o → b < w0.heap.size → Imm G w0 w tb rs b o := by
 refine fun b o hg hb => ⟨.inl hg, Nat.lt_of_lt_of_le hb h.step.size, fun ha => hd b o hg ?_⟩
 rcases ha with ⟨i, ob, hi, hr, rfl, h1, h2⟩ | ⟨i, r, hi, hr⟩
 ·have := (h.rw_ i ob hi hr (o - ob.off) (by omega)).1
  rw [show ob.off + (o - ob.off) = o by omega] at this
  rcases this with h3 | h3
  ·omega
  ·exact h3
 ·rcases h.ownM i r hi b hr with h3 | h3
  ·omega
  ·exact h3 o
end Go.Proofs.YtnhgfbgdoelfoaaDoor.ME
namespace Go.Proofs.YtnhgfbgdoelfoaaDoor.ME
open Go
open Go.RowKit
set_option linter.unusedVariables false
set_option linter.unusedSimpArgs false
abbrev FactW := World → (Nat → Nat → Prop) → Prop
structure MvF (P : FactW) : Prop where
 move : ∀ {w w' : World} {F F' M : Nat → Nat → Prop}, Step w w' M → (∀ b o, F b o → b < w.heap.size → ¬ M b o) → (∀ b o, F b o → b < w.heap.size → F' b o) → P w F → P w' F'
def noF : FactW := fun _ _ => True
theorem MvF.no : MvF noF := ⟨fun _ _ _ _ => trivial⟩
theorem MvF.mono {P : FactW} (h : MvF P) {w : World} {F F' : Nat → Nat → Prop} (hF : ∀ b o, F b o → b < w.heap.size → F' b o) (g : P w F) : P w F' := h.move (Step.refl w Nil) nilM hF g
abbrev rdo (br : Nat) (A : Option Addr) (m c : Nat) : Ob := ⟨br, 0, [.slice A m c, .bool false], true⟩
theorem act_rdo {br : Nat} {A A' : Option Addr} {m c m' c' : Nat} {tb : Tb} {rs : List Rw} {b o : Nat} (h : Act_ (rdo br A m c :: tb) rs b o) : Act_ (rdo br A' m' c' :: tb) rs b o := by
 rcases h with ⟨i, ob, hi, h1⟩ | h
 ·cases i with
  | zero =>
   simp only [List.getElem?_cons_zero, Option.some.injEq] at hi
   subst hi
   exact .inl ⟨0, _, rfl, h1⟩
  | succ i => exact .inl ⟨i + 1, ob, hi, h1⟩
 ·exact .inr h
theorem imm_rdo {G : Nat → Nat → Prop} {w0 w : World} {br : Nat} {A A' : Option Addr} {m c m' c' : Nat} {tb : Tb} {rs : List Rw} {b o : Nat} (h : Imm G w0 w (rdo br A m c :: tb) rs b o) : Imm G w0 w (rdo br A' m' c' :: tb) rs b o :=
 ⟨h.1, h.2.1, fun ha => h.2.2 (act_rdo ha)⟩
theorem EnvOk.rdo {n br : Nat} {A A' : Option Addr} {m c m' c' : Nat} {tb : Tb} {env : Env} {a : Act} (h : EnvOk n (rdo br A m c :: tb) env a) : EnvOk n (rdo br A' m' c' :: tb) env a := by
 refine h.table fun i hi => ?_
 cases i with
 | zero => exact ⟨by simp, rfl, rfl⟩
 | succ i => exact ⟨by simpa using hi, rfl, rfl⟩
structure RS (w0 : World) (M F : Nat → Nat → Prop) (n br : Nat) (tb : Tb) (env : Env) (P : FactW) (s : Bs) (a : Act) (w : World) : Prop where
 mv : MvF P
 ex : ∃ A m c, WOk w0 M w (rdo br A m c :: tb) [] ∧ RdS w (Imm F w0 w (rdo br none 0 0 :: tb) []) A m c s
 env_ : EnvOk n (rdo br none 0 0 :: tb) env a
 fact : P w (Imm F w0 w (rdo br none 0 0 :: tb) [])
section
variable {Pr : Program} {ops opsA opsB opsC : Array Oper} {Q : Exit → Act → World → Prop} {w0 : World} {M F : Nat → Nat → Prop} {n br : Nat} {tb : Tb} {env : Env} {P : FactW} {s : Bs} {a : Act} {w : World}
theorem RS.mk' {A : Option Addr} {m c : Nat} (hW : WOk w0 M w (rdo br A m c :: tb) []) (hr : RdS w (Imm F w0 w (rdo br A m c :: tb) []) A m c s) (hE : EnvOk n (rdo br A m c :: tb) env a) (mv : MvF P) (hP : P w (Imm F w0 w (rdo br A m c :: tb) [])) : RS w0 M F n br tb env P s a w :=
 ⟨mv, ⟨A, m, c, hW, hr.move (Step.refl w Nil) nilM fun b o h _ => imm_rdo h⟩, hE.rdo, mv.mono (fun b o h _ => imm_rdo h) hP⟩
theorem RS.open_ (h : RS w0 M F n br tb env P s a w) : ∃ A m c, WOk w0 M w (rdo br A m c :: tb) [] ∧ RdS w (Imm F w0 w (rdo br A m c :: tb) []) A m c s ∧ EnvOk n (rdo br A m c :: tb) env a ∧ P w (Imm F w0 w (rdo br A m c :: tb) []) := by
 obtain ⟨A, m, c, hW, hr⟩ := h.ex
 exact ⟨A, m, c, hW, hr.move (Step.refl w Nil) nilM fun b o h _ => imm_rdo h, h.env_.rdo, h.mv.mono (fun b o h _ => imm_rdo h) h.fact⟩
theorem RS.cast {t : Bs} (h : RS w0 M F n br tb env P s a w) (e : s = t) : RS w0 M F n br tb env P t a w := e ▸ h
theorem rs_rn {L : List Nat} (idxs rest : List Nat) (env' : Env) (h : RS w0 M F n br tb env P s a w) (k : ∀ a', RS w0 M F n br tb env' P s a' w → wpOps Pr ops Q rest a' w) (e : ∀ A m c, runsP Pr ops n (rdo br A m c :: tb) idxs (keysOf env') env = some env' := by intro _ _ _; kernel_rfl) (hl : L = idxs ++ rest := by rfl) : wpOps Pr ops Q L a w := by
 obtain ⟨A, m, c, hW, hr, hE, hP⟩ := h.open_
 exact go_runs idxs rest (keysOf env') hW hE (e A m c) hl fun a' hE' => k a' (RS.mk' hW hr hE' h.mv hP)
theorem rs_sr {id : Nat} (env' : Env) (h : RS w0 M F n br tb env P s a w) (k : ∀ a', RS w0 M F n br tb env' P s a' w → Q .normal a' w) (e : ∀ A m c, runsP Pr ops n (rdo br A m c :: tb) (List.range ops.size) (keysOf env') env = some env' := by intro _ _ _; kernel_rfl) : (Code.region id ops false).wp Pr Q a w :=
 go_region (List.range ops.size) rfl (rs_rn (List.range ops.size) [] env' h (fun a' h' => wpOps_nil (k a' h')) e (List.append_nil _).symm)
def RPrim0 (Pr : Program) (f : FuncId) (X rest : Bs) (v0 : Value) : Prop :=
 ∀ {br : Nat} {A : Option Addr} {m c : Nat} {w : World} {F : Nat → Nat → Prop}, Str w br [.slice A m c, .bool false] → RdS w F A m c (X ++ rest) → (∀ b o, F b o → ¬ RdM br b o) →
  Calls Pr f #[.pointer (some ⟨br, 0, none⟩)] w (RdPost w br (Fp F w) rest fun v w' => v = v0)
theorem RdPost.q {w : World} {br : Nat} {F : Nat → Nat → Prop} {rest : Bs} {Q Q' : Value → World → Prop} {e : Ending} {w' : World} (hq : ∀ v w', Q v w' → Q' v w') (h : RdPost w br F rest Q e w') : RdPost w br F rest Q' e w' := by
 obtain ⟨v, A', n', c', h1, h2, h3, h4, h5⟩ := h
 exact ⟨v, A', n', c', h1, h2, h3, h4, hq _ _ h5⟩
theorem rs_call0 {i d : Nat} {f : FuncId} {X rest : Bs} {v0 : Value} {N : Act → World → Prop} (h : RS w0 M F n br tb env P (X ++ rest) a w) (hc : RPrim0 Pr f X rest v0)
  (hf : ∀ args w, (callFunc f args).run Pr w = .ok (.enter f args) w) (K : ∀ a' w', RS w0 M F n br tb ((d, .v v0) :: env) P rest a' w' → N a' w')
  (he : ∀ A m c, callE (rdo br A m c :: tb) env ops n i = some (f, [.pointer (some ⟨br, 0, none⟩)], d) := by intro _ _ _; kernel_rfl) : wpOp Pr ops Q i N a w := by
 obtain ⟨A, m, c, hW, hr, hE, hP⟩ := h.open_
 refine wpOp_call hE (he A m c) hf (hc (Str.of hW 0 rfl) hr (imm_rd 0 rfl)) ?_
 rintro e_ w1 ⟨_, A1, n1, c1, rfl, hs, hr1, hst, rfl⟩
 refine ⟨_, rfl, fun a1 hE1 => ?_⟩
 obtain ⟨hW2, hF2, hL⟩ := hW.wrote 0 (rdo br A1 n1 c1 :: tb) rfl hst hs
 exact K a1 w1 (RS.mk' hW2 (hr1.move (Step.refl _ Nil) nilM hL) hE1.rdo h.mv (h.mv.move hF2.step immM hF2.to' hP))
theorem rs_complete {i d : Nat} {f : FuncId} {v0 : Value} {N : Act → World → Prop} (h : RS w0 M F n br tb env P s a w) (hc : ∀ {br : Nat} {A : Option Addr} {m c : Nat} {w : World}, Str w br [.slice A m c, .bool false] → Calls Pr f #[.pointer (some ⟨br, 0, none⟩)] w (fun e w' => e = .returned v0 ∧ w' = w))
  (hf : ∀ args w, (callFunc f args).run Pr w = .ok (.enter f args) w) (K : ∀ a', RS w0 M F n br tb ((d, .v v0) :: env) P s a' w → N a' w)
  (he : ∀ A m c, callE (rdo br A m c :: tb) env ops n i = some (f, [.pointer (some ⟨br, 0, none⟩)], d) := by intro _ _ _; kernel_rfl) : wpOp Pr ops Q i N a w := by
 obtain ⟨A, m, c, hW, hr, hE, hP⟩ := h.open_
 refine wpOp_call hE (he A m c) hf (hc (Str.of hW 0 rfl)) ?_
 rintro e_ _ ⟨rfl, rfl⟩
 exact ⟨_, rfl, fun a1 hE1 => K a1 (RS.mk' hW hr hE1 h.mv hP)⟩
theorem range_cons {k : Nat} (h : Nat.blt 0 k = true) : List.range k = [0] ++ (List.range k).drop 1 := by
 cases k with
 | zero => cases h
 | succ k => rw [List.range_succ_eq_map]; rfl
theorem rs_ca0 {id d : Nat} {f : FuncId} {X rest : Bs} {v0 : Value} (env' : Env) (h : RS w0 M F n br tb env P (X ++ rest) a w) (hc : RPrim0 Pr f X rest v0)
  (hf : ∀ args w, (callFunc f args).run Pr w = .ok (.enter f args) w) (K : ∀ a' w', RS w0 M F n br tb env' P rest a' w' → Q .normal a' w')
  (he : ∀ A m c, callE (rdo br A m c :: tb) env ops n 0 = some (f, [.pointer (some ⟨br, 0, none⟩)], d) := by intro _ _ _; kernel_rfl)
  (e : ∀ A m c, runsP Pr ops n (rdo br A m c :: tb) ((List.range ops.size).drop 1) (keysOf env') ((d, .v v0) :: env) = some env' := by intro _ _ _; kernel_rfl) (hs : Nat.blt 0 ops.size = true := by kernel_rfl) : (Code.region id ops false).wp Pr Q a w := by
 refine go_region _ (range_cons hs) (of_op (rs_call0 h hc hf (fun a' w' hS => ?_) he))
 exact rs_rn ((List.range ops.size).drop 1) [] env' hS (fun a2 h2 => wpOps_nil (K a2 w' h2)) e (List.append_nil _).symm
def stoE (P : Program) (ops : Array Oper) (n : Nat) (tb : Tb) (env : Env) (keys : List Nat) : Option (Nat × List Value × Env) :=
 match runs P ops n tb (List.range (ops.size - 1)) env with
 | some e => match storeE P tb e ops (ops.size - 1), pick e keys with
  | some (i, cs), some e' => some (i, cs, e')
  | _, _ => none
 | none => none
theorem rs_sto {id : Nat} (tb' : Tb) (j : Nat) (env' : Env) (h : RS w0 M F n br tb env P s a w) (K : ∀ a' w', RS w0 M F n br tb' env' P s a' w' → Q .normal a' w')
  (he : ∀ A m c, stoE Pr ops n (rdo br A m c :: tb) env (keysOf env') = some (j + 1, (obAt tb' j).cells, env') := by intro _ _ _; kernel_rfl) (ht : Tb.put tb j (obAt tb' j).cells = tb' := by rfl) (hs : Nat.blt 0 ops.size = true := by kernel_rfl) : (Code.region id ops false).wp Pr Q a w := by
 obtain ⟨A, m, c, hW, hr, hE, hP⟩ := h.open_
 have h1 := he A m c
 unfold stoE at h1
 split at h1
 ·rename_i e he'
  split at h1
  ·rename_i i cs e' g1 g2
   simp only [Option.some.injEq, Prod.mk.injEq] at h1
   obtain ⟨rfl, rfl, rfl⟩ := h1
   have hr0 : List.range ops.size = List.range (ops.size - 1) ++ [ops.size - 1] := by
    have : 0 < ops.size := by simpa [Nat.blt_eq] using hs
    rw [← List.range_succ]; congr 1; omega
   refine go_region _ hr0 (wpOps_runs hW.cells hE he' fun a1 hE1 => of_op (wpOp_store hW hE1 g1 fun w1 hF1 hW1 hE2 => wpOps_nil (K a1 w1 ?_)))
   have e : Tb.put (rdo br A m c :: tb) (j + 1) (obAt tb' j).cells = rdo br A m c :: tb' := by
    show rdo br A m c :: Tb.put tb j (obAt tb' j).cells = _
    rw [ht]
   rw [e] at hF1 hW1 hE2
   exact RS.mk' hW1 (hr.move hF1.step immM hF1.to') (hE2.pick g2) h.mv (h.mv.move hF1.step immM hF1.to' hP)
  ·cases h1
 ·cases h1
end
def swapE : Env → Env
 | [] => []
 | (k, .v x) :: r => (k, .v x) :: swapE r
 | (k, .p i j) :: r => (k, .p (match i with | 0 => 1 | 1 => 0 | i => i) j) :: swapE r
theorem swap_ok {n : Nat} {o1 o2 : Ob} {env : Env} {a : Act} (h : EnvOk n [o1, o2] env a) : EnvOk n [o2, o1] (swapE env) a := by
 have key : ∀ (env : Env) (k : Nat) (x : SV), lk (swapE env) k = some x → ∃ y, lk env k = some y ∧ (y.ok [o1, o2] → x.val [o2, o1] = y.val [o1, o2] ∧ x.ok [o2, o1]) := by
  intro env
  induction env with
  | nil => intro k x hx; cases hx
  | cons e r ih =>
   obtain ⟨k', sv⟩ := e
   intro k x hx
   cases sv with
   | v y =>
    simp only [swapE, lk] at hx ⊢
    split at hx
    ·rename_i hb
     simp only [Option.some.injEq] at hx
     subst hx
     exact ⟨_, rfl, fun _ => ⟨rfl, trivial⟩⟩
    ·exact ih k x hx
   | p i j =>
    simp only [swapE, lk] at hx ⊢
    split at hx
    ·rename_i hb
     simp only [Option.some.injEq] at hx
     subst hx
     refine ⟨_, rfl, fun hok => ?_⟩
     have hok' : i < 2 := hok
     match i, hok' with
     | 0, _ => exact ⟨rfl, show 1 < 2 by omega⟩
     | 1, _ => exact ⟨rfl, show 0 < 2 by omega⟩
    ·exact ih k x hx
 refine ⟨h.defers, h.size, fun k x hx => ?_⟩
 obtain ⟨y, hy, hv⟩ := key env k x hx
 obtain ⟨h1, h2⟩ := h.at_ k y hy
 obtain ⟨h3, h4⟩ := hv h2
 exact ⟨by rw [h3]; exact h1, h4⟩
theorem swap_get {α : Type} {x y o : α} {i : Nat} (h : [y, x][i]? = some o) : [x, y][1 - i]? = some o ∧ i < 2 := by
 match i, h with
 | 0, h => exact ⟨h, by omega⟩
 | 1, h => exact ⟨h, by omega⟩
 | i + 2, h => simp at h
theorem WOk.swap2 {w0 w : World} {M : Nat → Nat → Prop} {o1 o2 : Ob} (h : WOk w0 M w [o1, o2] []) : WOk w0 M w [o2, o1] [] :=
 ⟨h.step, fun i o hi => h.cells _ o (swap_get hi).1, fun i o hi => h.live _ o (swap_get hi).1, fun i o hi => h.rw_ _ o (swap_get hi).1, fun i j o o' hij hi hj hw => h.apart _ _ o o' (by have := (swap_get hi).2; have := (swap_get hj).2; omega) (swap_get hi).1 (swap_get hj).1 hw, h.own, h.ownM, fun i r hi => by simp at hi, h.rr⟩
theorem act_swap {o1 o2 : Ob} {b o : Nat} (h : Act_ [o2, o1] [] b o) : Act_ [o1, o2] [] b o := by
 rcases h with ⟨i, ob, hi, h1⟩ | ⟨i, r, hi, _⟩
 ·exact .inl ⟨_, ob, (swap_get hi).1, h1⟩
 ·simp at hi
theorem RS.start {w0 w : World} {M F : Nat → Nat → Prop} {n br c : Nat} {A : Option Addr} {o1 : Ob} {env : Env} {s : Bs} {a : Act} (hW : WOk w0 M w [o1, rdo br A s.length c] []) (hE : EnvOk n [o1, rdo br A s.length c] env a) (ho : Octs w (Imm F w0 w [o1, rdo br A s.length c] []) A c s) (env' : Env) (he : pick (swapE env) (keysOf env') = some env' := by kernel_rfl) : RS w0 M F n br [o1] env' noF s a w :=
 RS.mk' hW.swap2 ⟨rfl, ho.move (Step.refl w Nil) nilM fun b o h _ => ⟨h.1, h.2.1, fun ha => h.2.2 (act_swap ha)⟩⟩ ((swap_ok hE).pick he) MvF.no trivial
end Go.Proofs.YtnhgfbgdoelfoaaDoor.ME
namespace Go.Proofs.YtnhgfbgdoelfoaaDoor.ME
open Go
open Go.RowKit
set_option linter.unusedVariables false
set_option linter.unusedSimpArgs false
set_option maxRecDepth 20000
theorem rBE16 {A : Option Addr} {c : Nat} (s : Bs) {w : World} {F : Nat → Nat → Prop} (ho : Octs w F A c s) (hl : 2 ≤ s.length) :
  Calls Tryd.prog 114 #[.agg #[], .slice A s.length c] w (Gives w (.int .u16 (be16 s))) := by
 refine enter (n := 18) Tryd.func114 rfl Tryd.ntmps114 kz fun a hE => ?_
 have hW := WOk.start w Nil
 have ob0 := oc_lt s 0
 have ob1 := oc_lt s 1
 refine go_seq_region [0, 1] kz ?_
 refine of_op (wpOp_box hW hE (d := 2) (cs := []) kz fun b1 a2 w3 hb4 hz5 hF6 hW7 hE8 => ?_)
 clear hE hW
 refine go_rn [1] [] [(1, .v (.slice A s.length c))] hW7 hE8 fun a9 ac => ?_
 clear hE8
 refine wpOps_nil (then_normal ?_)
 refine go_seq_region [0, 1, 2] kz ?_
 refine go_rn [0] [1, 2] [(1, .v (.slice A s.length c)), (5, .v (.slice A s.length c))] hW7 ac fun aC ae => ?_
 clear ac
 obtain ⟨av, aw, af, ax, ab⟩ := Slots.get ho (i := 1) (by omega)
 refine of_op (wpOp_index ae (t := 22) (A := A) (m := s.length) (q := 1) (d := 6) kz (e := 5) (size := 1) (bytes := 1) (j := 1) kz af rfl (by omega) fun aD ag => ?_)
 clear ae
 refine of_op (wpOp_load ag (t := 5) (b := av) (o := aw + 1 * 1) (d := 7) kz (cs := [.int .u8 ((s.getD 1 0).toNat : Int)]) (v := .int .u8 ((s.getD 1 0).toNat : Int)) kz (AtF.move ab hW7.step nilM keepF).at_ fun aE ah => ?_)
 clear ag
 refine wpOps_nil (then_normal ?_)
 refine go_seq_drawQ kz hW7 fun aF ay aa => ?_
 clear hW7
 refine go_rnD [0, 4] [(8, .v (.slice A s.length c)), (12, .v (.slice A s.length c))] 9 (panicFree_then panicFree_body) (fun _ h => h ▸ aa.cells) rfl ah fun aG ai => ?_
 clear ah
 refine takeC_index ai (i := 1) (t := 22) (A := A) (m := s.length) (q := 1) (d := 9) kz (e := 5) (size := 1) (bytes := 1) (j := 1) kz af rfl (by omega) kz kz (panicFree_then panicFree_body) rfl fun aH aj => ?_
 clear ai
 refine takeC_load aj (i := 2) (t := 5) (b := av) (o := aw + 1 * 1) (d := 10) kz (cs := [.int .u8 ((s.getD 1 0).toNat : Int)]) (v := .int .u8 ((s.getD 1 0).toNat : Int)) kz (fun w' h' => h' ▸ (AtF.move ab aa.step nilM keepF).at_) kz kz (panicFree_then panicFree_body) rfl fun aI ak => ?_
 clear aj
 refine go_rnD [3] [(11, .v (.int .u16 (IntKind.u16.wrap ((s.getD 1 0).toNat : Int)))), (12, .v (.slice A s.length c))] 6 (panicFree_then panicFree_body) (fun _ h => h ▸ aa.cells) rfl ak fun aJ al => ?_
 clear ak
 obtain ⟨az, aA, ar, aB, am⟩ := Slots.get ho (i := 0) (by omega)
 refine takeC_index al (i := 5) (t := 22) (A := A) (m := s.length) (q := 0) (d := 13) kz (e := 5) (size := 1) (bytes := 1) (j := 0) kz ar rfl (by omega) kz kz (panicFree_then panicFree_body) rfl fun aK ao => ?_
 clear al
 refine takeC_load ao (i := 6) (t := 5) (b := az) (o := aA + 0 * 1) (d := 14) kz (cs := [.int .u8 ((s.getD 0 0).toNat : Int)]) (v := .int .u8 ((s.getD 0 0).toNat : Int)) kz (fun w' h' => h' ▸ (AtF.move am aa.step nilM keepF).at_) kz kz (panicFree_then panicFree_body) rfl fun aL ap => ?_
 clear ao
 refine go_rnD [7, 8, 9, 10] [(4, .v (.int .u16 (IntKind.u16.wrap (BitVec.ofInt 16 (IntKind.u16.wrap ((s.getD 1 0).toNat : Int)) ||| BitVec.ofInt 16 (IntKind.u16.wrap ((IntKind.u16.wrap ((s.getD 0 0).toNat : Int)) * 256))).toNat)))] 0 (panicFree_then panicFree_body) (fun _ h => h ▸ aa.cells) rfl ap fun aM au => ?_
 clear ap
 refine anyC_done kz ?_ _
 refine then_normal ?_
 refine wp_ret ?_
 refine leave au aa.cells (v := .int .u16 (IntKind.u16.wrap (BitVec.ofInt 16 (IntKind.u16.wrap ((s.getD 1 0).toNat : Int)) ||| BitVec.ofInt 16 (IntKind.u16.wrap ((IntKind.u16.wrap ((s.getD 0 0).toNat : Int)) * 256))).toNat)) kz ?_
 exact ⟨congrArg Ending.returned (congrArg (Value.int IntKind.u16) (u16_le (oc s 0) (oc s 1) ob0 ob1)), aa.step⟩
theorem rInt16 (x : Int) (rest : Bs)  {br : Nat} {A : Option Addr} {m c : Nat} {w : World} {F : Nat → Nat → Prop} (hst : Str w br [.slice A m c, .bool false]) (hr : RdS w F A m c (be 2 x ++ rest)) (hFd : ∀ b o, F b o → ¬ RdM br b o) :
  Calls Tryd.prog 94 #[.pointer (some ⟨br, 0, none⟩)] w (RdPost w br F rest fun v w' => v = .int .i16 (IntKind.i16.wrap x)) := by
 obtain ⟨hm, ho⟩ := hr
 subst hm
 have hle := ho.le
 refine enter (n := 32) Tryd.func94 rfl Tryd.ntmps94 kz fun a hE => ?_
 have hW : WOk w (RdM br) w [⟨br, 0, [.slice A ((be 2 x ++ rest).length) c, .bool false], true⟩] [] := WOk.startStr hst
 have hE1 := (hE.grow ⟨br, 0, [.slice A ((be 2 x ++ rest).length) c, .bool false], true⟩).recast 0 (.v (.pointer (some ⟨br, 0, none⟩))) (.p 0 0) rfl rfl (Nat.le_of_ble_eq_true (n := 1) rfl)
 refine go_sp [(0, .p 0 0)] hW hE1 fun a1 hE2 => ?_
 clear hE1
 refine wp_seq ?_
 refine go_sp [(0, .p 0 0), (9, .v (.bool (decide ((((be 2 x ++ rest).length : Nat) : Int) < 2))))] hW hE2 fun a3 hE4 => ?_
 clear hE2
 refine cond_false hE4 (b := decide ((((be 2 x ++ rest).length : Nat) : Int) < 2)) kz (decide_eq_false (by first | omega | (simp only [List.length_append, be_length, List.length_cons, List.length_nil] at *; omega))) ?_
 refine wp_skip ?_
 refine then_normal ?_
 refine go_seq_drawK 7 kz hW fun w5 hF6 hW7 hT8 => ?_
 clear hW
 refine go_rnD [1, 2, 3, 4] [(0, .p 0 0), (20, .v (.slice A ((be 2 x ++ rest).length) c))] 4 (panicFree_then panicFree_body) (fun _ h => h.cells) hT8 hE4 fun a9 ac => ?_
 clear hE4
 refine takeC_load ac (i := 0) (t := 140) (b := 0) (o := 0) (d := 16) kz (cs := []) (v := .agg #[]) kz (fun w' h' => (fun j_ v_ h_ => by simp at h_)) kz kz (panicFree_then panicFree_body) hT8 fun av ae => ?_
 clear ac
 refine anyC_op (i := 5) kz (wpOp_call ae (f := 114) (vs := [.agg #[], .slice A ((be 2 x ++ rest).length) c]) (d := 21) kz Tryd.call114 (rBE16 _ (ho.move hW7.step (fun b_ o_ h_ _ => hFd b_ o_ h_) (hW7.immM hFd)) (by first | omega | (simp only [List.length_append, be_length, List.length_cons, List.length_nil] at *; omega))) ?_)
 rintro e_ aw ⟨rfl, af⟩
 refine ⟨_, rfl, fun ax ag => ?_⟩
 have aa := hW7.next_nil af
 have ap := hW7.frN af
 clear ae
 have ah := TT.ofW ap aa
 refine ⟨fun _ => ah, ?_⟩
 refine go_rnD [6] [(0, .p 0 0), (22, .v (.int .i16 (IntKind.i16.wrap (be16 (be 2 x ++ rest)))))] 1 (panicFree_then panicFree_body) (fun _ h => h.cells) ah ag fun ay ai => ?_
 clear ag
 refine anyC_op (i := 7) kz (wpOp_pure [0, 3] aa.cells ai (env' := [(0, .p 0 0), (3, .v (.int .i16 (IntKind.i16.wrap (be16 (be 2 x ++ rest)))))]) kz fun az aj => ?_)
 clear ai
 refine ⟨fun h => absurd rfl h, ?_⟩
 refine anyC_done kz ?_ _
 refine then_normal ?_
 refine go_seq_region [0, 1, 2, 3, 4, 5, 6, 7, 8] kz ?_
 refine go_rn [0, 1, 2, 3, 4] [5, 6, 7, 8] [(3, .v (.int .i16 (IntKind.i16.wrap (be16 (be 2 x ++ rest))))), (23, .p 0 0), (27, .v (.slice A ((be 2 x ++ rest).length) c))] aa aj fun aA ak => ?_
 clear aj
 refine of_op (wpOp_cut_lo ak (t := 22) (A := A) (m := ((be 2 x ++ rest).length)) (cp := c) (q := 2) (d := 28) (j := 2) kz (e := 5) (bytes := 1) kz (rfl) (by first | omega | (simp only [List.length_append, be_length, List.length_cons, List.length_nil] at *; omega)) fun aB al => ?_)
 clear ak
 refine go_rn [6, 7] [8] [(3, .v (.int .i16 (IntKind.i16.wrap (be16 (be 2 x ++ rest))))), (28, .v (.slice (cutA A c 2) (((be 2 x ++ rest).length) - 2) (c - 2))), (30, .p 0 0)] aa al fun aC am => ?_
 clear al
 refine of_op (wpOp_store aa am (oi := 0) (cs := [.slice (cutA A c 2) (((be 2 x ++ rest).length) - 2) (c - 2), .bool false]) kz fun aD au ab ao => ?_)
 clear am aa
 refine wpOps_nil (then_normal ?_)
 refine go_sp [(2, .v (.int .i16 (IntKind.i16.wrap (be16 (be 2 x ++ rest)))))] ab ao fun aE ar => ?_
 clear ao
 refine wp_ret ?_
 refine leave ar ab.cells (v := .int .i16 (IntKind.i16.wrap (be16 (be 2 x ++ rest)))) kz ?_
 exact ⟨_, _, _, _, rfl, Str.of ab 0 rfl, RdS.drop (s := be 2 x) ⟨rfl, ho.move ab.step (fun b_ o_ h_ _ => hFd b_ o_ h_) keepF⟩ (by simp only [be_length, List.length_cons, List.length_nil]), ab.step, by rw [be16_be, i16_u16]⟩
theorem rSpan (X : Bs) (rest : Bs)  {br : Nat} {A : Option Addr} {m c : Nat} {w : World} {F : Nat → Nat → Prop} (hst : Str w br [.slice A m c, .bool false]) (hr : RdS w F A m c (X ++ rest)) (hFd : ∀ b o, F b o → ¬ RdM br b o) :
  Calls Tryd.prog 117 #[.pointer (some ⟨br, 0, none⟩), .int .i64 ((X.length : Nat) : Int)] w (RdPost w br F rest fun v w' => ∃ A2, v = .slice A2 X.length X.length ∧ Octs w' F A2 X.length X) := by
 obtain ⟨hm, ho⟩ := hr
 subst hm
 have hle := ho.le
 refine enter (n := 40) Tryd.func117 rfl Tryd.ntmps117 kz fun a hE => ?_
 have hW : WOk w (RdM br) w [⟨br, 0, [.slice A ((X ++ rest).length) c, .bool false], true⟩] [] := WOk.startStr hst
 have hE1 := (hE.grow ⟨br, 0, [.slice A ((X ++ rest).length) c, .bool false], true⟩).recast 0 (.v (.pointer (some ⟨br, 0, none⟩))) (.p 0 0) rfl rfl (Nat.le_of_ble_eq_true (n := 1) rfl)
 refine go_sp [(0, .p 0 0), (1, .v (.int .i64 ((X.length : Nat) : Int)))] hW hE1 fun a1 hE2 => ?_
 clear hE1
 refine wp_seq ?_
 refine go_seq_region [0, 1, 2, 3, 4, 5, 6, 7, 8, 9, 10] kz ?_
 refine go_rn [0, 1, 2, 3, 4, 5, 6, 7] [8, 9, 10] [(0, .p 0 0), (1, .v (.int .i64 ((X.length : Nat) : Int))), (13, .v (.bool (decide ((((X ++ rest).length : Nat) : Int) < ((X.length : Nat) : Int)))))] hW hE2 fun a3 hE4 => ?_
 clear hE2
 have hc5 : (decide ((((X ++ rest).length : Nat) : Int) < ((X.length : Nat) : Int))) = false := decide_eq_false (by first | omega | (simp only [List.length_append, be_length, List.length_cons, List.length_nil] at *; omega))
 have hE6 := hE4.cast (env' := [(0, .p 0 0), (1, .v (.int .i64 ((X.length : Nat) : Int))), (13, .v (.bool false))]) (by rw [hc5])
 clear hE4
 refine go_rn [8, 9, 10] [] [(0, .p 0 0), (1, .v (.int .i64 ((X.length : Nat) : Int))), (16, .v (.bool (decide (((X.length : Nat) : Int) < 0))))] hW hE6 fun a7 hE8 => ?_
 clear hE6
 refine wpOps_nil (then_normal ?_)
 refine cond_false hE8 (b := decide (((X.length : Nat) : Int) < 0)) kz (decide_eq_false (by first | omega | (simp only [List.length_append, be_length, List.length_cons, List.length_nil] at *; omega))) ?_
 refine wp_skip ?_
 refine then_normal ?_
 refine go_seq_region [0, 1, 2, 3, 4, 5, 6, 7] kz ?_
 refine go_rn [0, 1, 2, 3, 4, 5] [6, 7] [(0, .p 0 0), (1, .v (.int .i64 ((X.length : Nat) : Int))), (26, .v (.slice A ((X ++ rest).length) c)), (27, .v (.int .i64 ((X.length : Nat) : Int))), (28, .v (.int .i64 ((X.length : Nat) : Int)))] hW hE8 fun a9 ab => ?_
 clear hE8
 refine of_op (wpOp_cutm ab (t := 22) (A := A) (m := ((X ++ rest).length)) (cp := c) (k := .i64) (q := ((X.length : Nat) : Int)) (d := 29) (j := X.length) kz (e := 5) (bytes := 1) kz (rfl) (by first | omega | (simp only [List.length_append, be_length, List.length_cons, List.length_nil] at *; omega)) fun al ac => ?_)
 clear ab
 refine go_rn [7] [] [(0, .p 0 0), (1, .v (.int .i64 ((X.length : Nat) : Int))), (5, .v (.slice A X.length X.length))] hW ac fun am ae => ?_
 clear ac
 refine wpOps_nil (then_normal ?_)
 refine go_seq_region [0, 1, 2, 3, 4, 5, 6, 7, 8, 9] kz ?_
 refine go_rn [0, 1, 2, 3, 4, 5] [6, 7, 8, 9] [(5, .v (.slice A X.length X.length)), (30, .p 0 0), (34, .v (.slice A ((X ++ rest).length) c)), (35, .v (.int .i64 ((X.length : Nat) : Int)))] hW ae fun ao af => ?_
 clear ae
 refine of_op (wpOp_cut_lo af (t := 22) (A := A) (m := ((X ++ rest).length)) (cp := c) (q := ((X.length : Nat) : Int)) (d := 36) (j := X.length) kz (e := 5) (bytes := 1) kz (rfl) (by first | omega | (simp only [List.length_append, be_length, List.length_cons, List.length_nil] at *; omega)) fun ap ag => ?_)
 clear af
 refine go_rn [7, 8] [9] [(5, .v (.slice A X.length X.length)), (36, .v (.slice (cutA A c X.length) (((X ++ rest).length) - X.length) (c - X.length))), (38, .p 0 0)] hW ag fun ar ah => ?_
 clear ag
 refine of_op (wpOp_store hW ah (oi := 0) (cs := [.slice (cutA A c X.length) (((X ++ rest).length) - X.length) (c - X.length), .bool false]) kz fun au ak aa ai => ?_)
 clear ah hW
 refine wpOps_nil (then_normal ?_)
 refine go_sp [(4, .v (.slice A X.length X.length))] aa ai fun av aj => ?_
 clear ai
 refine wp_ret ?_
 refine leave aj aa.cells (v := .slice A X.length X.length) kz ?_
 exact ⟨_, _, _, _, rfl, Str.of aa 0 rfl, RdS.drop (s := X) ⟨rfl, ho.move aa.step (fun b_ o_ h_ _ => hFd b_ o_ h_) keepF⟩ (rfl), aa.step, A, rfl, RdS.front (s := X) ⟨rfl, ho.move aa.step (fun b_ o_ h_ _ => hFd b_ o_ h_) keepF⟩ rfl⟩
theorem rComplete {br : Nat} {A : Option Addr} {m c : Nat} {w : World} (hst : Str w br [.slice A m c, .bool false]) :
  Calls Tryd.prog 96 #[.pointer (some ⟨br, 0, none⟩)] w (fun e w' => e = .returned .nilIface ∧ w' = w) := by
 refine enter (n := 8) Tryd.func96 rfl Tryd.ntmps96 kz fun a hE => ?_
 have hW : WOk w (RdM br) w [⟨br, 0, [.slice A m c, .bool false], true⟩] [] := WOk.startStr hst
 have hE1 := (hE.grow ⟨br, 0, [.slice A m c, .bool false], true⟩).recast 0 (.v (.pointer (some ⟨br, 0, none⟩))) (.p 0 0) rfl rfl (Nat.le_of_ble_eq_true (n := 1) rfl)
 refine go_sp [(0, .p 0 0)] hW hE1 fun a1 hE2 => ?_
 clear hE1
 refine wp_seq ?_
 refine go_sp [(6, .v (.bool false))] hW hE2 fun a3 hE4 => ?_
 clear hE2
 refine cond_false hE4 (b := false) kz rfl ?_
 refine wp_skip ?_
 refine then_normal ?_
 refine go_sp [(2, .v (.nilIface))] hW hE4 fun a5 hE6 => ?_
 clear hE4
 refine wp_ret ?_
 refine leave hE6 hW.cells (v := .nilIface) kz ?_
 exact ⟨rfl, rfl⟩
theorem rString (X : Bs) (hX : X.length ≤ 32767) (rest : Bs)  {br : Nat} {A : Option Addr} {m c : Nat} {w : World} {F : Nat → Nat → Prop} (hst : Str w br [.slice A m c, .bool false]) (hr : RdS w F A m c ((be 2 ((X.length : Nat) : Int)) ++ (X ++ rest))) (hFd : ∀ b o, F b o → ¬ RdM br b o) :
  Calls Tryd.prog 101 #[.pointer (some ⟨br, 0, none⟩)] w (RdPost w br (Fp F w) rest fun v w' => v = .string (bs X)) := by
 refine enter (n := 11) Tryd.func101 rfl Tryd.ntmps101 kz fun a hE => ?_
 have hW : WOk w (RdM br) w [⟨br, 0, [.slice A m c, .bool false], true⟩] [] := WOk.startStr hst
 have hE1 := (hE.grow ⟨br, 0, [.slice A m c, .bool false], true⟩).recast 0 (.v (.pointer (some ⟨br, 0, none⟩))) (.p 0 0) rfl rfl (Nat.le_of_ble_eq_true (n := 1) rfl)
 refine go_sp [(0, .p 0 0)] hW hE1 fun a1 hE2 => ?_
 clear hE1
 refine go_seq_region [0, 1, 2] kz ?_
 refine go_rn [0] [1, 2] [(0, .p 0 0), (4, .p 0 0)] hW hE2 fun a3 hE4 => ?_
 clear hE2
 refine of_op (wpOp_call hE4 (f := 94) (vs := [.pointer (some ⟨br, 0, none⟩)]) (d := 5) kz Tryd.call94 (rInt16 ((X.length : Nat) : Int) (X ++ rest) (Str.of hW 0 rfl) (hr.move hW.step (fun b_ o_ h_ _ => hFd b_ o_ h_) (hW.immM hFd)) (imm_rd 0 rfl)) ?_)
 rintro e_ w5 ⟨_, A6, n7, c8, rfl, hs9, ao, ac, rfl⟩
 obtain ⟨aa, ap, aG⟩ := hW.wrote 0 [⟨br, 0, [.slice A6 n7 c8, .bool false], true⟩] rfl ac hs9
 have ar := ao.move (Step.refl _ Nil) nilM (fun b_ o_ h_ _ => ap.to b_ o_ h_)
 refine ⟨_, rfl, fun aJ au => ?_⟩
 have ae : EnvOk 11 [⟨br, 0, [.slice A6 n7 c8, .bool false], true⟩] [(5, .v (.int .i16 (IntKind.i16.wrap ((X.length : Nat) : Int)))), (0, .p 0 0), (4, .p 0 0)] _ := au.places (⟨rfl, rfl, trivial⟩)
 clear hE4
 refine go_rn [2] [] [(0, .p 0 0), (3, .v (.int .i16 (IntKind.i16.wrap ((X.length : Nat) : Int))))] aa ae fun aK af => ?_
 clear ae
 refine wpOps_nil (then_normal ?_)
 refine go_seq_region [0, 1, 2, 3, 4, 5] kz ?_
 refine go_rn [0, 1, 2] [3, 4, 5] [(6, .p 0 0), (8, .v (.int .i64 (IntKind.i64.wrap (IntKind.i16.wrap ((X.length : Nat) : Int)))))] aa af fun aL ag => ?_
 clear af
 have av : IntKind.i64.wrap (IntKind.i16.wrap ((X.length : Nat) : Int)) = ((X.length : Nat) : Int) := by simp only [i16w, i32w, i64w]; omega
 have ah := EnvOk.pick ag (ks := [6, 8]) (env' := [(6, .p 0 0), (8, .v (.int .i64 (IntKind.i64.wrap (IntKind.i16.wrap ((X.length : Nat) : Int)))))]) kz
 have ai := ah.cast (env' := [(6, .p 0 0), (8, .v (.int .i64 ((X.length : Nat) : Int)))]) (by rw [av])
 clear ag ah
 refine of_op (wpOp_call ai (f := 117) (vs := [.pointer (some ⟨br, 0, none⟩), .int .i64 ((X.length : Nat) : Int)]) (d := 9) kz Tryd.call117 (rSpan X (rest) (Str.of aa 0 rfl) ar (imm_rd 0 rfl)) ?_)
 rintro e_ aM ⟨_, aD, aE, aF, rfl, aw, ax, aj, ⟨aH, rfl, ay⟩⟩
 obtain ⟨ab, ak, aI⟩ := aa.wrote 0 [⟨br, 0, [.slice aD aE aF, .bool false], true⟩] rfl aj aw
 have az := ax.move (Step.refl _ Nil) nilM (fun b_ o_ h_ _ => ak.to b_ o_ h_)
 refine ⟨_, rfl, fun aN aA => ?_⟩
 have al : EnvOk 11 [⟨br, 0, [.slice aD aE aF, .bool false], true⟩] [(9, .v (.slice aH X.length X.length)), (6, .p 0 0), (8, .v (.int .i64 ((X.length : Nat) : Int)))] _ := aA.places (⟨rfl, rfl, trivial⟩)
 clear ai
 have aB := ay.move (Step.refl _ Nil) nilM (fun b_ o_ h_ _ => ak.to b_ o_ h_)
 refine of_op (wpOp_conv al (src := 22) (dst := 9) (e := 5) (d := 10) kz kz kz kz aB fun aO am => ?_)
 clear al
 refine go_rn [5] [] [(2, .v (.string (bs X)))] ab am fun aP aC => ?_
 clear am
 refine wpOps_nil (then_normal ?_)
 refine wp_ret ?_
 refine leave aC ab.cells (v := .string (bs X)) kz ?_
 refine ⟨_, _, _, _, rfl, Str.of ab 0 rfl, (az.move (Step.refl _ Nil) nilM immOut), ab.step, rfl⟩
end Go.Proofs.YtnhgfbgdoelfoaaDoor.ME
namespace Go.Proofs.YtnhgfbgdoelfoaaDoor.ME
open Go
open Go.RowKit
set_option linter.unusedVariables false
set_option linter.unusedSimpArgs false
theorem pString (S : Bs) (hS : S.length ≤ 32767) (rest : Bs) : RPrim0 Tryd.prog 101 (be 2 S.length ++ S) rest (.string (bs S)) := fun hs hr hF => (rString S hS rest hs (hr.cast (by simp only [List.append_assoc])) hF).mono fun e w' hp => hp.q fun v w' h => h
end Go.Proofs.YtnhgfbgdoelfoaaDoor.ME
namespace Go.Proofs.YtnhgfbgdoelfoaaDoor.ME
open Go
set_option linter.unusedVariables false
set_option linter.unusedSimpArgs false
set_option maxRecDepth 20000
theorem lFits3 (k : Int) (A : Option Addr) (m c : Nat) (w : World) : Calls Tryd.prog 63 #[.agg #[.int .u32 k, .slice A m c]] w (GivesB w) := by
 refine enter (n := 7) Tryd.func63 rfl Tryd.ntmps63 kz fun a hE => ?_
 have hW := WOk.start w Nil
 refine go_seq_region [0, 1] kz ?_
 refine of_op (wpOp_box hW hE (d := 1) (cs := [.int .u32 k, .slice A m c]) kz fun b1 a2 w3 hb4 hz5 hF6 hW7 hE8 => ?_)
 clear hE hW
 refine go_rn [1] [] [(1, .p 0 0)] hW7 hE8 fun a9 ac => ?_
 clear hE8
 refine wpOps_nil (then_normal ?_)
 refine wp_seq ?_
 refine go_sp [(6, .v (.bool (decide (((m : Nat) : Int) > 2147483647))))] hW7 ac fun ai aa => ?_
 clear ac
 refine cond_of aa (b := decide (((m : Nat) : Int) > 2147483647)) kz (fun ab => ?_) (fun ab => ?_)
 ·
  have ag := of_decide_eq_true ab
  refine go_sp [(2, .v (.bool false))] hW7 aa fun aj ae => ?_
  clear aa
  refine wp_ret ?_
  refine then_ret ?_
  refine leave ae hW7.cells (v := .bool false) kz ?_
  exact ⟨_, rfl, hW7.step⟩
 ·
  have ah := of_decide_eq_false ab
  refine wp_skip ?_
  refine then_normal ?_
  refine go_sp [(2, .v (.bool true))] hW7 aa fun ak af => ?_
  clear aa
  refine wp_ret ?_
  refine leave af hW7.cells (v := .bool true) kz ?_
  exact ⟨_, rfl, hW7.step⟩
theorem lFits2 (A : Option Addr) (c : Nat) (u : List (Int × Bs)) (w : World) (F : Nat → Nat → Prop) (hu : TagsR w F A c u) : Calls Tryd.prog 30 #[.slice A u.length c] w (GivesB w) := by
 obtain ⟨xu, h1, h2⟩ := hu.ex
 have hsm := h1.small
 refine enter (n := 18) Tryd.func30 rfl Tryd.ntmps30 kz fun a hE => ?_
 have hW := WOk.start w Nil
 refine go_sp [(0, .v (.slice A u.length c))] hW hE fun a1 hE2 => ?_
 clear hE
 refine wp_seq ?_
 refine go_sp [(0, .v (.slice A u.length c)), (7, .v (.bool (decide (((u.length : Nat) : Int) > 2147483647))))] hW hE2 fun a3 hE4 => ?_
 clear hE2
 refine cond_of hE4 (b := decide (((u.length : Nat) : Int) > 2147483647)) kz (fun hc5 => ?_) (fun hc5 => ?_)
 ·
  have hf6 := of_decide_eq_true hc5
  refine go_sp [(2, .v (.bool false))] hW hE4 fun a7 hE8 => ?_
  clear hE4
  refine wp_ret ?_
  refine then_ret ?_
  refine leave hE8 hW.cells (v := .bool false) kz ?_
  exact ⟨_, rfl, hW.step⟩
 ·
  have hf9 := of_decide_eq_false hc5
  refine wp_skip ?_
  refine then_normal ?_
  refine wp_seq ?_
  refine go_sp [(8, .v (.slice A u.length c)), (9, .v (.int .i64 ((u.length : Nat) : Int))), (10, .v (.int .i64 0))] hW hE4 fun ba ak => ?_
  clear hE4
  refine wp_block ?_
  refine wp_loop_ghost (fun n_ a_ w_ => ∃ (k : Nat), n_ = u.length - k ∧ k ≤ u.length ∧ LInv hW 18 [] [] [(8, .v (.slice A u.length c)), (9, .v (.int .i64 ((u.length : Nat) : Int))), (10, .v (.int .i64 ((k : Nat) : Int)))] a_ w_) (u.length) ⟨0, by omega, by omega, ak.pk, hW, Fr.refl _ _ _⟩ ?_
  clear ak
  rintro bd bf bg ⟨k, aQ, aR, al, aa, aC⟩
  refine go_sp [(8, .v (.slice A u.length c)), (9, .v (.int .i64 ((u.length : Nat) : Int))), (10, .v (.int .i64 ((k : Nat) : Int))), (11, .v (.bool (decide (((k : Nat) : Int) < ((u.length : Nat) : Int)))))] aa al fun bh ac => ?_
  clear al
  refine wp_seq ?_
  refine cond_of ac (b := decide (((k : Nat) : Int) < ((u.length : Nat) : Int))) kz (fun ah => ?_) (fun ah => ?_)
  ·
   have aS := of_decide_eq_true ah
   refine wp_skip ?_
   refine then_normal ?_
   refine wp_seq ?_
   refine wp_block ?_
   refine go_seq_region [0, 1, 2, 3] kz ?_
   obtain ⟨aT, aU, aD, aV, ag⟩ := Slots.get h1 (i := k) (by omega)
   obtain ⟨⟨ai, aj⟩, aE⟩ : ∃ x, u[k]? = some x := ⟨_, List.getElem?_eq_getElem (by omega)⟩
   obtain ⟨⟨am, ao, ap, aW⟩, bi, bj⟩ := h2 k ai aj aE
   rw [ap] at ag
   refine of_op (wpOp_index ac (t := 24) (A := A) (m := u.length) (q := ((k : Nat) : Int)) (d := 12) kz (e := 73) (size := 2) (bytes := 32) kz aD rfl (by omega) fun bk ar => ?_)
   clear ac
   refine of_op (wpOp_load ar (t := 73) (b := aT) (o := aU + k * 2) (d := 13) kz (cs := [.int .u32 ai, .slice am aj.length ao]) (v := .agg #[.int .u32 ai, .slice am aj.length ao]) kz (AtF.move ag aa.step nilM keepF).at_ fun bn au => ?_)
   clear ar
   refine of_op (wpOp_alloc aa au (d := 4) (cs := [.int .u32 0, .slice none 0 0]) kz fun bo bp bq aX aY aF av aw => ?_)
   clear au aa
   refine of_op (wpOp_store av aw (oi := 0) (cs := [.int .u32 ai, .slice am aj.length ao]) kz fun bt aG af ax => ?_)
   clear aw av
   refine wpOps_nil (then_normal ?_)
   refine go_seq_region [0, 1, 2] kz ?_
   refine go_rn [0] [1, 2] [(8, .v (.slice A u.length c)), (9, .v (.int .i64 ((u.length : Nat) : Int))), (10, .v (.int .i64 ((k : Nat) : Int))), (14, .v (.agg #[.int .u32 ai, .slice am aj.length ao]))] af ax fun bu ay => ?_
   clear ax
   refine of_op (wpOp_call ay (f := 63) (vs := [.agg #[.int .u32 ai, .slice am aj.length ao]]) (d := 15) kz Tryd.call63 (lFits3 _ _ _ _ _) ?_)
   rintro e_ bw ⟨aP, rfl, az⟩
   refine ⟨_, rfl, fun bx aA => ?_⟩
   have ab := af.next_nil az
   have aH := af.frN az
   clear ay af
   refine go_rn [2] [] [(8, .v (.slice A u.length c)), (9, .v (.int .i64 ((u.length : Nat) : Int))), (10, .v (.int .i64 ((k : Nat) : Int))), (16, .v (.bool (!aP)))] ab aA fun bz ae => ?_
   clear aA
   refine wpOps_nil (then_normal ?_)
   refine cond_of ae (b := !aP) kz (fun aI => ?_) (fun aI => ?_)
   ·
    refine go_sp [(2, .v (.bool false))] ab ae fun bA aJ => ?_
    clear ae
    refine wp_ret ?_
    refine block_ret ?_
    refine then_ret ?_
    refine then_ret ?_
    refine block_ret ?_
    refine then_ret ?_
    refine leave aJ ab.cells (v := .bool false) kz ?_
    exact ⟨_, rfl, ab.step⟩
   ·
    refine wp_skip ?_
    refine block_normal ?_
    refine then_normal ?_
    refine go_region [0, 1] kz ?_
    refine go_rn [0, 1] [] [(8, .v (.slice A u.length c)), (9, .v (.int .i64 ((u.length : Nat) : Int))), (10, .v (.int .i64 (IntKind.i64.wrap (((k : Nat) : Int) + 1))))] ab ae fun bB aK => ?_
    clear ae
    refine wpOps_nil (then_normal ?_)
    obtain ⟨aB, aL, aM⟩ := ab.cutB aK 0 [] [(8, .v (.slice A u.length c)), (9, .v (.int .i64 ((u.length : Nat) : Int))), (10, .v (.int .i64 (IntKind.i64.wrap (((k : Nat) : Int) + 1))))]
    have aN : IntKind.i64.wrap (((k : Nat) : Int) + 1) = ((k + 1 : Nat) : Int) := wrap_succ (by omega)
    rw [aN] at aB
    exact ⟨u.length - (k + 1), by omega, k + 1, rfl, by omega, aB.pk, aL, ((((aC.trans aF).trans aG).trans aH).trans aM)⟩
  ·
   have aZ := of_decide_eq_false ah
   refine wp_exit ?_
   refine then_exit ?_
   refine then_exit ?_
   refine block_exit ?_
   refine then_normal ?_
   refine go_sp [(2, .v (.bool true))] aa ac fun bC aO => ?_
   clear ac
   refine wp_ret ?_
   refine leave aO aa.cells (v := .bool true) kz ?_
   exact ⟨_, rfl, aa.step⟩
theorem lFits1 (ct : List Value) (t : Tree) (w : World) (F : Nat → Nat → Prop) (ht : TreeR w F ct t) : Calls Tryd.prog 8 #[.agg ct.toArray] w (GivesB w) := by
 obtain ⟨n1, s2, b3, l4, u5, A6, c7, A8, c9, ao, ap, aB, rfl, rfl, aC, aD, aN, aE⟩ := ht.open_
 have ay := aC.small
 have az := aD.small
 refine enter (n := 15) Tryd.func8 rfl Tryd.ntmps8 kz fun a hE => ?_
 have hW := WOk.start w Nil
 refine go_seq_region [0, 1] kz ?_
 refine of_op (wpOp_box hW hE (d := 1) (cs := [.int .i64 n1, .slice A6 s2.length c7, .bool b3, .slice A8 l4.length c9, .slice ao u5.length ap]) kz fun aO aP aQ aF aG aH aa ai => ?_)
 clear hE hW
 refine go_rn [1] [] [(1, .p 0 0)] aa ai fun aR aj => ?_
 clear ai
 refine wpOps_nil (then_normal ?_)
 refine wp_seq ?_
 refine go_sp [(1, .p 0 0), (6, .v (.bool (decide (((s2.length : Nat) : Int) > 2147483647))))] aa aj fun aS ac => ?_
 clear aj
 refine cond_of ac (b := decide (((s2.length : Nat) : Int) > 2147483647)) kz (fun ag => ?_) (fun ag => ?_)
 ·
  have aI := of_decide_eq_true ag
  refine go_sp [(2, .v (.bool false))] aa ac fun aT ar => ?_
  clear ac
  refine wp_ret ?_
  refine then_ret ?_
  refine leave ar aa.cells (v := .bool false) kz ?_
  exact ⟨_, rfl, aa.step⟩
 ·
  have aJ := of_decide_eq_false ag
  refine wp_skip ?_
  refine then_normal ?_
  refine wp_seq ?_
  refine go_sp [(1, .p 0 0), (10, .v (.bool (decide (((l4.length : Nat) : Int) > 2147483647))))] aa ac fun aU ae => ?_
  clear ac
  refine cond_of ae (b := decide (((l4.length : Nat) : Int) > 2147483647)) kz (fun ah => ?_) (fun ah => ?_)
  ·
   have aK := of_decide_eq_true ah
   refine go_sp [(2, .v (.bool false))] aa ae fun aV au => ?_
   clear ae
   refine wp_ret ?_
   refine then_ret ?_
   refine leave au aa.cells (v := .bool false) kz ?_
   exact ⟨_, rfl, aa.step⟩
  ·
   have aL := of_decide_eq_false ah
   refine wp_skip ?_
   refine then_normal ?_
   refine wp_seq ?_
   refine go_seq_region [0, 1, 2, 3] kz ?_
   refine go_rn [0, 1] [2, 3] [(12, .v (.slice ao u5.length ap))] aa ae fun aW ak => ?_
   clear ae
   refine of_op (wpOp_call ak (f := 30) (vs := [.slice ao u5.length ap]) (d := 13) kz Tryd.call30 (lFits2 _ _ u5 _ _ (aE.move aa.step nilM aa.imm)) ?_)
   rintro e_ aX ⟨aA, rfl, al⟩
   refine ⟨_, rfl, fun aY am => ?_⟩
   have ab := aa.next_nil al
   have aM := aa.frN al
   clear ak aa
   refine go_rn [3] [] [(14, .v (.bool (!aA)))] ab am fun aZ af => ?_
   clear am
   refine wpOps_nil (then_normal ?_)
   refine cond_of af (b := !aA) kz (fun av => ?_) (fun av => ?_)
   ·
    refine go_sp [(2, .v (.bool false))] ab af fun ba aw => ?_
    clear af
    refine wp_ret ?_
    refine then_ret ?_
    refine leave aw ab.cells (v := .bool false) kz ?_
    exact ⟨_, rfl, ab.step⟩
   ·
    refine wp_skip ?_
    refine then_normal ?_
    refine go_sp [(2, .v (.bool true))] ab af fun bd ax => ?_
    clear af
    refine wp_ret ?_
    refine leave ax ab.cells (v := .bool true) kz ?_
    exact ⟨_, rfl, ab.step⟩
theorem lVersion (x m : Int) (hx : 0 ≤ x) (hx' : x < 256) (hm : 0 ≤ m) (hm' : m < 32768) (w : World) : Calls Tryd.prog 11 #[.int .u8 x, .int .i64 m] w (Gives w (.int .i64 (Int.tmod x (m + 1)))) := by
 refine enter (n := 10) Tryd.func11 rfl Tryd.ntmps11 kz fun a hE => ?_
 have hW := WOk.start w Nil
 refine go_sp [(0, .v (.int .u8 x)), (1, .v (.int .i64 m))] hW hE fun a1 hE2 => ?_
 clear hE
 refine go_seq_region [0, 1, 2, 3, 4, 5] kz ?_
 refine go_rn [0, 1, 2, 3] [4, 5] [(6, .v (.int .i64 (IntKind.i64.wrap x))), (8, .v (.int .i64 (IntKind.i64.wrap (m + 1))))] hW hE2 fun a3 hE4 => ?_
 clear hE2
 refine of_op (wpOp_rem hE4 (k := .i64) (p := (IntKind.i64.wrap x)) (q := (IntKind.i64.wrap (m + 1))) (d := 9) kz (by simp only [IntKind.wrap_i64]; omega) fun a5 hE6 => ?_)
 clear hE4
 refine go_rn [5] [] [(4, .v (.int .i64 (Int.tmod (IntKind.i64.wrap x) (IntKind.i64.wrap (m + 1)))))] hW hE6 fun a7 hE8 => ?_
 clear hE6
 refine wpOps_nil (then_normal ?_)
 refine wp_ret ?_
 refine leave hE8 hW.cells (v := .int .i64 (Int.tmod (IntKind.i64.wrap x) (IntKind.i64.wrap (m + 1)))) kz ?_
 exact ⟨by rw [wrap_i64 (by omega) (by omega), wrap_i64 (by omega) (by omega)], hW.step⟩
end Go.Proofs.YtnhgfbgdoelfoaaDoor.ME
namespace Go.Proofs.YtnhgfbgdoelfoaaDoor.ME
open Go
open Go.RowKit
set_option linter.unusedVariables false
set_option linter.unusedSimpArgs false
set_option maxRecDepth 20000
def tESASLHandshakeRequest_ (v : Int) (T : Tree) : Bs := (be 2 (T.at_ 0).S.length ++ (T.at_ 0).S) ++ (([] : Bs))
theorem teSASLHandshakeRequest (v : Int) (T : Tree) : tSASLHandshakeRequest v T = tESASLHandshakeRequest_ v T := rfl
def rvSASLHandshakeRequest (v : Int) (D : DV) (T : Tree) : Prop := ((D.f 0).s = bs (T.at_ 0).S) ∧ True
set_option maxHeartbeats 4000000 in
theorem rdSASLHandshakeRequest (v : Int) (T : Tree) {bv : Nat} {A : Option Addr} {c : Nat} {w : World} {F : Nat → Nat → Prop} (hst : Str w bv [.int .i16 v, .string ByteArray.empty]) (ho : Octs w F A c (tSASLHandshakeRequest v T)) (hFd : ∀ b o, F b o → ¬ (b = bv ∧ o < 2)) (hc : canSASLHandshakeRequest T) (hR : T.ranged) :
  Calls Tryd.prog 74 #[.pointer (some ⟨bv, 0, none⟩), .slice A (tSASLHandshakeRequest v T).length c, .bool false] w (fun e w' => ∃ D : DV, e = .returned .nilIface ∧ Str w' bv [.int .i16 v, .string ((D.f 0).s)] ∧ okSASLHandshakeRequest w' (Fp F w) D ∧ rvSASLHandshakeRequest v D T ∧ Step w w' (fun b o => b = bv ∧ o < 2)) := by
 refine enter (n := 29) Tryd.func74 rfl Tryd.ntmps74 kz fun a hE => ?_
 have hW := WOk.startStr hst
 have hE1 := (hE.grow ⟨bv, 0, [.int .i16 v, .string ByteArray.empty], true⟩).recast 0 (.v (.pointer (some ⟨bv, 0, none⟩))) (.p 0 0) rfl rfl (Nat.le_of_ble_eq_true (n := 1) rfl)
 refine go_sp [(0, .p 0 0), (1, .v (.slice A ((tSASLHandshakeRequest v T).length) c)), (2, .v (.bool false))] hW hE1 fun a1 hE2 => ?_
 clear hE1
 refine go_seq_region [0, 1] kz ?_
 refine go_rn [0] [1] [(0, .p 0 0), (1, .v (.slice A ((tSASLHandshakeRequest v T).length) c)), (2, .v (.bool false)), (11, .p 0 0)] hW hE2 fun a3 hE4 => ?_
 clear hE2
 refine of_op (wpOp_inline hE4 (f := 73) (vs := [.pointer (some ⟨bv, 0, none⟩)]) (d := 12) (n' := 2) kz Tryd.call73 Tryd.func73 rfl Tryd.ntmps73 kz fun a5 hE6 => ?_)
 have hE7 := hE6.recast 0 (.v (.pointer (some ⟨bv, 0, none⟩))) (.p 0 0) rfl rfl (Nat.le_of_ble_eq_true (n := 1) rfl)
 refine wp_skip ?_
 refine leave_end hE7 hW.cells (v := .tuple #[]) kz ?_
 refine ⟨_, rfl, fun a8 hE9 => ?_⟩
 have ac : EnvOk 29 [⟨bv, 0, [.int .i16 v, .string ByteArray.empty], true⟩] [(12, .v (.tuple #[])), (0, .p 0 0), (1, .v (.slice A ((tSASLHandshakeRequest v T).length) c)), (2, .v (.bool false)), (11, .p 0 0)] _ := hE9.places (⟨rfl, rfl, trivial⟩)
 refine wpOps_nil (then_normal ?_)
 refine go_seq_region [0, 1, 2, 3] kz ?_
 refine go_rn [0, 1] [2, 3] [(0, .p 0 0), (2, .v (.bool false)), (14, .v (.agg #[.slice A ((tSASLHandshakeRequest v T).length) c, .bool false]))] hW ac fun aE ae => ?_
 clear ac
 refine of_op (wpOp_alloc hW ae (d := 7) (cs := [.slice none 0 0, .bool false]) kz fun aF aG aH az aA aB af ag => ?_)
 clear ae hW
 refine of_op (wpOp_store af ag (oi := 1) (cs := [.slice A ((tSASLHandshakeRequest v T).length) c, .bool false]) kz fun aI aC aa ax => ?_)
 clear ag af
 refine wpOps_nil (then_normal ?_)
 have ah := RS.start (F := F) (s := tSASLHandshakeRequest v T) aa ax (ho.move aa.step (fun b_ o_ h_ _ => hFd b_ o_ h_) (aa.immM hFd)) [(0, .p 1 0), (2, .v (.bool false)), (7, .p 0 0)]
 have ay := hc
 have e26r := hR
 unfold canSASLHandshakeRequest at ay
 obtain ⟨e26_0, _⟩ := ay
 obtain ⟨aD, ai⟩ : ∃ R, R = (be 2 (T.at_ 0).S.length ++ (T.at_ 0).S) ++ ([] : Bs) := ⟨_, rfl⟩
 have aj := ah.cast (t := aD) (by rw [teSASLHandshakeRequest, ai]; unfold tESASLHandshakeRequest_; simp only [List.append_assoc])
 clear ah
 refine wp_seq ?_
 refine rs_sr [(0, .p 1 0), (2, .v (.bool false)), (7, .p 0 0), (8, .v (.int .i16 v))] aj fun _ ak => ?_
 clear aj
 refine then_normal ?_
 refine wp_seq ?_
 refine rs_sr [(0, .p 1 0), (2, .v (.bool false)), (7, .p 0 0)] ak fun _ al => ?_
 clear ak
 refine then_normal ?_
 refine wp_seq ?_
 refine rs_sr [(2, .v (.bool false)), (7, .p 0 0), (9, .p 1 0)] al fun _ am => ?_
 clear al
 refine then_normal ?_
 refine wp_seq ?_
 refine wp_seq ?_
 refine rs_sr [(2, .v (.bool false)), (7, .p 0 0), (9, .p 1 0)] am fun _ ao => ?_
 clear am
 refine then_normal ?_
 refine wp_seq ?_
 refine wp_seq ?_
 refine rs_sr [(7, .p 0 0), (9, .p 1 0), (21, .v (.bool false))] ao fun _ ab => then_normal ?_
 clear ao
 refine cond_false ab.env_ (b := false) kz (rfl) ?_
 have ap := ab.cast ai
 clear ab
 refine rs_ca0 (d := 23) [(7, .p 0 0), (9, .p 1 0), (10, .v (.string (bs (T.at_ 0).S)))] ap (pString (T.at_ 0).S e26_0 _) Tryd.call101 fun _ _ ar => ?_
 clear ap
 refine then_normal ?_
 refine rs_sto [⟨bv, 0, [.int .i16 v, .string (bs (T.at_ 0).S)], true⟩] 0 [(7, .p 0 0)] ar fun _ _ au => ?_
 clear ar
 refine then_normal ?_
 refine wp_seq ?_
 refine go_region [0, 1] kz (of_op (rs_complete (d := 28) au rComplete Tryd.call96 fun _ av => ?_))
 clear au
 refine rs_rn [1] [] [(6, .v (.nilIface))] av fun _ aw => wpOps_nil ?_
 clear av
 refine then_normal ?_
 refine wp_ret ?_
 obtain ⟨A_, m_, c_, hW_, hr_, hE_, hP_⟩ := aw.open_
 refine leave hE_ hW_.cells (v := .nilIface) kz ?_
 have h_ := aw.mv.mono immOut hP_
 refine ⟨(dvP none [] [dvS (bs (T.at_ 0).S)]), rfl, Str.of hW_ 1 rfl, ?_, ?_, hW_.step⟩
 ·unfold okSASLHandshakeRequest
  exact ⟨(by show ByteArray.size (bs _) ≤ 1000000; rw [bs_size]; exact Nat.le_trans e26_0 (by decide)), trivial⟩
 ·unfold rvSASLHandshakeRequest
  exact ⟨(rfl), trivial⟩
theorem mvSASLHandshakeRequest : Moves okSASLHandshakeRequest := by
 intro w w' F F' M d hs hM hF h
 unfold okSASLHandshakeRequest at h ⊢
 obtain ⟨g0, _⟩ := h
 exact ⟨g0, trivial⟩
end Go.Proofs.YtnhgfbgdoelfoaaDoor.ME
namespace Go.Proofs.YtnhgfbgdoelfoaaDoor.ME
open Go
open Go.RowKit
set_option linter.unusedVariables false
set_option linter.unusedSimpArgs false
section
variable {P : Program} {ops : Array Oper} {Q : Exit → Act → World → Prop} {n : Nat} {tb : Tb} {env : Env} {rs : List Rw} {w0 : World} {M : Nat → Nat → Prop} {a : Act} {w : World}
theorem wpOp_makeZ {i d j : Nat} {t e : TypeId} {size bytes : Nat} (z : Value) (cs : List Value) {N : Act → World → Prop} (hW : WOk w0 M w tb rs) (hE : EnvOk n tb env a)
  (K : ∀ b a' w', b = w.heap.size → w0.heap.size ≤ b → Fr w tb rs w' (tb ++ [⟨b, 0, cs, true⟩]) rs → WOk w0 M w' (tb ++ [⟨b, 0, cs, true⟩]) rs → EnvOk n (tb ++ [⟨b, 0, cs, true⟩]) ((d, .v (.slice (some ⟨b, 0, none⟩) j j)) :: env) a' → N a' w')
  (h : makeE env ops n i = some (t, ((j : Nat) : Int), ((j : Nat) : Int), d) := by kernel_rfl) (ht : rowTy P t = some (e, size, bytes) := by kernel_rfl) (hz : (P.info? e).bind (·.zero) = some z := by kernel_rfl) (hcs : (madeCells z.cells (j * size)).toList = cs := by kernel_rfl) (hb : Nat.ble (bytes * j) 1000000 = true := by kernel_rfl) : wpOp P ops Q i N a w := by
 obtain ⟨ht', inf, z', hi, hz', hzs, hs1, rfl, hsz, hbp⟩ := rowTy_ok ht
 obtain ⟨op, ho, hd, kl, kc, hrun⟩ := makeE_ok (P := P) (w := w) hE h
 have hzz : z' = z := by rw [hi] at hz; simp only [Option.bind_some, hz', Option.some.injEq] at hz; exact hz
 subst hzz
 have hb' := Nat.le_of_ble_eq_true hb
 have hjm : j ≤ 1000000 := by
  have := Nat.le_mul_of_pos_left j hbp
  omega
 have hr := run_make (P := P) w t e inf z' ht' hi hz' kl kc (j : Int) (j : Int) (by omega) (Int.le_refl _) (by
  have : ((inf.bytes * j : Nat) : Int) ≤ 281474976710656 := by omega
  rwa [Int.natCast_mul] at this) (by omega)
 simp only [Int.toNat_natCast, hs1] at hr
 have hca : madeCells z'.cells (j * size) = cs.toArray := by rw [← hcs]
 rw [hca] at hr
 refine wpOp_value hE ho (fun o hop => hrun o _ _ hop hr) ?_
 refine K w.heap.size _ _ rfl hW.step.size (Fr.alloc w tb rs _ cs true) (hW.alloc cs e) ?_
 exact (hE.put hd (.v (.slice (some ⟨w.heap.size, 0, none⟩) j j)) trivial).grow _
theorem wpOp_bytes {i d : Nat} {src dst e : TypeId} {s : ByteArray} {N : Act → World → Prop} (hW : WOk w0 M w tb rs) (hE : EnvOk n tb env a) (hsm : s.size ≤ 1099511627776)
  (K : ∀ b c a' w', Fr w tb rs w' tb rs → WOk w0 M w' tb rs → (∀ G, Octs w' (Imm G w0 w' tb rs) (some ⟨b, 0, none⟩) c (sb s)) → EnvOk n tb ((d, .v (.slice (some ⟨b, 0, none⟩) (sb s).length c)) :: env) a' → N a' w')
  (h : convE tb env ops n i = some (src, dst, .string s, d) := by kernel_rfl) (hs : P.underlying src = some .string := by kernel_rfl) (hd : P.underlying dst = some (.slice e) := by kernel_rfl) (he : P.underlying e = some (.int .u8) := by kernel_rfl) : wpOp P ops Q i N a w := by
 unfold convE at h
 split at h
 ·rename_i src' dst' x d' hop
  split at h
  ·rename_i v hx
   simp only [Option.some.injEq, Prod.mk.injEq] at h
   obtain ⟨rfl, rfl, rfl, rfl⟩ := h
   have hdn := (opAt_ok hE hop).choose_spec.2.2.2.1
   have hrun := Lib.run_convert_string_bytes (P := P) w src' dst' e s hs hd he
   have hst : Step w (Lib.bytesWorld w e s) Nil := ⟨rfl, rfl, by rw [Lib.bytesWorld_size]; omega, fun b hb => by rw [Lib.bytesWorld_at_old w e s b hb]; exact Keeps.refl _ _⟩
   have hlen : (sb s).length = s.size := sb_length s
   have e1 := (opd_ok hE hx).1
   refine wpOp_value hE hop (v := .slice (some ⟨w.heap.size, 0, none⟩) (sb s).length (grownCap w s.size 0 e)) (w' := Lib.bytesWorld w e s) (fun o' ho' => ?_) (K w.heap.size _ _ _ (Fr.nil tb rs hst) (hW.next_nil hst) (fun G => ?_) (hE.put hdn (.v _) trivial))
   ·unfold execOp
    rw [ho']
    simp only [SV.val] at e1
    simp only [e1, Sem.run_bind, hrun, Result.andThen_ok, Sem.run_pure, hlen]
   ·refine ⟨by rw [hlen]; exact grownCap_ge w s.size 0 e, by rw [hlen]; exact hsm, fun h => (by cases h), fun ad hA _ => ?_⟩
    obtain rfl := Option.some.inj hA
    refine ⟨w.heap.size, 0, rfl, fun q hq => ⟨rfl, fun j v hj => ?_⟩⟩
    have hj0 : j = 0 := by
     cases j with
     | zero => rfl
     | succ j => simp at hj
    subst hj0
    simp only [List.getElem?_cons_zero, Option.some.injEq] at hj
    subst hj
    have h2 : (Lib.bytesWorld w e s).heap.size = w.heap.size + 1 := Lib.bytesWorld_size w e s
    refine ⟨⟨.inr hW.step.size, by rw [h2]; exact Nat.lt_succ_self _, fun ha => ?_⟩, ?_⟩
    ·have := hW.act_live ha
     exact absurd this (Nat.lt_irrefl _)
    ·rw [Nat.zero_add, Nat.mul_one, Nat.add_zero, Lib.bytesWorld_cell w e s q (by rw [← hlen]; exact hq)]
     rfl
  ·cases h
 ·cases h
end
end Go.Proofs.YtnhgfbgdoelfoaaDoor.ME
namespace Go.Proofs.YtnhgfbgdoelfoaaDoor.ME
open Go
open Go.RowKit
set_option linter.unusedVariables false
set_option linter.unusedSimpArgs false
set_option maxRecDepth 20000
abbrev NoF : Nat → Nat → Prop := fun _ _ => False
theorem WOk.strOut {G : Nat → Nat → Prop} {w0 w : World} {tb : Tb} {rs : List Rw} {p : Nat} {cs : List Value} (tb' : Tb) (hW : WOk w0 Nil w tb rs) (ht : tb' ++ [⟨p, 0, cs, true⟩] = tb := by rfl) : AtF w (Imm G w0 w tb' rs) p 0 cs := fun j v hj => by
 subst ht
 have hi : (tb' ++ [(⟨p, 0, cs, true⟩ : Ob)])[tb'.length]? = some ⟨p, 0, cs, true⟩ := by rw [List.getElem?_append_right (Nat.le_refl _), Nat.sub_self]; rfl
 have h1 := hW.cells _ _ hi j v hj
 have hlt : j < cs.length := (List.getElem?_eq_some_iff.1 hj).1
 refine ⟨⟨?_, hW.live _ _ hi, fun ha => ?_⟩, h1⟩
 ·rcases (hW.rw_ _ _ hi rfl j hlt).1 with h2 | h2
  ·exact .inr h2
  ·exact h2.elim
 ·rcases ha with ⟨k, ob, h2, h3, h4, h5, h6⟩ | ⟨k, r, h2, h3⟩
  ·have hk : k < tb'.length := (List.getElem?_eq_some_iff.1 h2).1
   have h7 : (tb' ++ [(⟨p, 0, cs, true⟩ : Ob)])[k]? = some ob := by rw [List.getElem?_append_left hk]; exact h2
   rcases hW.apart k _ ob _ (by omega) h7 hi (.inr rfl) with h8 | h8 | h8
   ·exact h8 h4
   ·simp only [Nat.zero_add] at h5 h6; simp only [Nat.le_zero] at h8; omega
   ·simp only [Nat.zero_add] at h5 h6 h8; omega
  ·exact hW.rtb k r h2 p h3 _ _ hi rfl
section
variable {w0 w : World} {tb : Tb} {rs : List Rw} {F : Nat → Nat → Prop}
theorem WOk.objFp (hW : WOk w0 Nil w tb rs) (i : Nat) {b : Nat} {cs : List Value} (hi : tb[i]? = some ⟨b, 0, cs, true⟩) : AtF w (Fp F w0) b 0 cs := fun j v hj => by
 have hlt := (List.getElem?_eq_some_iff.1 hj).1
 refine ⟨?_, hW.cells i _ hi j v hj⟩
 rcases (hW.rw_ i _ hi rfl j hlt).1 with h | h
 ·exact .inr h
 ·exact h.elim
def TrL (w : World) (F : Nat → Nat → Prop) : List (List Value) → List Tree → Prop
 | [], [] => True
 | c :: cs, x :: xs => TreeR w F c x ∧ TrL w F cs xs
 | _, _ => False
theorem TrL.move {w w' : World} {F F' M : Nat → Nat → Prop} (hs : Step w w' M) (hM : ∀ b o, F b o → b < w.heap.size → ¬ M b o) (hF : ∀ b o, F b o → b < w.heap.size → F' b o) : ∀ {cs : List (List Value)} {l : List Tree}, TrL w F cs l → TrL w' F' cs l
 | [], [], _ => trivial
 | _ :: _, _ :: _, h => ⟨h.1.move hs hM hF, TrL.move hs hM hF h.2⟩
 | [], _ :: _, h => h.elim
 | _ :: _, [], h => h.elim
theorem TrL.len : ∀ {cs : List (List Value)} {l : List Tree}, TrL w F cs l → cs.length = l.length
 | [], [], _ => rfl
 | _ :: _, _ :: _, h => congrArg (· + 1) (TrL.len h.2)
 | [], _ :: _, h => h.elim
 | _ :: _, [], h => h.elim
theorem TrL.five : ∀ {cs : List (List Value)} {l : List Tree}, TrL w F cs l → ∀ c ∈ cs, c.length = 5
 | [], [], _ => fun c hc => by cases hc
 | _ :: _, _ :: _, h => fun c hc => by
  rcases List.mem_cons.1 hc with rfl | hc
  ·exact h.1.five
  ·exact TrL.five h.2 c hc
 | [], _ :: _, h => h.elim
 | _ :: _, [], h => h.elim
theorem TrL.get : ∀ {cs : List (List Value)} {l : List Tree}, TrL w F cs l → ∀ (i : Nat) (x : Tree), l[i]? = some x → TreeR w F (cs.getD i []) x
 | [], [], _, i, x, hx => by simp at hx
 | _ :: _, _ :: _, h, 0, x, hx => by
  simp only [List.getElem?_cons_zero, Option.some.injEq] at hx
  subst hx
  exact h.1
 | _ :: _, _ :: _, h, i + 1, x, hx => TrL.get h.2 i x hx
 | [], _ :: _, h, _, _, _ => h.elim
 | _ :: _, [], h, _, _, _ => h.elim
theorem flat5 {b : Nat} : ∀ (css : List (List Value)) (o : Nat), AtF w F b o css.flatten → (∀ c ∈ css, c.length = 5) → ∀ i, i < css.length → (css.getD i []).length = 5 ∧ AtF w F b (o + i * 5) (css.getD i [])
 | [], o, h, hl, i, hi => absurd hi (Nat.not_lt_zero _)
 | c :: r, o, h, hl, 0, _ => ⟨hl c List.mem_cons_self, fun j v hj => by
   have hj' : c[j]? = some v := hj
   have := h j v (by rw [List.flatten_cons, List.getElem?_append_left (List.getElem?_eq_some_iff.1 hj').1]; exact hj')
   rw [show o + 0 * 5 + j = o + j by omega]
   exact this⟩
 | c :: r, o, h, hl, i + 1, hi => by
  have hc := hl c List.mem_cons_self
  have := flat5 r (o + 5) (fun j v hj => by
   have := h (5 + j) v (by rw [List.flatten_cons, List.getElem?_append_right (by omega), show 5 + j - c.length = j by omega]; exact hj)
   rw [show o + 5 + j = o + (5 + j) by omega]
   exact this) (fun d hd => hl d (List.mem_cons_of_mem _ hd)) i (by simpa using hi)
  rw [show o + (i + 1) * 5 = o + 5 + i * 5 by omega]
  exact this
theorem tell_slots {b : Nat} {css : List (List Value)} {l : List Tree} (h : AtF w F b 0 css.flatten) (hT : TrL w F css l) (hsm : l.length ≤ 1099511627776) : Slots w F 5 (some ⟨b, 0, none⟩) l.length l.length (fun i => css.getD i []) :=
 ⟨Nat.le_refl _, hsm, fun h => (by cases h), fun ad hA _ => ⟨b, 0, (Option.some.inj hA).symm, fun i hi => flat5 css 0 h hT.five i (by rw [hT.len]; exact hi)⟩⟩
theorem tell_end (hW : WOk w0 Nil w tb rs) (i : Nat) {b n2 c3 : Nat} {A3 : Option Addr} {u : List (Int × Bs)} {css : List (List Value)} {cs : List Value} {l : List Tree} (hi : tb[i]? = some ⟨b, 0, cs, true⟩) (hT' : TrL w (Fp F w0) css l) (hU : TagsR w (Fp F w0) A3 c3 u) (hf : css.flatten = cs := by rfl) (hl : l.length = n2 := by rfl) (hn : Nat.ble n2 1000000 = true := by kernel_rfl) :
  GivesT w0 F (.mk 0 [] false l u) (.returned (.agg #[.int .i64 0, .slice none 0 0, .bool false, .slice (some ⟨b, 0, none⟩) n2 n2, .slice A3 u.length c3])) w := by
 subst hf
 subst hl
 have hn' := Nat.le_of_ble_eq_true hn
 exact ⟨_, rfl, TreeR.mk (s := []) _ (Octs.nil _ _) (tell_slots (hW.objFp i hi) hT' (by omega)) hT'.get hU, hW.step⟩
end
def GotOK (m : Nat) : Prop := ∀ (ct : List Value) (t : Tree) (w : World) (F : Nat → Nat → Prop), TreeR w F ct t → t.depth ≤ m →
  Calls Tryd.prog 20 #[.agg ct.toArray] w (GivesT w F t)
theorem lGot_step {m : Nat} (hg : GotOK m) (ct : List Value) (t : Tree) (w : World) (F : Nat → Nat → Prop) (ht : TreeR w F ct t) (hd : t.depth ≤ m + 1) :
  Calls Tryd.prog 20 #[.agg ct.toArray] w (GivesT w F t) := by
 obtain ⟨n1, s2, b3, l4, u5, A6, c7, A8, c9, av, aw, dU, rfl, rfl, dx, dy, dV, dW⟩ := ht.open_
 have dz := dx.small
 have dA := dy.small
 obtain ⟨dX, dB, dY⟩ := dW.ex
 have dC := dB.small
 refine enter (n := 49) Tryd.func20 rfl Tryd.ntmps20 kz fun a hE => ?_
 have hW := WOk.start w Nil
 refine go_seq_region [0, 1] kz ?_
 refine of_op (wpOp_box hW hE (d := 1) (cs := [.int .i64 n1, .slice A6 s2.length c7, .bool b3, .slice A8 l4.length c9, .slice av u5.length aw]) kz fun cq fl fm dZ d5 d6 cw cz => ?_)
 clear hE hW
 refine of_op (wpOp_alloc cw cz (d := 2) (cs := [.int .i64 0, .slice none 0 0, .bool false, .slice none 0 0, .slice none 0 0]) kz fun cr fo fq d7 d8 d9 bZ cA => ?_)
 clear cz cw
 refine wpOps_nil (then_normal ?_)
 refine go_seq_region [0, 1, 2, 3, 4, 5, 6, 7, 8] kz ?_
 refine go_rn [0, 1, 2, 3, 4, 5, 6] [7, 8] [(1, .p 0 0), (2, .p 1 0), (14, .v (.agg #[.int .i64 n1, .slice A6 s2.length c7, .bool b3, .slice none 0 0, .slice none 0 0]))] bZ cA fun fr cB => ?_
 clear cA
 refine of_op (wpOp_alloc bZ cB (d := 3) (cs := [.int .i64 0, .slice none 0 0, .bool false, .slice none 0 0, .slice none 0 0]) kz fun cu ft fu ea eb ec cC cD => ?_)
 clear cB bZ
 refine of_op (wpOp_store cC cD (oi := 2) (cs := [.int .i64 n1, .slice A6 s2.length c7, .bool b3, .slice none 0 0, .slice none 0 0]) kz fun fv ee bi cE => ?_)
 clear cD cC
 refine wpOps_nil (then_normal ?_)
 refine wp_seq ?_
 refine go_sp [(1, .p 0 0), (2, .p 1 0), (3, .p 2 0), (16, .v (.slice A8 l4.length c9)), (17, .v (.int .i64 ((l4.length : Nat) : Int))), (18, .v (.int .i64 0))] bi cE fun fw cG => ?_
 clear cE
 refine wp_block ?_
 have cH := bi.addNil 26 5
 have ef := bi.frNil 26 5
 clear bi
 refine wp_loop_ghost (fun n_ a_ w_ => ∃ (k : Nat) (A_ : Option Addr) (c_ : Nat) (xs : List Value) (css : List (List Value)), n_ = l4.length - k ∧ k ≤ l4.length ∧ (Trees w_ (Imm F w w_ [⟨cq, 0, [.int .i64 n1, .slice A6 s2.length c7, .bool b3, .slice A8 l4.length c9, .slice av u5.length aw], true⟩, ⟨cr, 0, [.int .i64 0, .slice none 0 0, .bool false, .slice none 0 0, .slice none 0 0], true⟩, ⟨cu, 0, [.int .i64 n1, .slice A6 s2.length c7, .bool b3, .slice A_ k c_, .slice none 0 0], true⟩] [⟨A_, c_, 26, 5, k, xs⟩]) xs (l4.take k) css) ∧ LInv cH 49 [⟨cq, 0, [.int .i64 n1, .slice A6 s2.length c7, .bool b3, .slice A8 l4.length c9, .slice av u5.length aw], true⟩, ⟨cr, 0, [.int .i64 0, .slice none 0 0, .bool false, .slice none 0 0, .slice none 0 0], true⟩, ⟨cu, 0, [.int .i64 n1, .slice A6 s2.length c7, .bool b3, .slice A_ k c_, .slice none 0 0], true⟩] [⟨A_, c_, 26, 5, k, xs⟩] [(1, .p 0 0), (2, .p 1 0), (3, .p 2 0), (16, .v (.slice A8 l4.length c9)), (17, .v (.int .i64 ((l4.length : Nat) : Int))), (18, .v (.int .i64 ((k : Nat) : Int)))] a_ w_) (l4.length) ⟨0, none, 0, [], [], by omega, by omega, Trees.nil _ _, cG.pk, cH, Fr.refl _ _ _⟩ ?_
 clear cG
 rintro fx fy fz ⟨k, A_, c_, xs, css, eg, eh, hT, cI, ah, dh⟩
 refine go_sp [(1, .p 0 0), (2, .p 1 0), (3, .p 2 0), (16, .v (.slice A8 l4.length c9)), (17, .v (.int .i64 ((l4.length : Nat) : Int))), (18, .v (.int .i64 ((k : Nat) : Int))), (19, .v (.bool (decide (((k : Nat) : Int) < ((l4.length : Nat) : Int)))))] ah cI fun fA ay => ?_
 clear cI
 refine wp_seq ?_
 refine cond_of ay (b := decide (((k : Nat) : Int) < ((l4.length : Nat) : Int))) kz (fun b8 => ?_) (fun b8 => ?_)
 ·
  have ei := of_decide_eq_true b8
  refine wp_skip ?_
  refine then_normal ?_
  refine wp_seq ?_
  refine wp_block ?_
  refine go_seq_region [0, 1, 2, 3] kz ?_
  obtain ⟨ej, ek, di, em, bn⟩ := Slots.get dy (i := k) (by omega)
  obtain ⟨eo, cd⟩ : ∃ x, l4[k]? = some x := ⟨_, List.getElem?_eq_getElem (by omega)⟩
  have ce := dV k eo cd
  obtain ⟨cJ, cK, cL, cM, cN, cO, cP, cQ, cR, cS, cT, ep, rfl, bo, eu, ev, fB, fC⟩ := ce.open_
  rw [bo] at ce
  have dD := eu.small
  have dE := ev.small
  rw [bo] at bn
  refine of_op (wpOp_index ay (t := 39) (A := A8) (m := l4.length) (q := ((k : Nat) : Int)) (d := 20) kz (e := 42) (size := 5) (bytes := 88) kz di rfl (by omega) fun fD bp => ?_)
  clear ay
  refine of_op (wpOp_load bp (t := 42) (b := ej) (o := ek + k * 5) (d := 21) kz (cs := [.int .i64 cJ, .slice cO cK.length cP, .bool cL, .slice cQ cM.length cR, .slice cS cN.length cT]) (v := .agg #[.int .i64 cJ, .slice cO cK.length cP, .bool cL, .slice cQ cM.length cR, .slice cS cN.length cT]) kz (AtF.move bn ah.step nilM keepF).at_ fun ew bq => ?_)
  clear bp
  refine of_op (wpOp_alloc ah bq (d := 5) (cs := [.int .i64 0, .slice none 0 0, .bool false, .slice none 0 0, .slice none 0 0]) kz fun ey ez eB dF dG az bt bu => ?_)
  clear bq ah
  refine of_op (wpOp_store bt bu (oi := 3) (cs := [.int .i64 cJ, .slice cO cK.length cP, .bool cL, .slice cQ cM.length cR, .slice cS cN.length cT]) kz fun eC aA bw bx => ?_)
  clear bu bt
  refine wpOps_nil (then_normal ?_)
  refine go_drawK 7 kz bw fun eD aB ai cU => ?_
  clear bw
  refine go_rnD [0, 1, 2] [(1, .p 0 0), (2, .p 1 0), (3, .p 2 0), (16, .v (.slice A8 l4.length c9)), (17, .v (.int .i64 ((l4.length : Nat) : Int))), (18, .v (.int .i64 ((k : Nat) : Int))), (23, .v (.slice A_ k c_)), (24, .v (.agg #[.int .i64 cJ, .slice cO cK.length cP, .bool cL, .slice cQ cM.length cR, .slice cS cN.length cT]))] 5 (panicFree_block (panicFree_then (panicFree_then (panicFree_block (panicFree_then panicFree_body))))) (fun _ h => h.cells) cU bx fun eE bz => ?_
  clear bx
  refine anyC_op (i := 3) kz (wpOp_call bz (f := 20) (vs := [.agg #[.int .i64 cJ, .slice cO cK.length cP, .bool cL, .slice cQ cM.length cR, .slice cS cN.length cT]]) (d := 25) kz Tryd.call20 ( hg _ _ _ _ (ce.move ai.step nilM ai.imm) (by have h_ := deep_get cd; rw [tdepth_mk] at hd; omega)) ?_)
  rintro e_ eF ⟨dH, rfl, cV, aC⟩
  have aD := cV.move (Step.refl _ Nil) nilM (ai.laid (G := F) aC)
  obtain ⟨aE, aF, aG, aH, aI, aJ, aK, aL, aM, aN, aO, dI, dJ, aP, dj, dl, eG, eH⟩ := aD.open_
  rw [aP] at aD
  have dp := dj.small
  have dq := dl.small
  rw [aP]
  refine ⟨_, rfl, fun eI bA => ?_⟩
  have aQ := ai.next_nil aC
  have af := ai.frN aC
  clear bz
  have cW := TT.ofW af aQ
  refine ⟨fun _ => cW, ?_⟩
  refine anyC_op (i := 4) kz (wpOp_lit aQ bA (e := 26) (size := 5) (len := 1) (cs := [.int .i64 aE, .slice aJ aF.length aK, .bool aG, .slice aL aH.length aM, .slice aN aI.length aO]) (d := 26) kz kz fun dr eJ eK dK dL aa aj bB => ?_)
  clear bA aQ
  have cX := TT.ofW (af.trans aa) aj
  refine ⟨fun _ => cX, ?_⟩
  refine anyC_op (i := 5) kz (wpOp_append aj bB (k := 0) (d := 27) (t := 23) (e := 26) (size := 5) (bytes := 88) (A := A_) (As := (some ⟨dr, 0, none⟩)) (m0 := k) (c := c_) (m := 1) (cs := 1) (xs := xs) (news := [.int .i64 aE, .slice aJ aF.length aK, .bool aG, .slice aL aH.length aM, .slice aN aI.length aO]) kz kz rfl (own_src (aj.own 1 _ rfl) (allOne_ok kz)) (own_cap (aj.own 1 _ rfl)) (by omega) fun aR aS eL eM ag aT bC => ?_)
  clear bB aj
  have bD := TT.ofW ((af.trans aa).trans ag) aT
  refine ⟨fun _ => bD, ?_⟩
  refine go_rnD [6] [(1, .p 0 0), (2, .p 1 0), (3, .p 2 0), (16, .v (.slice A8 l4.length c9)), (17, .v (.int .i64 ((l4.length : Nat) : Int))), (18, .v (.int .i64 ((k : Nat) : Int))), (27, .v (.slice aR (k + 1) aS)), (28, .p 2 3)] 1 (panicFree_block (panicFree_then (panicFree_then (panicFree_block (panicFree_then panicFree_body))))) (fun _ h => h.cells) bD bC fun eN bE => ?_
  clear bC
  refine anyC_op (i := 7) kz (wpOp_store aT bE (oi := 2) (cs := [.int .i64 n1, .slice A6 s2.length c7, .bool b3, .slice aR (k + 1) aS, .slice none 0 0]) kz fun eO ak bF bG => ?_)
  clear bE aT
  refine ⟨fun h => absurd rfl h, ?_⟩
  refine anyC_done kz ?_ _
  refine block_normal ?_
  refine then_normal ?_
  refine go_region [0, 1] kz ?_
  refine go_rn [0, 1] [] [(1, .p 0 0), (2, .p 1 0), (3, .p 2 0), (16, .v (.slice A8 l4.length c9)), (17, .v (.int .i64 ((l4.length : Nat) : Int))), (18, .v (.int .i64 (IntKind.i64.wrap (((k : Nat) : Int) + 1))))] bF bG fun eP cY => ?_
  clear bG
  refine wpOps_nil (then_normal ?_)
  obtain ⟨bH, cZ, al⟩ := bF.cutB cY 3 [⟨cq, 0, [.int .i64 n1, .slice A6 s2.length c7, .bool b3, .slice A8 l4.length c9, .slice av u5.length aw], true⟩, ⟨cr, 0, [.int .i64 0, .slice none 0 0, .bool false, .slice none 0 0, .slice none 0 0], true⟩, ⟨cu, 0, [.int .i64 n1, .slice A6 s2.length c7, .bool b3, .slice aR (k + 1) aS, .slice none 0 0], true⟩] [(1, .p 0 0), (2, .p 1 0), (3, .p 2 0), (16, .v (.slice A8 l4.length c9)), (17, .v (.int .i64 ((l4.length : Nat) : Int))), (18, .v (.int .i64 (IntKind.i64.wrap (((k : Nat) : Int) + 1))))]
  obtain ⟨c5, am⟩ := cZ.cutR 1 [⟨aR, aS, 26, 5, k + 1, xs ++ [.int .i64 aE, .slice aJ aF.length aK, .bool aG, .slice aL aH.length aM, .slice aN aI.length aO]⟩]
  have da : IntKind.i64.wrap (((k : Nat) : Int) + 1) = ((k + 1 : Nat) : Int) := wrap_succ (by omega)
  rw [da] at bH
  exact ⟨l4.length - (k + 1), by omega, k + 1, aR, aS, xs ++ [Value.int .i64 aE, .slice aJ aF.length aK, .bool aG, .slice aL aH.length aM, .slice aN aI.length aO], (css ++ [[Value.int .i64 aE, .slice aJ aF.length aK, .bool aG, .slice aL aH.length aM, .slice aN aI.length aO]]), rfl, by omega, by rw [take_succ_of cd]; exact (hT.move ((((((((az.trans aA).trans aB).trans af).trans aa).trans ag).trans ak).trans al).trans am).step immM ((((((((az.trans aA).trans aB).trans af).trans aa).trans ag).trans ak).trans al).trans am).to').snoc (aD.move ((((aa.trans ag).trans ak).trans al).trans am).step immM ((((aa.trans ag).trans ak).trans al).trans am).to'), bH.pk, c5, (((((((((dh.trans az).trans aA).trans aB).trans af).trans aa).trans ag).trans ak).trans al).trans am)⟩
 ·
  have dM := of_decide_eq_false b8
  refine wp_exit ?_
  refine then_exit ?_
  refine then_exit ?_
  refine block_exit ?_
  refine then_normal ?_
  refine wp_seq ?_
  refine go_sp [(2, .p 1 0), (3, .p 2 0), (31, .v (.slice av u5.length aw)), (32, .v (.int .i64 ((u5.length : Nat) : Int))), (33, .v (.int .i64 0))] ah ay fun eQ bI => ?_
  clear ay
  refine wp_block ?_
  have hk0 : k = l4.length := by omega
  have bJ := ah.addNil 73 2
  have bK := ah.frNil 73 2
  clear ah
  refine wp_loop_ghost (fun n_ a_ w_ => ∃ (q : Nat) (A5_ : Option Addr) (c5_ : Nat) (ys : List Value) (dss : List (List Value)), n_ = u5.length - q ∧ q ≤ u5.length ∧ (Tags w_ (Imm F w w_ [⟨cq, 0, [.int .i64 n1, .slice A6 s2.length c7, .bool b3, .slice A8 l4.length c9, .slice av u5.length aw], true⟩, ⟨cr, 0, [.int .i64 0, .slice none 0 0, .bool false, .slice none 0 0, .slice none 0 0], true⟩, ⟨cu, 0, [.int .i64 n1, .slice A6 s2.length c7, .bool b3, .slice A_ k c_, .slice A5_ q c5_], true⟩] [⟨A_, c_, 26, 5, k, xs⟩, ⟨A5_, c5_, 73, 2, q, ys⟩]) ys (u5.take q) dss) ∧ LInv bJ 49 [⟨cq, 0, [.int .i64 n1, .slice A6 s2.length c7, .bool b3, .slice A8 l4.length c9, .slice av u5.length aw], true⟩, ⟨cr, 0, [.int .i64 0, .slice none 0 0, .bool false, .slice none 0 0, .slice none 0 0], true⟩, ⟨cu, 0, [.int .i64 n1, .slice A6 s2.length c7, .bool b3, .slice A_ k c_, .slice A5_ q c5_], true⟩] [⟨A_, c_, 26, 5, k, xs⟩, ⟨A5_, c5_, 73, 2, q, ys⟩] [(2, .p 1 0), (3, .p 2 0), (31, .v (.slice av u5.length aw)), (32, .v (.int .i64 ((u5.length : Nat) : Int))), (33, .v (.int .i64 ((q : Nat) : Int)))] a_ w_) (u5.length) ⟨0, none, 0, [], [], by omega, by omega, Tags.nil _ _, bI.pk, bJ, Fr.refl _ _ _⟩ ?_
  clear bI
  rintro eR eS eU ⟨q, A5_, c5_, ys, dss, dN, dO, hU, bL, ab, aU⟩
  refine go_sp [(2, .p 1 0), (3, .p 2 0), (31, .v (.slice av u5.length aw)), (32, .v (.int .i64 ((u5.length : Nat) : Int))), (33, .v (.int .i64 ((q : Nat) : Int))), (34, .v (.bool (decide (((q : Nat) : Int) < ((u5.length : Nat) : Int)))))] ab bL fun eV ao => ?_
  clear bL
  refine wp_seq ?_
  refine cond_of ao (b := decide (((q : Nat) : Int) < ((u5.length : Nat) : Int))) kz (fun aV => ?_) (fun aV => ?_)
  ·
   have dP := of_decide_eq_true aV
   refine wp_skip ?_
   refine then_normal ?_
   refine wp_seq ?_
   refine wp_block ?_
   refine go_seq_region [0, 1, 2, 3] kz ?_
   obtain ⟨dt, du, db, dQ, aW⟩ := Slots.get dB (i := q) (by omega)
   obtain ⟨⟨ac, ae⟩, bM⟩ : ∃ x, u5[q]? = some x := ⟨_, List.getElem?_eq_getElem (by omega)⟩
   obtain ⟨⟨ap, ar, cm, dc⟩, dv, dw⟩ := dY q ac ae bM
   rw [cm] at aW
   refine of_op (wpOp_index ao (t := 40) (A := av) (m := u5.length) (q := ((q : Nat) : Int)) (d := 35) kz (e := 74) (size := 2) (bytes := 32) kz db rfl (by omega) fun eW bN => ?_)
   clear ao
   refine of_op (wpOp_load bN (t := 74) (b := dt) (o := du + q * 2) (d := 36) kz (cs := [.int .u32 ac, .slice ap ae.length ar]) (v := .agg #[.int .u32 ac, .slice ap ae.length ar]) kz (AtF.move aW ab.step nilM keepF).at_ fun eX bO => ?_)
   clear bN
   refine of_op (wpOp_alloc ab bO (d := 7) (cs := [.int .u32 0, .slice none 0 0]) kz fun eY eZ e9 dR dS aX bP bQ => ?_)
   clear bO ab
   refine of_op (wpOp_store bP bQ (oi := 3) (cs := [.int .u32 ac, .slice ap ae.length ar]) kz fun fa aY aZ bR => ?_)
   clear bQ bP
   refine wpOps_nil (then_normal ?_)
   refine go_region [0, 1, 2, 3, 4, 5, 6, 7, 8, 9, 10] kz ?_
   refine go_rn [0, 1, 2, 3, 4, 5, 6] [7, 8, 9, 10] [(2, .p 1 0), (3, .p 2 0), (31, .v (.slice av u5.length aw)), (32, .v (.int .i64 ((u5.length : Nat) : Int))), (33, .v (.int .i64 ((q : Nat) : Int))), (38, .v (.slice A5_ q c5_)), (43, .v (.agg #[.int .u32 ac, .slice ap ae.length ar]))] aZ bR fun fb bS => ?_
   clear bR
   refine wpOps_push aZ bS (k := 1) (e := 73) (size := 2) (len := 1) (cs := [.int .u32 ac, .slice ap ae.length ar]) (d1 := 44) (d := 45) kz (t := 24) (bytes := 32) kz (fun _ => by kernel_rfl) rfl kz (by omega) fun bj bk fe ff ba bd ⟨_, bT⟩ => ?_
   clear bS aZ
   refine go_rn [9] [10] [(2, .p 1 0), (3, .p 2 0), (31, .v (.slice av u5.length aw)), (32, .v (.int .i64 ((u5.length : Nat) : Int))), (33, .v (.int .i64 ((q : Nat) : Int))), (45, .v (.slice bj (q + 1) bk)), (46, .p 2 4)] bd bT fun fg bU => ?_
   clear bT
   refine of_op (wpOp_store bd bU (oi := 2) (cs := [.int .i64 n1, .slice A6 s2.length c7, .bool b3, .slice A_ k c_, .slice bj (q + 1) bk]) kz fun fh bf bV bW => ?_)
   clear bU bd
   refine wpOps_nil ?_
   refine block_normal ?_
   refine then_normal ?_
   refine go_region [0, 1] kz ?_
   refine go_rn [0, 1] [] [(2, .p 1 0), (3, .p 2 0), (31, .v (.slice av u5.length aw)), (32, .v (.int .i64 ((u5.length : Nat) : Int))), (33, .v (.int .i64 (IntKind.i64.wrap (((q : Nat) : Int) + 1))))] bV bW fun fi de => ?_
   clear bW
   refine wpOps_nil (then_normal ?_)
   obtain ⟨bX, bg, bh⟩ := bV.cutB de 3 [⟨cq, 0, [.int .i64 n1, .slice A6 s2.length c7, .bool b3, .slice A8 l4.length c9, .slice av u5.length aw], true⟩, ⟨cr, 0, [.int .i64 0, .slice none 0 0, .bool false, .slice none 0 0, .slice none 0 0], true⟩, ⟨cu, 0, [.int .i64 n1, .slice A6 s2.length c7, .bool b3, .slice A_ k c_, .slice bj (q + 1) bk], true⟩] [(2, .p 1 0), (3, .p 2 0), (31, .v (.slice av u5.length aw)), (32, .v (.int .i64 ((u5.length : Nat) : Int))), (33, .v (.int .i64 (IntKind.i64.wrap (((q : Nat) : Int) + 1))))]
   have df : IntKind.i64.wrap (((q : Nat) : Int) + 1) = ((q + 1 : Nat) : Int) := wrap_succ (by omega)
   rw [df] at bX
   exact ⟨u5.length - (q + 1), by omega, q + 1, bj, bk, ys ++ [Value.int .u32 ac, .slice ap ae.length ar], (dss ++ [[Value.int .u32 ac, .slice ap ae.length ar]]), rfl, by omega, by rw [take_succ_of bM]; exact (hU.move ((((aX.trans aY).trans ba).trans bf).trans bh).step immM ((((aX.trans aY).trans ba).trans bf).trans bh).to').snoc (c := [.int .u32 ac, .slice ap ae.length ar]) (x := (ac, ae)) ⟨⟨_, _, rfl, (dc.move bg.step nilM bg.imm)⟩, dv, dw⟩, bX.pk, bg, (((((aU.trans aX).trans aY).trans ba).trans bf).trans bh)⟩
  ·
   have dT := of_decide_eq_false aV
   refine wp_exit ?_
   refine then_exit ?_
   refine then_exit ?_
   refine block_exit ?_
   refine then_normal ?_
   refine go_seq_region [0, 1] kz ?_
   refine go_rn [0] [1] [(2, .p 1 0), (48, .v (.agg #[.int .i64 n1, .slice A6 s2.length c7, .bool b3, .slice A_ k c_, .slice A5_ q c5_]))] ab ao fun fj bY => ?_
   clear ao
   refine of_op (wpOp_store ab bY (oi := 1) (cs := [.int .i64 n1, .slice A6 s2.length c7, .bool b3, .slice A_ k c_, .slice A5_ q c5_]) kz fun fk ax au dg => ?_)
   clear bY ab
   refine wpOps_nil (then_normal ?_)
   refine wp_ret ?_
   refine leave dg au.cells (v := .agg #[.int .i64 n1, .slice A6 s2.length c7, .bool b3, .slice A_ k c_, .slice A5_ q c5_]) kz ?_
   have hq0 : q = u5.length := by omega
   have hT' := (hT.move ((bK.trans aU).trans ax).step immM ((bK.trans aU).trans ax).to')
   have hU' := (hU.move ax.step immM ax.to')
   rw [show l4.take k = l4 by rw [hk0, List.take_length]] at hT'
   rw [show u5.take q = u5 by rw [hq0, List.take_length]] at hU'
   exact tree_end au rfl (dx.move au.step nilM startFp) hk0 (trees_fp au (k := 0) rfl hT' hk0 (by omega)) hq0 (tags_fp au (k := 1) rfl hU' hq0 (by omega)) rfl
theorem lGot : ∀ m, GotOK m
 | 0 => fun ct t w F ht hd => by
  obtain ⟨n, s, b, l, u, A1, c1, A2, c2, A3, c3, xs, rfl, _⟩ := ht.open_
  rw [tdepth_mk] at hd; omega
 | m + 1 => lGot_step (lGot m)
end Go.Proofs.YtnhgfbgdoelfoaaDoor.ME
namespace Go.Proofs.YtnhgfbgdoelfoaaDoor.ME
open Go
open Go.RowKit
set_option linter.unusedVariables false
set_option linter.unusedSimpArgs false
theorem n8w (x : Int) : IntKind.i8.wrap x = (x + 128) % 256 - 128 := by simp [IntKind.wrap, IntKind.signed, IntKind.bits]; omega
theorem n16w (x : Int) : IntKind.i16.wrap x = (x + 32768) % 65536 - 32768 := by simp [IntKind.wrap, IntKind.signed, IntKind.bits]; omega
theorem n32w (x : Int) : IntKind.i32.wrap x = (x + 2147483648) % 4294967296 - 2147483648 := by simp [IntKind.wrap, IntKind.signed, IntKind.bits]; omega
theorem n64w (x : Int) : IntKind.i64.wrap x = (x + 9223372036854775808) % 18446744073709551616 - 9223372036854775808 := by simp [IntKind.wrap, IntKind.signed, IntKind.bits]; omega
theorem n64_8 (x : Int) : IntKind.i64.wrap (IntKind.i8.wrap x) = IntKind.i8.wrap x := by rw [n64w, n8w]; omega
theorem n64_16 (x : Int) : IntKind.i64.wrap (IntKind.i16.wrap x) = IntKind.i16.wrap x := by rw [n64w, n16w]; omega
theorem n64_32 (x : Int) : IntKind.i64.wrap (IntKind.i32.wrap x) = IntKind.i32.wrap x := by rw [n64w, n32w]; omega
theorem n64_u16 (x : Int) : IntKind.i64.wrap (IntKind.u16.wrap x) = IntKind.u16.wrap x := by rw [n64w, wrap_u16]; omega
def numberI (k n : Int) : Int := if k = 0 then n % 2 else if k = 1 then IntKind.i8.wrap n else if k = 2 then IntKind.i16.wrap n else if k = 3 then IntKind.i32.wrap n else if k = 5 then IntKind.u16.wrap n else n
structure UsQ (U : List Fld → Tree → Prop) (k x1 x2 x3 x4 x5 x6 : Int) (sub : List Fld) (n : Int) (s : Bs) (b : Bool) (l : List Tree) (u : List (Int × Bs)) : Prop where
 text : k = 8 → b = decide (x3 ≥ 0) ∧ s = []
 uuid : k = 7 → s = List.replicate 16 0
 octs : k = 9 ∨ k = 11 → s = [] ∧ l = []
 part : k = 10 → (x3 ≥ 0 → b = true) ∧ (x3 < 0 → U sub (.mk n s b l u))
 num : k ≠ 7 → k ≠ 8 → k ≠ 9 → k ≠ 10 → k ≠ 11 → n = numberI k x5
def UsF (U : List Fld → Tree → Prop) : Fld → Tree → Prop
 | .mk k x1 x2 x3 x4 x5 x6 sub, .mk n s b l u => UsQ U k x1 x2 x3 x4 x5 x6 sub n s b l u
def UsP (U : List Fld → Tree → Prop) (l : List Fld) (g : Tree) : Prop := g.U = [] ∧ ∀ (i : Nat) (f : Fld), l[i]? = some f → UsF U f (g.at_ i)
def UsualP : Nat → List Fld → Tree → Prop
 | 0 => UsP fun _ _ => False
 | d + 1 => UsP (UsualP d)
structure ToQ (T : List Fld → Tree → Tree → Prop) (v : Int) (f : Fld) (k x3 : Int) (sub : List Fld) (t : Tree) (tn : Int) (ts : Bs) (n : Int) (s : Bs) (b : Bool) (g : Tree) : Prop where
 null : k = 8 ∨ k = 10 ∨ (x3 ≥ 0 ∧ v ≥ x3) → b = f.nul v t
 text : f.nul v t = false → k = 8 ∨ k = 9 → s = whole ts
 uuid : f.nul v t = false → k = 7 → s = uuidB ts
 part : f.nul v t = false → k = 10 → T sub t g
 num : f.nul v t = false → k ≠ 7 → k ≠ 8 → k ≠ 9 → k ≠ 10 → k ≠ 11 → n = numberI k tn
def ToF0 (T : List Fld → Tree → Tree → Prop) (v : Int) : Fld → Tree → Tree → Prop
 | .mk k x1 x2 x3 x4 x5 x6 sub, .mk tn ts tb tl tu, .mk n s b l u => ToQ T v (.mk k x1 x2 x3 x4 x5 x6 sub) k x3 sub (.mk tn ts tb tl tu) tn ts n s b (.mk n s b l u)
def ToF (T : List Fld → Tree → Tree → Prop) (v : Int) (f : Fld) (t g : Tree) : Prop :=
 ToF0 T v f t g ∧ (f.kind = 11 → f.nul v t = false → g.L.length = (things t.L).length ∧ ∀ (i : Nat) (x y : Tree), (things t.L)[i]? = some x → g.L[i]? = some y → ToF0 T v f.elem x y)
def Fld.pres (f : Fld) (v : Int) (flex : Bool) (x : Tree) : Bool := (decide (f.tag < 0) && f.has v) || (decide (f.tag ≥ 0) && (flex && !f.usual x))
def ToP (T : List Fld → Tree → Tree → Prop) (U : List Fld → Tree → Prop) (l : List Fld) (v : Int) (flex : Bool) (t g : Tree) : Prop :=
 g.L.length = l.length ∧ (∀ (i : Nat) (f : Fld) (y : Tree), l[i]? = some f → g.L[i]? = some y → (f.pres v flex (t.at_ i) = true → ToF T v f (t.at_ i) y) ∧ (f.pres v flex (t.at_ i) = false → UsF U f y)) ∧
  g.U = (if flex = true then wholeU (unknownT l t.U) else [])
def ToldP (v : Int) (flex : Bool) : Nat → List Fld → Tree → Tree → Prop
 | 0 => fun l t g => ToP (fun _ _ _ => False) (fun _ _ => False) l v flex t g
 | d + 1 => fun l t g => ToP (ToldP v flex d) (UsualP d) l v flex t g
theorem us_one {U : List Fld → Tree → Prop} {f : Fld} {y : Tree} (h : UsF U f y) : UsP U [f] (.mk 0 [] false [y] []) := by
 refine ⟨rfl, fun i g hg => ?_⟩
 cases i with
 | zero =>
  simp only [List.getElem?_cons_zero, Option.some.injEq] at hg
  subst hg
  exact h
 | succ i => simp at hg
theorem octs_zero {w : World} {e : Nat} {A : Option Addr} {c : Nat} {F : Nat → Nat → Prop} (h : w.ownsRow 0 e 1 (.slice A 16 c) 16 (List.replicate 16 (.int .u8 0))) (hF : ∀ g, A.map (·.block) = some g → ∀ o, F g o) : Octs w F A c (List.replicate 16 0) :=
 octs_own (s := List.replicate 16 0) h (by decide) hF
section
variable {U : List Fld → Tree → Prop} {k x1 x2 x3 x4 x5 x6 n : Int} {sub : List Fld} {s : Bs} {b : Bool} {l : List Tree} {u : List (Int × Bs)}
abbrev UsH (U : List Fld → Tree → Prop) (k x1 x2 x3 x4 x5 x6 : Int) (sub : List Fld) (n : Int) (s : Bs) (b : Bool) (l : List Tree) (u : List (Int × Bs)) : Prop := UsF U (.mk k x1 x2 x3 x4 x5 x6 sub) (.mk n s b l u)
theorem us_q (h : UsH U k x1 x2 x3 x4 x5 x6 sub n s b l u) : UsQ U k x1 x2 x3 x4 x5 x6 sub n s b l u := h
theorem us_8a (h : UsH U k x1 x2 x3 x4 x5 x6 sub n s b l u) (hk : k = 8) (hc : (b != decide (x3 ≥ 0)) = true) : False := by
 have := ((us_q h).text hk).1
 rw [this] at hc; simp at hc
theorem us_8b (h : UsH U k x1 x2 x3 x4 x5 x6 sub n s b l u) (hk : k = 8) (hc : ((s.length : Nat) : Int) > 0) : False := by
 have := ((us_q h).text hk).2
 rw [this] at hc; simp at hc
theorem us_7 (h : UsH U k x1 x2 x3 x4 x5 x6 sub n s b l u) (hk : k = 7) (hc : (!decide (s = (List.replicate 16 0 : Bs))) = true) : False := by
 have := (us_q h).uuid hk
 rw [this] at hc; simp at hc
theorem us_9a (h : UsH U k x1 x2 x3 x4 x5 x6 sub n s b l u) (hk : k = 9) (hc : ((s.length : Nat) : Int) > 0) : False := by
 have := ((us_q h).octs (.inl hk)).1
 rw [this] at hc; simp at hc
theorem us_9b (h : UsH U k x1 x2 x3 x4 x5 x6 sub n s b l u) (hk : k = 9) (hc : ((l.length : Nat) : Int) > 0) : False := by
 have := ((us_q h).octs (.inl hk)).2
 rw [this] at hc; simp at hc
theorem us_11a (h : UsH U k x1 x2 x3 x4 x5 x6 sub n s b l u) (hk : k = 11) (hc : ((s.length : Nat) : Int) > 0) : False := by
 have := ((us_q h).octs (.inr hk)).1
 rw [this] at hc; simp at hc
theorem us_11b (h : UsH U k x1 x2 x3 x4 x5 x6 sub n s b l u) (hk : k = 11) (hc : ((l.length : Nat) : Int) > 0) : False := by
 have := ((us_q h).octs (.inr hk)).2
 rw [this] at hc; simp at hc
theorem us_10 (h : UsH U k x1 x2 x3 x4 x5 x6 sub n s b l u) (hk : k = 10) (h3 : x3 ≥ 0) (hc : (!b) = true) : False := by
 have := ((us_q h).part hk).1 h3
 rw [this] at hc; simp at hc
theorem us_sub (h : UsH U k x1 x2 x3 x4 x5 x6 sub n s b l u) (hk : k = 10) (h3 : x3 < 0) : U sub (.mk n s b l u) := ((us_q h).part hk).2 h3
theorem us_n (h : UsH U k x1 x2 x3 x4 x5 x6 sub n s b l u) (h7 : k ≠ 7) (h8 : k ≠ 8) (h9 : k ≠ 9) (h10 : k ≠ 10) (h11 : k ≠ 11) (hc : n ≠ numberI k x5) : False := hc ((us_q h).num h7 h8 h9 h10 h11)
theorem us_u {g : Tree} (h : g.U = []) {u : List (Int × Bs)} (e : g.U = u) (hc : ((u.length : Nat) : Int) > 0) : False := by
 rw [← e, h] at hc; simp at hc
end
section
variable {T : List Fld → Tree → Tree → Prop} {v k x1 x2 x3 x4 x5 x6 tn n : Int} {sub : List Fld} {ts s : Bs} {tb b : Bool} {tl l : List Tree} {tu u : List (Int × Bs)}
abbrev ToH (T : List Fld → Tree → Tree → Prop) (v k x1 x2 x3 x4 x5 x6 : Int) (sub : List Fld) (tn : Int) (ts : Bs) (tb : Bool) (tl : List Tree) (tu : List (Int × Bs)) (n : Int) (s : Bs) (b : Bool) (l : List Tree) (u : List (Int × Bs)) : Prop := ToF0 T v (.mk k x1 x2 x3 x4 x5 x6 sub) (.mk tn ts tb tl tu) (.mk n s b l u)
abbrev NulH (v k x1 x2 x3 x4 x5 x6 : Int) (sub : List Fld) (tn : Int) (ts : Bs) (tb : Bool) (tl : List Tree) (tu : List (Int × Bs)) : Bool := Fld.nul (.mk k x1 x2 x3 x4 x5 x6 sub) v (.mk tn ts tb tl tu)
theorem to_q (h : ToH T v k x1 x2 x3 x4 x5 x6 sub tn ts tb tl tu n s b l u) : ToQ T v (.mk k x1 x2 x3 x4 x5 x6 sub) k x3 sub (.mk tn ts tb tl tu) tn ts n s b (.mk n s b l u) := h
theorem to_n8 (h : ToH T v k x1 x2 x3 x4 x5 x6 sub tn ts tb tl tu n s b l u) (hk : k = 8) (hc : (b != NulH v k x1 x2 x3 x4 x5 x6 sub tn ts tb tl tu) = true) : False := by
 rw [(to_q h).null (.inl hk)] at hc; simp at hc
theorem to_n10 (h : ToH T v k x1 x2 x3 x4 x5 x6 sub tn ts tb tl tu n s b l u) (hk : k = 10) (hc : (b != NulH v k x1 x2 x3 x4 x5 x6 sub tn ts tb tl tu) = true) : False := by
 rw [(to_q h).null (.inr (.inl hk))] at hc; simp at hc
theorem to_nm (h : ToH T v k x1 x2 x3 x4 x5 x6 sub tn ts tb tl tu n s b l u) (h1 : x3 ≥ 0) (h2 : v ≥ x3) (hc : (b != NulH v k x1 x2 x3 x4 x5 x6 sub tn ts tb tl tu) = true) : False := by
 rw [(to_q h).null (.inr (.inr ⟨h1, h2⟩))] at hc; simp at hc
theorem to_part (h : ToH T v k x1 x2 x3 x4 x5 x6 sub tn ts tb tl tu n s b l u) (hn : NulH v k x1 x2 x3 x4 x5 x6 sub tn ts tb tl tu = false) (hk : k = 10) : T sub (.mk tn ts tb tl tu) (.mk n s b l u) := (to_q h).part hn hk
theorem to_t8 (h : ToH T v k x1 x2 x3 x4 x5 x6 sub tn ts tb tl tu n s b l u) (hn : NulH v k x1 x2 x3 x4 x5 x6 sub tn ts tb tl tu = false) (hk : k = 8) : decide (s = whole ts) = true := decide_eq_true ((to_q h).text hn (.inl hk))
theorem to_t9 (h : ToH T v k x1 x2 x3 x4 x5 x6 sub tn ts tb tl tu n s b l u) (hn : NulH v k x1 x2 x3 x4 x5 x6 sub tn ts tb tl tu = false) (hk : k = 9) : decide (s = whole ts) = true := decide_eq_true ((to_q h).text hn (.inr hk))
theorem to_u (h : ToH T v k x1 x2 x3 x4 x5 x6 sub tn ts tb tl tu n s b l u) (hn : NulH v k x1 x2 x3 x4 x5 x6 sub tn ts tb tl tu = false) (hk : k = 7) : decide (s = uuidB ts) = true := decide_eq_true ((to_q h).uuid hn hk)
theorem to_m (h : ToH T v k x1 x2 x3 x4 x5 x6 sub tn ts tb tl tu n s b l u) (hn : NulH v k x1 x2 x3 x4 x5 x6 sub tn ts tb tl tu = false) (h8 : k ≠ 8) (h9 : k ≠ 9) (h7 : k ≠ 7) (h10 : k ≠ 10) (h11 : k ≠ 11) : (n == numberI k tn) = true := by
 rw [(to_q h).num hn h7 h8 h9 h10 h11]; simp
theorem to_len {a c : Nat} (h : a = c) (hc : ((a : Nat) : Int) ≠ ((c : Nat) : Int)) : False := hc (by rw [h])
end
theorem anyC_two {P : Program} {ops : Array Oper} {Q : Exit → Act → World → Prop} {a : Act} {w : World} {T : World → Prop} {c i j fuel : Nat} {listed : Array Bool} (hr : Region.ready .any ops listed = [i, j]) (h : wpOp P ops Q i (fun a' w' => (i ≠ c → T w') ∧ wpAnyC P ops Q T c fuel (listed.setIfInBounds i true) a' w') a w)
  (h' : wpOp P ops Q j (fun a' w' => (j ≠ c → T w') ∧ wpAnyC P ops Q T c fuel (listed.setIfInBounds j true) a' w') a w) : wpAnyC P ops Q T c (fuel + 1) listed a w := by
 refine ⟨fun h0 => (by rw [hr] at h0; cases h0), fun q hq => ?_⟩
 rw [hr] at hq
 simp only [List.mem_cons, List.not_mem_nil, or_false] at hq
 rcases hq with rfl | rfl
 ·exact h
 ·exact h'
theorem pres_a {k x1 x2 x3 x4 x5 x6 v : Int} {sub : List Fld} {flex : Bool} {x : Tree} (h : x4 < 0) (h2 : Fld.has (.mk k x1 x2 x3 x4 x5 x6 sub) v = true) : Fld.pres (.mk k x1 x2 x3 x4 x5 x6 sub) v flex x = true := by
 simp [Fld.pres, Fld.tag, h, h2]
theorem pres_b {k x1 x2 x3 x4 x5 x6 v : Int} {sub : List Fld} {flex : Bool} {x : Tree} (h : x4 ≥ 0) (h2 : flex = true) (h3 : (!Fld.usual (.mk k x1 x2 x3 x4 x5 x6 sub) x) = true) : Fld.pres (.mk k x1 x2 x3 x4 x5 x6 sub) v flex x = true := by
 subst h2
 simp only [Bool.not_eq_true'] at h3
 simp [Fld.pres, Fld.tag, h, h3]
theorem pres_c {k x1 x2 x3 x4 x5 x6 v : Int} {sub : List Fld} {flex : Bool} {x : Tree} (h : x4 < 0) (h2 : Fld.has (.mk k x1 x2 x3 x4 x5 x6 sub) v = false) : Fld.pres (.mk k x1 x2 x3 x4 x5 x6 sub) v flex x = false := by
 have : ¬ x4 ≥ 0 := by omega
 simp [Fld.pres, Fld.tag, h2, this]
theorem pres_d {k x1 x2 x3 x4 x5 x6 v : Int} {sub : List Fld} {flex : Bool} {x : Tree} (h : ¬ x4 < 0) (h2 : flex = false) : Fld.pres (.mk k x1 x2 x3 x4 x5 x6 sub) v flex x = false := by
 subst h2
 simp [Fld.pres, Fld.tag, h]
theorem pres_e {k x1 x2 x3 x4 x5 x6 v : Int} {sub : List Fld} {flex : Bool} {x : Tree} (h : ¬ x4 < 0) (h3 : (!Fld.usual (.mk k x1 x2 x3 x4 x5 x6 sub) x) = false) : Fld.pres (.mk k x1 x2 x3 x4 x5 x6 sub) v flex x = false := by
 simp only [Bool.not_eq_false'] at h3
 simp [Fld.pres, Fld.tag, h, h3]
theorem pres_f {k x1 x2 x3 x4 x5 x6 v : Int} {sub : List Fld} {flex : Bool} {x : Tree} (h : ¬ x4 < 0) (h2 : flex = true) : Fld.pres (.mk k x1 x2 x3 x4 x5 x6 sub) v flex x = !Fld.usual (.mk k x1 x2 x3 x4 x5 x6 sub) x := by
 subst h2
 have : x4 ≥ 0 := by omega
 simp [Fld.pres, Fld.tag, h, this]
theorem pres_g {k x1 x2 x3 x4 x5 x6 v : Int} {sub : List Fld} {flex : Bool} {x : Tree} (h : x4 < 0) : Fld.pres (.mk k x1 x2 x3 x4 x5 x6 sub) v flex x = Fld.has (.mk k x1 x2 x3 x4 x5 x6 sub) v := by
 have : ¬ x4 ≥ 0 := by omega
 simp [Fld.pres, Fld.tag, h, this]
section
variable {w : World} {F : Nat → Nat → Prop}
theorem at_own {e size b c : Nat} {xs : List Value} {n : Nat} (h : w.ownsRow 0 e size (.slice (some ⟨b, 0, none⟩) n c) n xs) : AtF w (fun _ _ => True) b 0 xs := fun j v hj => ⟨trivial, by
 have := h.cells (g := b) rfl j v hj
 rw [add_none] at this
 exact this⟩
theorem flds_one {e b c : Nat} {cf : List Value} {f : Fld} (h : w.ownsRow 0 e 8 (.slice (some ⟨b, 0, none⟩) 1 c) 1 cf) (hf : FldR w F cf f) (hc : 1 ≤ c) : FldsR w (fun _ _ => True) (some ⟨b, 0, none⟩) c [f] := by
 refine ⟨fun _ => cf, ⟨hc, (by show 1 ≤ 1099511627776; decide), fun h => (by cases h), fun ad hA _ => ?_⟩, fun i x hx => ?_⟩
 ·obtain rfl := Option.some.inj hA
  refine ⟨b, 0, rfl, fun i hi => ⟨hf.eight, ?_⟩⟩
  have : i = 0 := by simp at hi; omega
  subst this
  simpa using at_own h
 ·cases i with
  | zero =>
   simp only [List.getElem?_cons_zero, Option.some.injEq] at hx
   subst hx
   exact hf.move (Step.refl _ Nil) nilM fun _ _ _ _ => trivial
  | succ i => simp at hx
theorem tree_one {e b c : Nat} {cy : List Value} {y : Tree} (h : w.ownsRow 0 e 5 (.slice (some ⟨b, 0, none⟩) 1 c) 1 cy) (hy : TreeR w F cy y) (hc : 1 ≤ c) : TreeR w (fun _ _ => True) [.int .i64 0, .slice none 0 0, .bool false, .slice (some ⟨b, 0, none⟩) 1 c, .slice none 0 0] (.mk 0 [] false [y] []) := by
 refine TreeR.mk (l := [y]) (s := []) (u := []) (fun _ => cy) (Octs.nil _ _) ⟨hc, (by show 1 ≤ 1099511627776; decide), fun h => (by cases h), fun ad hA _ => ?_⟩ (fun i x hx => ?_) (TagsR.nil _ _)
 ·obtain rfl := Option.some.inj hA
  refine ⟨b, 0, rfl, fun i hi => ⟨hy.five, ?_⟩⟩
  have : i = 0 := by simp at hi; omega
  subst this
  simpa using at_own h
 ·cases i with
  | zero =>
   simp only [List.getElem?_cons_zero, Option.some.injEq] at hx
   subst hx
   exact hy.move (Step.refl _ Nil) nilM fun _ _ _ _ => trivial
  | succ i => simp at hx
end
section
variable {gu tu : List (Int × Bs)} {l : List Fld} {flex : Bool} {i : Nat} {k k' : Int} {s s' : Bs}
theorem told_len (h : gu = if flex = true then wholeU (unknownT l tu) else []) (hf : (!flex) = false) (hc : ((gu.length : Nat) : Int) ≠ (((unknownT l tu).length : Nat) : Int)) : False := by
 cases flex
 ·cases hf
 ·rw [if_pos rfl] at h
  rw [h, wholeU_len] at hc
  exact hc rfl
theorem told_len0 (h : gu = if flex = true then wholeU (unknownT l tu) else []) (hf : (!flex) = true) (hc : ((gu.length : Nat) : Int) ≠ 0) : False := by
 cases flex
 ·rw [if_neg (by decide)] at h
  rw [h] at hc
  exact hc rfl
 ·cases hf
theorem told_at (h : gu = if flex = true then wholeU (unknownT l tu) else []) (hf : (!flex) = false) (hu : (unknownT l tu)[i]? = some (k, s)) (hg : gu[i]? = some (k', s')) : k' = k ∧ s' = whole s := by
 cases flex
 ·cases hf
 ·rw [if_pos rfl] at h
  rw [h, wholeU_get hu] at hg
  have := Option.some.inj hg
  exact ⟨(Prod.mk.injEq .. ▸ this).1.symm, (Prod.mk.injEq .. ▸ this).2.symm⟩
theorem told_key (h : gu = if flex = true then wholeU (unknownT l tu) else []) (hf : (!flex) = false) (hu : (unknownT l tu)[i]? = some (k, s)) (hg : gu[i]? = some (k', s')) (hc : k' ≠ k) : False := hc (told_at h hf hu hg).1
theorem told_val (h : gu = if flex = true then wholeU (unknownT l tu) else []) (hf : (!flex) = false) (hu : (unknownT l tu)[i]? = some (k, s)) (hg : gu[i]? = some (k', s')) (hc : (!decide (s' = whole s)) = true) : False := by
 rw [(told_at h hf hu hg).2] at hc; simp at hc
theorem told_idx (h : gu = if flex = true then wholeU (unknownT l tu) else []) (hf : (!flex) = false) : gu.length = (unknownT l tu).length := by
 cases flex
 ·cases hf
 ·rw [if_pos rfl] at h
  rw [h, wholeU_len]
end
end Go.Proofs.YtnhgfbgdoelfoaaDoor.ME
namespace Go.Proofs.YtnhgfbgdoelfoaaDoor.ME
open Go
open Go.RowKit
set_option linter.unusedVariables false
set_option linter.unusedSimpArgs false
set_option maxRecDepth 20000
def trSASLHandshakeRequest (D : DV) : Tree := .mk 0 [] false [.mk 0 (sb (D.f 0).s) false [] []] []
set_option maxHeartbeats 4000000 in
theorem tlSASLHandshakeRequest (v : Int) (D : DV) (b o : Nat) (w : World) (F : Nat → Nat → Prop) (hat : AtF w F b o [.int .i16 v, .string ((D.f 0).s)]) (hok : okSASLHandshakeRequest w F D) : Calls Tryd.prog 41 #[.pointer (some ⟨b, o, none⟩)] w (GivesT w F (trSASLHandshakeRequest D)) := by
 refine enter (n := 16) Tryd.func41 rfl Tryd.ntmps41 kz fun a hE => ?_
 have hW : WOk w Nil w [⟨b, o, [.int .i16 v, .string ((D.f 0).s)], false⟩] [] := (WOk.start w Nil).start1 hat rfl rfl
 unfold okSASLHandshakeRequest at hok
 obtain ⟨g1, _⟩ := hok
 have hE0 := (EnvOk.ptr0 (cs := [.int .i16 v, .string ((D.f 0).s)]) (r := false) hE).pk (env' := [(0, .p 0 0)])
 refine go_seq_region [0] kz ?_
 refine of_op (wpOp_alloc hW hE0 (d := 2) (cs := [.int .i64 0, .slice none 0 0, .bool false, .slice none 0 0, .slice none 0 0]) kz fun b2 a3 w4 hb5 hz6 hF7 hW8 hE9 => ?_)
 clear hE0 hW
 refine wpOps_nil (then_normal ?_)
 refine go_seq_region [0, 1, 2, 3] kz ?_
 refine of_op (wpOp_makeZ (t := 39) (e := 42) (size := 5) (bytes := 88) (d := 4) (j := 1) (.agg #[.int .i64 0, .slice none 0 0, .bool false, .slice none 0 0, .slice none 0 0]) [.int .i64 0, .slice none 0 0, .bool false, .slice none 0 0, .slice none 0 0] hW8 hE9 fun aa aT aU aJ aK aL ab ag => ?_)
 clear hE9 hW8
 refine go_rn [1] [2, 3] [(0, .p 0 0), (2, .p 1 0), (5, .v (.agg #[.int .i64 0, .slice none 0 0, .bool false, .slice (some ⟨aa, 0, none⟩) 1 1, .slice none 0 0]))] ab ag fun aV ah => ?_
 clear ag
 refine of_op (wpOp_alloc ab ah (d := 3) (cs := [.int .i64 0, .slice none 0 0, .bool false, .slice none 0 0, .slice none 0 0]) kz fun aM aW aX aN aO aP ai aj => ?_)
 clear ah ab
 refine of_op (wpOp_store ai aj (oi := 3) (cs := [.int .i64 0, .slice none 0 0, .bool false, .slice (some ⟨aa, 0, none⟩) 1 1, .slice none 0 0]) kz fun aY aQ ak al => ?_)
 clear aj ai
 refine wpOps_nil (then_normal ?_)
 refine go_seq_drawK 9 kz ak fun aZ aR aD aE => ?_
 clear ak
 refine go_rnD [0, 1, 2, 3, 4, 5] [(2, .p 1 0), (3, .p 3 0), (7, .v (.slice (some ⟨aa, 0, none⟩) 1 1)), (11, .v (.string ((D.f 0).s)))] 4 (panicFree_then panicFree_body) (fun _ h => h.cells) aE al fun ba am => ?_
 clear al
 refine anyC_op (i := 6) kz (wpOp_bytes (d := 12) (src := 9) (dst := 22) (e := 5) (s := ((D.f 0).s)) aD am (by omega) fun ao ap bd bf aF ac aG ar => ?_)
 clear am
 have aH := aG F
 have ae := TT.ofW aF ac
 refine ⟨fun _ => ae, ?_⟩
 refine go_rnD [7] [(2, .p 1 0), (3, .p 3 0), (7, .v (.slice (some ⟨aa, 0, none⟩) 1 1)), (13, .v (.agg #[.int .i64 0, .slice (some ⟨ao, 0, none⟩) ((sb ((D.f 0).s)).length) ap, .bool false, .slice none 0 0, .slice none 0 0]))] 2 (panicFree_then panicFree_body) (fun _ h => h.cells) ae ar fun bg au => ?_
 clear ar
 refine takeC_index au (i := 8) (t := 39) (A := (some ⟨aa, 0, none⟩)) (m := 1) (q := 0) (d := 14) kz (e := 42) (size := 5) (bytes := 88) (j := 0) kz (b := aa) (o := 0) rfl rfl (by decide) kz kz (panicFree_then panicFree_body) ae fun bh av => ?_
 clear au
 have aw := av.recast 14 (.v (.pointer (some ⟨aa, 0 + 0 * 5, none⟩))) (.p 2 0) rfl rfl (Nat.le_of_ble_eq_true (n := 3) rfl)
 clear av
 have ax := aw.pk (env' := [(2, .p 1 0), (3, .p 3 0), (7, .v (.slice (some ⟨aa, 0, none⟩) 1 1)), (13, .v (.agg #[.int .i64 0, .slice (some ⟨ao, 0, none⟩) ((sb ((D.f 0).s)).length) ap, .bool false, .slice none 0 0, .slice none 0 0])), (14, .p 2 0)])
 clear aw
 refine anyC_op (i := 9) kz (wpOp_store ac ax (oi := 2) (cs := [.int .i64 0, .slice (some ⟨ao, 0, none⟩) ((sb ((D.f 0).s)).length) ap, .bool false, .slice none 0 0, .slice none 0 0]) kz fun bi ay af az => ?_)
 clear ax ac
 refine ⟨fun h => absurd rfl h, ?_⟩
 refine anyC_done kz ?_ _
 refine then_normal ?_
 refine go_seq_region [0, 1] kz ?_
 refine go_rn [0] [1] [(2, .p 1 0), (15, .v (.agg #[.int .i64 0, .slice none 0 0, .bool false, .slice (some ⟨aa, 0, none⟩) 1 1, .slice none 0 0]))] af az fun bj aA => ?_
 clear az
 refine of_op (wpOp_store af aA (oi := 1) (cs := [.int .i64 0, .slice none 0 0, .bool false, .slice (some ⟨aa, 0, none⟩) 1 1, .slice none 0 0]) kz fun aS aB aC aI => ?_)
 clear aA af
 refine wpOps_nil (then_normal ?_)
 refine wp_ret ?_
 refine leave aI aC.cells (v := .agg #[.int .i64 0, .slice none 0 0, .bool false, .slice (some ⟨aa, 0, none⟩) 1 1, .slice none 0 0]) kz ?_
 exact tell_end (u := []) (l := [.mk 0 (sb (D.f 0).s) false [] []]) (css := [[.int .i64 0, .slice (some ⟨ao, 0, none⟩) ((sb ((D.f 0).s)).length) ap, .bool false, .slice none 0 0, .slice none 0 0]]) aC 2 rfl ⟨(show TreeR _ (Imm F w aS [⟨b, o, [.int .i16 v, .string ((D.f 0).s)], false⟩, ⟨b2, 0, [.int .i64 0, .slice none 0 0, .bool false, .slice (some ⟨aa, 0, none⟩) 1 1, .slice none 0 0], true⟩, ⟨aa, 0, [.int .i64 0, .slice (some ⟨ao, 0, none⟩) ((sb ((D.f 0).s)).length) ap, .bool false, .slice none 0 0, .slice none 0 0], true⟩, ⟨aM, 0, [.int .i64 0, .slice none 0 0, .bool false, .slice (some ⟨aa, 0, none⟩) 1 1, .slice none 0 0], true⟩] []) _ _ from (TreeR.mk (n := 0) (b := false) (s := (sb ((D.f 0).s))) (l := []) (u := []) (fun _ => []) (aH.move (ay.trans aB).step immM (ay.trans aB).to') (Slots.nil _ _ _ _) (fun i_ x_ h_ => by simp at h_) (TagsR.nil _ _))).move (Step.refl _ Nil) nilM immOut, trivial⟩ (TagsR.nil _ _)
end Go.Proofs.YtnhgfbgdoelfoaaDoor.ME
namespace Go.Proofs.YtnhgfbgdoelfoaaDoor.ME
open Go
set_option linter.unusedVariables false
set_option linter.unusedSimpArgs false
theorem pres_has {k x1 x2 x3 x5 x6 v : Int} {s : List Fld} {flex : Bool} {x : Tree} : Fld.pres (.mk k x1 x2 x3 (-1) x5 x6 s) v flex x = (decide (x1 ≤ v) && (decide (x2 < 0) || decide (v ≤ x2))) := by simp [Fld.pres, Fld.tag, Fld.has]
section
variable {T : List Fld → Tree → Tree → Prop} {U : List Fld → Tree → Prop} {v k x1 x2 x3 x4 x5 x6 n : Int} {sub : List Fld} {x T' : Tree} {A : Option Addr} {s : ByteArray} {o : Bs} {b : Bool}
theorem to0_text (hs : o = whole x.S) : ToF0 T v (.mk 8 x1 x2 (-1) x4 x5 x6 sub) x (.mk 0 o false [] []) := by
 cases x with
 | mk a1 a2 a3 a4 a5 =>
  exact ⟨fun _ => nul_no.symm, fun _ _ => hs, fun _ h => by omega, fun _ h => by omega, fun _ _ h => absurd rfl h⟩
theorem to_text (h : s = bs T'.S) (h1 : T'.S = whole x.S) : ToF T v (.mk 8 x1 x2 (-1) x4 x5 x6 sub) x (.mk 0 (sb s) false [] []) :=
 ⟨to0_text (by rw [h, sb_bs, h1]), fun h => absurd (show (8 : Int) = 11 from h) (by decide)⟩
end
end Go.Proofs.YtnhgfbgdoelfoaaDoor.ME
namespace Go.Proofs.YtnhgfbgdoelfoaaDoor.ME
open Go
open Go.RowKit
set_option linter.unusedVariables false
set_option linter.unusedSimpArgs false
set_option maxRecDepth 20000
theorem toldSASLHandshakeRequest (v : Int) (h0 : 0 ≤ v) (t Y : Tree) (hY : ∀ i, Y.at_ i = (fitT v 8 sSASLHandshakeRequestF t).at_ i) (hU : Y.U = (fitT v 8 sSASLHandshakeRequestF t).U) (hi : t.i64s) (D : DV) (h : rvSASLHandshakeRequest v D Y) : ToldP v false 8 sSASLHandshakeRequestF t (trSASLHandshakeRequest D) := by
 unfold rvSASLHandshakeRequest at h
 obtain ⟨r0, _⟩ := h
 refine ⟨rfl, fun i f y hf hy => ?_, ?_⟩
 ·match i, hf, hy with
  | 0, hf, hy =>
   obtain rfl := Option.some.inj hf
   obtain rfl := Option.some.inj hy
   have e := hY 0
   refine ⟨fun hp => ?_, fun hp => ?_⟩
   ·have hc : True := trivial
    have r := r0
    rw [e] at r
    exact to_text r (fit_t (v := v) (d := 7) (t := t) (show sSASLHandshakeRequestF[0]? = _ from rfl) (by decide))
   ·rw [pres_has] at hp; simp at hp; omega
  | n_ + 1, hf, hy => exact absurd (List.getElem?_eq_some_iff.1 hf).1 (by show ¬ n_ + 1 < 1; omega)
 ·show [] = if false = true then _ else []
  rfl
set_option maxHeartbeats 4000000 in
theorem tzSASLHandshakeRequest (v : Int) (T : Tree) {A2 : Option Addr} {c2 : Nat} {w : World} {F : Nat → Nat → Prop} (hs_ : Octs w F A2 c2 (tSASLHandshakeRequest (IntKind.i16.wrap v) T)) (hc : canSASLHandshakeRequest T) (hkey : T.ranged) (hroom : (tSASLHandshakeRequest (IntKind.i16.wrap v) T).length + 16 ≤ 1099511627776) :
  Calls Tryd.prog 17 #[.int .i64 v, .slice A2 (tSASLHandshakeRequest (IntKind.i16.wrap v) T).length c2] w (fun e w' => ∃ D cs, e = .returned (.tuple #[.agg cs.toArray, .bool true]) ∧ TreeR w' (Fp NoF w) cs (trSASLHandshakeRequest D) ∧ rvSASLHandshakeRequest (IntKind.i16.wrap v) D T ∧ Step w w' Nil) := by
 refine enter (n := 20) Tryd.func17 rfl Tryd.ntmps17 kz fun a hE => ?_
 have hW := WOk.start w Nil
 have hsm2 := Slots.small hs_
 refine go_seq_region [0, 1] kz ?_
 refine of_op (wpOp_alloc hW hE (d := 4) (cs := [.int .i64 0, .slice none 0 0, .bool false, .slice none 0 0, .slice none 0 0]) kz fun b1 a2 w3 hb4 hz5 hF6 hW7 hE8 => ?_)
 clear hE hW
 refine go_rn [1] [] [(0, .v (.int .i64 v)), (1, .v (.slice A2 ((tSASLHandshakeRequest (IntKind.i16.wrap v) T).length) c2)), (4, .p 0 0)] hW7 hE8 fun a9 bu => ?_
 clear hE8
 refine wpOps_nil (then_normal ?_)
 refine go_seq_region [0, 1] kz ?_
 refine of_op (wpOp_inline bu (f := 37) (vs := []) (d := 7) (n' := 3) kz Tryd.call37 Tryd.func37 rfl Tryd.ntmps37 kz fun cI aN => ?_)
 refine go_sp [] hW7 aN fun cJ aO => ?_
 clear aN
 refine go_seq_region [0] kz ?_
 refine of_op (wpOp_alloc hW7 aO (d := 1) (cs := [.int .i16 0, .string ByteArray.empty]) kz fun aa cK cL ce cm cq ab bw => ?_)
 clear aO hW7
 refine wpOps_nil (then_normal ?_)
 refine go_seq_region [0] kz ?_
 refine of_op (wpOp_inline bw (f := 73) (vs := [.pointer (some ⟨aa, 0, none⟩)]) (d := 2) (n' := 2) kz Tryd.call73 Tryd.func73 rfl Tryd.ntmps73 kz fun cM bx => ?_)
 have bz := bx.recast 0 (.v (.pointer (some ⟨aa, 0, none⟩))) (.p 1 0) rfl rfl (Nat.le_of_ble_eq_true (n := 2) rfl)
 refine wp_skip ?_
 refine leave_end bz ab.cells (v := .tuple #[]) kz ?_
 refine ⟨_, rfl, fun cN bA => ?_⟩
 have aP : EnvOk 3 [⟨b1, 0, [.int .i64 0, .slice none 0 0, .bool false, .slice none 0 0, .slice none 0 0], true⟩, ⟨aa, 0, [.int .i16 0, .string ByteArray.empty], true⟩] [(2, .v (.tuple #[])), (1, .p 1 0)] _ := bA.places (⟨rfl, rfl, ⟨rfl, rfl, trivial⟩⟩)
 refine wpOps_nil (then_normal ?_)
 refine go_sp [(0, .p 1 0)] ab aP fun cO bB => ?_
 clear aP
 refine wp_ret ?_
 refine leave bB ab.cells (v := .pointer (some ⟨aa, 0, none⟩)) kz ?_
 refine ⟨_, rfl, fun cP bC => ?_⟩
 have aQ : EnvOk 20 [⟨b1, 0, [.int .i64 0, .slice none 0 0, .bool false, .slice none 0 0, .slice none 0 0], true⟩, ⟨aa, 0, [.int .i16 0, .string ByteArray.empty], true⟩] [(7, .v (.pointer (some ⟨aa, 0, none⟩))), (0, .v (.int .i64 v)), (1, .v (.slice A2 ((tSASLHandshakeRequest (IntKind.i16.wrap v) T).length) c2)), (4, .p 0 0)] _ := bC.places (⟨rfl, rfl, trivial⟩)
 have aR := aQ.recast 7 (.v (.pointer (some ⟨aa, 0, none⟩))) (.p 1 0) rfl rfl (Nat.le_of_ble_eq_true (n := 2) rfl)
 have aS := aR.pick (ks := [0, 1, 4, 7]) (env' := [(0, .v (.int .i64 v)), (1, .v (.slice A2 ((tSASLHandshakeRequest (IntKind.i16.wrap v) T).length) c2)), (4, .p 0 0), (7, .p 1 0)]) kz
 clear aQ
 clear aR
 refine go_rn [1] [] [(0, .v (.int .i64 v)), (1, .v (.slice A2 ((tSASLHandshakeRequest (IntKind.i16.wrap v) T).length) c2)), (4, .p 0 0), (6, .p 1 0)] ab aS fun cQ aT => ?_
 clear aS
 refine wpOps_nil (then_normal ?_)
 refine go_seq_region [0, 1, 2, 3] kz ?_
 refine go_rn [0, 1, 2] [3] [(1, .v (.slice A2 ((tSASLHandshakeRequest (IntKind.i16.wrap v) T).length) c2)), (4, .p 0 0), (6, .p 1 0), (8, .p 1 0), (10, .v (.int .i16 (IntKind.i16.wrap v)))] ab aT fun cR bD => ?_
 clear aT
 refine of_op (wpOp_inline bD (f := 39) (vs := [.pointer (some ⟨aa, 0, none⟩), .int .i16 (IntKind.i16.wrap v)]) (d := 11) (n' := 8) kz Tryd.call39 Tryd.func39 rfl Tryd.ntmps39 kz fun cS bE => ?_)
 have aU := bE.recast 0 (.v (.pointer (some ⟨aa, 0, none⟩))) (.p 1 0) rfl rfl (Nat.le_of_ble_eq_true (n := 2) rfl)
 refine go_region [0, 1, 2, 3, 4] kz ?_
 refine go_rn [0, 1, 2, 3] [4] [(5, .v (.int .i16 (IntKind.i16.wrap v))), (7, .p 1 0)] ab aU fun cT aV => ?_
 clear aU
 refine of_op (wpOp_store ab aV (oi := 1) (cs := [.int .i16 (IntKind.i16.wrap v), .string ByteArray.empty]) kz fun cU cr ah bF => ?_)
 clear aV ab
 refine wpOps_nil ?_
 refine leave_end bF ah.cells (v := .tuple #[]) kz ?_
 refine ⟨_, rfl, fun cV bG => ?_⟩
 have aW : EnvOk 20 [⟨b1, 0, [.int .i64 0, .slice none 0 0, .bool false, .slice none 0 0, .slice none 0 0], true⟩, ⟨aa, 0, [.int .i16 (IntKind.i16.wrap v), .string ByteArray.empty], true⟩] [(11, .v (.tuple #[])), (1, .v (.slice A2 ((tSASLHandshakeRequest (IntKind.i16.wrap v) T).length) c2)), (4, .p 0 0), (6, .p 1 0), (8, .p 1 0), (10, .v (.int .i16 (IntKind.i16.wrap v)))] _ := bG.places (⟨rfl, rfl, ⟨rfl, rfl, trivial⟩⟩)
 refine wpOps_nil (then_normal ?_)
 refine wp_seq ?_
 refine go_seq_region [0, 1, 2, 3, 4] kz ?_
 refine go_rn [0, 1] [2, 3, 4] [(4, .p 0 0), (6, .p 1 0), (12, .p 1 0), (13, .v (.slice A2 ((tSASLHandshakeRequest (IntKind.i16.wrap v) T).length) c2))] ah aW fun cW aX => ?_
 clear aW
 have ac := ah.addNil 5 1
 have cu := ah.frNil 5 1
 clear ah
 refine of_op (wpOp_append ac aX (k := 0) (d := 14) (t := 22) (e := 5) (size := 1) (bytes := 1) (A := none) (As := A2) (m0 := 0) (c := 0) (m := ((tSASLHandshakeRequest (IntKind.i16.wrap v) T).length)) (cs := c2) (xs := []) (news := bc (tSASLHandshakeRequest (IntKind.i16.wrap v) T)) kz kz rfl (hs_.move ac.step nilM ac.imm).src (hs_.move ac.step nilM ac.imm).cap (by first | omega | (simp only [List.length_nil]; omega) | (simp; omega)) fun af ag cX cY cw aY aZ => ?_)
 clear aX ac
 have bH : (⟨af, ag, 5, 1, 0 + (tSASLHandshakeRequest (IntKind.i16.wrap v) T).length, [] ++ bc (tSASLHandshakeRequest (IntKind.i16.wrap v) T)⟩ : Rw) = brow af ag 5 (tSASLHandshakeRequest (IntKind.i16.wrap v) T) := by rw [List.nil_append, Nat.zero_add]
 obtain ⟨ao, cz⟩ := aY.rowEq 0 [brow af ag 5 (tSASLHandshakeRequest (IntKind.i16.wrap v) T)] bH
 clear aY
 have ba := EnvOk.pick aZ (ks := [4, 6, 12, 13, 14]) (env' := [(4, .p 0 0), (6, .p 1 0), (12, .p 1 0), (13, .v (.slice A2 ((tSASLHandshakeRequest (IntKind.i16.wrap v) T).length) c2)), (14, .v (.slice af (0 + (tSASLHandshakeRequest (IntKind.i16.wrap v) T).length) ag))]) kz
 have bI := ba.cast (env' := [(4, .p 0 0), (6, .p 1 0), (12, .p 1 0), (13, .v (.slice A2 ((tSASLHandshakeRequest (IntKind.i16.wrap v) T).length) c2)), (14, .v (.slice af ((tSASLHandshakeRequest (IntKind.i16.wrap v) T).length) ag))]) (by simp only [List.length_append, List.length_cons, List.length_nil, Nat.zero_add])
 clear aZ
 clear ba
 refine of_op (wpOp_inline bI (f := 40) (vs := [.pointer (some ⟨aa, 0, none⟩), .slice af ((tSASLHandshakeRequest (IntKind.i16.wrap v) T).length) ag]) (d := 15) (n' := 8) kz Tryd.call40 Tryd.func40 rfl Tryd.ntmps40 kz fun cZ bJ => ?_)
 have bd := bJ.recast 0 (.v (.pointer (some ⟨aa, 0, none⟩))) (.p 1 0) rfl rfl (Nat.le_of_ble_eq_true (n := 2) rfl)
 refine go_sp [(0, .p 1 0), (1, .v (.slice af ((tSASLHandshakeRequest (IntKind.i16.wrap v) T).length) ag))] ao bd fun c5 bf => ?_
 clear bd
 refine go_seq_region [0, 1, 2, 3] kz ?_
 refine go_rn [0, 1] [2, 3] [(5, .p 1 0), (6, .v (.slice af ((tSASLHandshakeRequest (IntKind.i16.wrap v) T).length) ag))] ao bf fun da bg => ?_
 clear bf
 have bK := ao.giveUp (G := NoF) 0 [] (show _ = some (brow af ag 5 (tSASLHandshakeRequest (IntKind.i16.wrap v) T)) from rfl) (by omega)
 obtain ⟨bh, cA⟩ := ao.cutR 0 []
 refine of_op (wpOp_call bg (f := 74) (vs := [.pointer (some ⟨aa, 0, none⟩), .slice af ((tSASLHandshakeRequest (IntKind.i16.wrap v) T).length) ag, .bool false]) (d := 7) kz Tryd.call74 (rdSASLHandshakeRequest (IntKind.i16.wrap v) T (Str.of bh 1 rfl) bK (imm_n 1 rfl) hc hkey) ?_)
 rintro e_ db ⟨az, rfl, bL, bM, bN, bi⟩
 obtain ⟨ae, cB, bO⟩ := bh.wrote 1 [⟨b1, 0, [.int .i64 0, .slice none 0 0, .bool false, .slice none 0 0, .slice none 0 0], true⟩, ⟨aa, 0, [.int .i16 (IntKind.i16.wrap v), .string ((az.f 0).s)], true⟩] rfl bi bL
 have bP := mvSASLHandshakeRequest _ (Step.refl _ Nil) nilM bO bM
 refine ⟨_, rfl, fun dc bQ => ?_⟩
 have bj := (EnvOk.places (tb' := [⟨b1, 0, [.int .i64 0, .slice none 0 0, .bool false, .slice none 0 0, .slice none 0 0], true⟩, ⟨aa, 0, [.int .i16 (IntKind.i16.wrap v), .string ((az.f 0).s)], true⟩]) bQ (show Pl [⟨b1, 0, [.int .i64 0, .slice none 0 0, .bool false, .slice none 0 0, .slice none 0 0], true⟩, ⟨aa, 0, [.int .i16 (IntKind.i16.wrap v), .string ByteArray.empty], true⟩] [⟨b1, 0, [.int .i64 0, .slice none 0 0, .bool false, .slice none 0 0, .slice none 0 0], true⟩, ⟨aa, 0, [.int .i16 (IntKind.i16.wrap v), .string ((az.f 0).s)], true⟩] from ⟨rfl, rfl, ⟨rfl, rfl, trivial⟩⟩)).pk (env' := [(7, .v (.nilIface)), (5, .p 1 0), (6, .v (.slice af ((tSASLHandshakeRequest (IntKind.i16.wrap v) T).length) ag))])
 clear bg
 refine go_rn [3] [] [(4, .v (.nilIface))] ae bj fun de bR => ?_
 clear bj
 refine wpOps_nil (then_normal ?_)
 refine wp_ret ?_
 refine leave bR ae.cells (v := .nilIface) kz ?_
 refine ⟨_, rfl, fun df bS => ?_⟩
 have bk : EnvOk 20 [⟨b1, 0, [.int .i64 0, .slice none 0 0, .bool false, .slice none 0 0, .slice none 0 0], true⟩, ⟨aa, 0, [.int .i16 (IntKind.i16.wrap v), .string ((az.f 0).s)], true⟩] [(15, .v (.nilIface)), (4, .p 0 0), (6, .p 1 0), (12, .p 1 0), (13, .v (.slice A2 ((tSASLHandshakeRequest (IntKind.i16.wrap v) T).length) c2)), (14, .v (.slice af ((tSASLHandshakeRequest (IntKind.i16.wrap v) T).length) ag))] _ := bS.places (⟨rfl, rfl, ⟨rfl, rfl, trivial⟩⟩)
 refine go_rn [4] [] [(4, .p 0 0), (6, .p 1 0), (16, .v (.bool false))] ae bk fun dg aA => ?_
 clear bk
 refine wpOps_nil (then_normal ?_)
 refine cond_false aA (b := false) kz rfl ?_
 refine wp_skip ?_
 refine then_normal ?_
 refine go_seq_region [0, 1, 2, 3] kz ?_
 refine go_rn [0] [1, 2, 3] [(4, .p 0 0), (18, .p 1 0)] ae aA fun dh bn => ?_
 clear aA
 have ap := bn.recast 18 (.p 1 0) (.v (.pointer (some ⟨aa, 0, none⟩))) rfl rfl trivial
 have bo := ap.pk (env' := [(4, .p 0 0), (18, .v (.pointer (some ⟨aa, 0, none⟩)))])
 clear bn ap
 have aB := WOk.strOut (G := NoF) [⟨b1, 0, [.int .i64 0, .slice none 0 0, .bool false, .slice none 0 0, .slice none 0 0], true⟩] ae
 obtain ⟨ar, ai, au⟩ := ae.cutB bo 1 [⟨b1, 0, [.int .i64 0, .slice none 0 0, .bool false, .slice none 0 0, .slice none 0 0], true⟩] [(4, .p 0 0), (18, .v (.pointer (some ⟨aa, 0, none⟩)))]
 have bp := mvSASLHandshakeRequest _ au.step immM au.to' bP
 refine of_op (wpOp_call ar (f := 41) (vs := [.pointer (some ⟨aa, 0, none⟩)]) (d := 19) kz Tryd.call41 (tlSASLHandshakeRequest (IntKind.i16.wrap v) az aa 0 _ _ aB bp) ?_)
 rintro e_ cC ⟨bY, rfl, bq, aj⟩
 have ak := bq.move (Step.refl _ Nil) nilM (ai.laid (G := NoF) aj)
 obtain ⟨aC, aD, aE, aF, aG, aH, aI, aJ, aK, aL, aM, bZ, b8, al, bT, bU, cD, cE⟩ := ak.open_
 rw [al] at ak
 have bV := bT.small
 have bW := bU.small
 rw [al]
 refine ⟨_, rfl, fun cG av => ?_⟩
 have aw := ai.next_nil aj
 have cd := ai.frN aj
 clear ar
 refine of_op (wpOp_store aw av (oi := 0) (cs := [.int .i64 aC, .slice aH aD.length aI, .bool aE, .slice aJ aF.length aK, .slice aL aG.length aM]) kz fun bX ax am ay => ?_)
 clear av aw
 refine go_rn [3] [] [(4, .p 0 0), (5, .v (.bool true))] am ay fun cH bt => ?_
 clear ay
 refine wpOps_nil (then_normal ?_)
 refine wp_ret ?_
 refine leave bt am.cells (v := .tuple #[.agg #[.int .i64 aC, .slice aH aD.length aI, .bool aE, .slice aJ aF.length aK, .slice aL aG.length aM], .bool true]) kz ?_
 exact ⟨az, _, rfl, (show TreeR _ (Imm NoF w bX [⟨b1, 0, [.int .i64 aC, .slice aH aD.length aI, .bool aE, .slice aJ aF.length aK, .slice aL aG.length aM], true⟩] []) _ (trSASLHandshakeRequest az) from (ak.move ax.step immM ax.to')).move (Step.refl _ Nil) nilM immOut, bN, am.step⟩
theorem tegSASLHandshakeRequest (v : Int) (T : Tree) (B : Bs) {A2 : Option Addr} {c2 : Nat} {w : World} {F : Nat → Nat → Prop} (hB : tSASLHandshakeRequest (IntKind.i16.wrap v) T = B) (hs_ : Octs w F A2 c2 B) (hc : canSASLHandshakeRequest T) (hkey : T.ranged) (hroom : B.length + 16 ≤ 1099511627776) :
  Calls Tryd.prog 17 #[.int .i64 v, .slice A2 B.length c2] w (fun e w' => ∃ D cs, e = .returned (.tuple #[.agg cs.toArray, .bool true]) ∧ TreeR w' (Fp NoF w) cs (trSASLHandshakeRequest D) ∧ rvSASLHandshakeRequest (IntKind.i16.wrap v) D T ∧ Step w w' Nil) := by
 subst hB
 exact tzSASLHandshakeRequest v T hs_ hc hkey hroom
end Go.Proofs.YtnhgfbgdoelfoaaDoor.ME