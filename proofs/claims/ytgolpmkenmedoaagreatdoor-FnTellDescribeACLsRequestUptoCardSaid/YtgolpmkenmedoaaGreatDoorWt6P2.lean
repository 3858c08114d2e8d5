/- The texts of a claim, put together: the engine, the contracts, the law. Own work. -/
import Derived.Test.YtgolpmkenmedoaaGreatDoorWt6P1
import Derived.Lib.EndianBits
import Derived.Scope
import Derived.Deep.LoopGhost
import Derived.Test.YtgolpmkenmedoaaGreatDoorProg
namespace Go.Proofs.YtgolpmkenmedoaaGreatDoor.ME
open Go
set_option linter.unusedVariables false
set_option linter.unusedSimpArgs false
set_option maxRecDepth 20000
theorem sPart (W : Fld → Tree → Bs) (A : Option Addr) (c : Nat) (l : List Fld) (v : Int) (flex : Bool) (ct : List Value) (t : Tree) (w : World) (F : Nat → Nat → Prop) (hW_ : ∀ cf f ct t w F, f ∈ l → FldR w F cf f → TreeR w F ct t → (W f t).length ≤ 1099511627776 → Calls Tryz.prog 125 #[.agg cf.toArray, .int .i64 v, .bool flex, .agg ct.toArray] w (FreshB w 5 (W f t))) (hl : FldsR w F A c l) (ht : TreeR w F ct t) (hroom : (partW W l v flex t).length ≤ 1099511627776) :
  Calls Tryz.prog 56 #[.slice A l.length c, .int .i64 v, .bool flex, .agg ct.toArray] w (FreshB w 5 (partW W l v flex t)) := by
 obtain ⟨xfs, h1, h2⟩ := hl.ex
 have hsm := h1.small
 obtain ⟨n1, s2, b3, l4, u5, A6, c7, A8, c9, aV, aW, lY, rfl, rfl, lZ, l0, o5, l3⟩ := ht.open_
 have la := lZ.small
 have lb := l0.small
 have hkr := known_range l
 refine enter (n := 132) Tryz.func56 rfl Tryz.ntmps56 kz fun a hE => ?_
 have hW := WOk.start w Nil
 refine go_seq_region [0, 1] kz ?_
 refine of_op (wpOp_box hW hE (d := 7) (cs := [.int .i64 n1, .slice A6 s2.length c7, .bool b3, .slice A8 l4.length c9, .slice aV u5.length aW]) kz fun cU o6 o7 l5 l6 l7 bW gS => ?_)
 clear hE hW
 refine go_rn [1] [] [(0, .v (.slice A l.length c)), (1, .v (.int .i64 v)), (2, .v (.bool flex)), (7, .p 0 0)] bW gS fun o9 gT => ?_
 clear gS
 refine wpOps_nil (then_normal ?_)
 refine go_sp [(0, .v (.slice A l.length c)), (1, .v (.int .i64 v)), (2, .v (.bool flex)), (7, .p 0 0), (9, .v (.slice none 0 0)), (10, .v (.slice none 0 0))] bW gT fun pa gU => ?_
 clear gT
 refine go_sp [(0, .v (.slice A l.length c)), (1, .v (.int .i64 v)), (2, .v (.bool flex)), (7, .p 0 0), (9, .v (.slice none 0 0)), (10, .v (.slice none 0 0)), (11, .v (.int .i64 0))] bW gU fun pb gV => ?_
 clear gU
 refine wp_seq ?_
 refine go_sp [(0, .v (.slice A l.length c)), (1, .v (.int .i64 v)), (2, .v (.bool flex)), (7, .p 0 0), (9, .v (.slice none 0 0)), (10, .v (.slice none 0 0)), (11, .v (.int .i64 0)), (21, .v (.slice A l.length c)), (22, .v (.int .i64 ((l.length : Nat) : Int))), (23, .v (.int .i64 0))] bW gV fun pc gW => ?_
 clear gV
 refine wp_block ?_
 have gX := bW.addNil 5 1
 have l9 := bW.frNil 5 1
 clear bW
 have htot : (bodyB W l v (Tree.mk n1 s2 b3 l4 u5) 0).length ≤ 1099511627776 := by have h_ := hroom; rw [partW, List.length_append] at h_; omega
 refine wp_loop_ghost (fun n_ a_ w_ => ∃ (k : Nat) (A_ : Option Addr) (c_ : Nat) (dn : Bs), n_ = l.length - k ∧ k ≤ l.length ∧ (dn ++ bodyB W (l.drop k) v (Tree.mk n1 s2 b3 l4 u5) k = bodyB W l v (Tree.mk n1 s2 b3 l4 u5) 0) ∧ LInv gX 132 [⟨cU, 0, [.int .i64 n1, .slice A6 s2.length c7, .bool b3, .slice A8 l4.length c9, .slice aV u5.length aW], true⟩] [brow A_ c_ 5 dn] [(0, .v (.slice A l.length c)), (1, .v (.int .i64 v)), (2, .v (.bool flex)), (7, .p 0 0), (9, .v (.slice A_ dn.length c_)), (10, .v (.slice none 0 0)), (11, .v (.int .i64 0)), (21, .v (.slice A l.length c)), (22, .v (.int .i64 ((l.length : Nat) : Int))), (23, .v (.int .i64 ((k : Nat) : Int)))] a_ w_) (l.length) ⟨0, none, 0, [], by omega, by omega, rfl, gW.pk, gX, Fr.refl _ _ _⟩ ?_
 clear gW
 rintro pd pe pf ⟨k, A_, c_, dn, ma, mc, hB, gY, ax, gA⟩
 refine go_sp [(0, .v (.slice A l.length c)), (1, .v (.int .i64 v)), (2, .v (.bool flex)), (7, .p 0 0), (9, .v (.slice A_ dn.length c_)), (10, .v (.slice none 0 0)), (11, .v (.int .i64 0)), (21, .v (.slice A l.length c)), (22, .v (.int .i64 ((l.length : Nat) : Int))), (23, .v (.int .i64 ((k : Nat) : Int))), (24, .v (.bool (decide (((k : Nat) : Int) < ((l.length : Nat) : Int)))))] ax gY fun pg cV => ?_
 clear gY
 refine wp_seq ?_
 refine cond_of cV (b := decide (((k : Nat) : Int) < ((l.length : Nat) : Int))) kz (fun gB => ?_) (fun gB => ?_)
 ·
  have md := of_decide_eq_true gB
  refine wp_skip ?_
  refine then_normal ?_
  refine wp_seq ?_
  refine wp_block ?_
  refine go_seq_region [0, 1, 2, 3, 4, 5] kz ?_
  refine go_rn [0] [1, 2, 3, 4, 5] [(0, .v (.slice A l.length c)), (1, .v (.int .i64 v)), (2, .v (.bool flex)), (7, .p 0 0), (9, .v (.slice A_ dn.length c_)), (10, .v (.slice none 0 0)), (11, .v (.int .i64 0)), (21, .v (.slice A l.length c)), (22, .v (.int .i64 ((l.length : Nat) : Int))), (23, .v (.int .i64 ((k : Nat) : Int))), (25, .v (.int .i64 ((k : Nat) : Int)))] ax cV fun ph gZ => ?_
  clear cV
  obtain ⟨me, mf, kd, mg, dO⟩ := Slots.get h1 (i := k) (by omega)
  obtain ⟨mh, bk⟩ : ∃ x, l[k]? = some x := ⟨_, List.getElem?_eq_getElem (by omega)⟩
  have gC := h2 k mh bk
  obtain ⟨aA, aB, aC, aD, ay, aE, aF, aG, dL, dM, mi, rfl, dP, mj, pi⟩ := gC.open_
  rw [dP] at gC
  have lc := mj.small
  rw [dP] at dO
  refine of_op (wpOp_index gZ (t := 29) (A := A) (m := l.length) (q := ((k : Nat) : Int)) (d := 26) kz (e := 52) (size := 8) (bytes := 80) kz kd rfl (by omega) fun pj g9 => ?_)
  clear gZ
  refine of_op (wpOp_load g9 (t := 52) (b := me) (o := mf + k * 8) (d := 27) kz (cs := [.int .i64 aA, .int .i64 aB, .int .i64 aC, .int .i64 aD, .int .i64 ay, .int .i64 aE, .int .i64 aF, .slice dL aG.length dM]) (v := .agg #[.int .i64 aA, .int .i64 aB, .int .i64 aC, .int .i64 aD, .int .i64 ay, .int .i64 aE, .int .i64 aF, .slice dL aG.length dM]) kz (AtF.move dO ax.step nilM keepF).at_ fun pl hC => ?_)
  clear g9
  refine of_op (wpOp_alloc ax hC (d := 13) (cs := [.int .i64 0, .int .i64 0, .int .i64 0, .int .i64 0, .int .i64 0, .int .i64 0, .int .i64 0, .slice none 0 0]) kz fun pm pn po ml mn gD gE hJ => ?_)
  clear hC ax
  refine go_rn [4] [5] [(0, .v (.slice A l.length c)), (1, .v (.int .i64 v)), (2, .v (.bool flex)), (7, .p 0 0), (9, .v (.slice A_ dn.length c_)), (10, .v (.slice none 0 0)), (11, .v (.int .i64 0)), (12, .v (.int .i64 ((k : Nat) : Int))), (13, .p 1 0), (21, .v (.slice A l.length c)), (22, .v (.int .i64 ((l.length : Nat) : Int))), (23, .v (.int .i64 ((k : Nat) : Int))), (27, .v (.agg #[.int .i64 aA, .int .i64 aB, .int .i64 aC, .int .i64 aD, .int .i64 ay, .int .i64 aE, .int .i64 aF, .slice dL aG.length dM]))] gE hJ fun pp hK => ?_
  clear hJ
  refine of_op (wpOp_store gE hK (oi := 1) (cs := [.int .i64 aA, .int .i64 aB, .int .i64 aC, .int .i64 aD, .int .i64 ay, .int .i64 aE, .int .i64 aF, .slice dL aG.length dM]) kz fun pq gF bn hZ => ?_)
  clear hK gE
  refine wpOps_nil (then_normal ?_)
  refine go_seq_region [0, 1, 2, 3, 4, 5, 6, 7] kz ?_
  refine go_rn [0, 1, 2, 3] [4, 5, 6, 7] [(0, .v (.slice A l.length c)), (1, .v (.int .i64 v)), (2, .v (.bool flex)), (7, .p 0 0), (9, .v (.slice A_ dn.length c_)), (10, .v (.slice none 0 0)), (11, .v (.int .i64 0)), (12, .v (.int .i64 ((k : Nat) : Int))), (13, .p 1 0), (21, .v (.slice A l.length c)), (22, .v (.int .i64 ((l.length : Nat) : Int))), (23, .v (.int .i64 ((k : Nat) : Int))), (31, .v (.bool (decide (ay < 0))))] bn hZ fun pr dN => ?_
  clear hZ
  refine (Bool.eq_false_or_eq_true (decide (ay < 0))).elim (fun cW => ?_) (fun cW => ?_)
  ·
   have mo := of_decide_eq_true cW
   have ia := dN.cast (env' := [(0, .v (.slice A l.length c)), (1, .v (.int .i64 v)), (2, .v (.bool flex)), (7, .p 0 0), (9, .v (.slice A_ dn.length c_)), (10, .v (.slice none 0 0)), (11, .v (.int .i64 0)), (12, .v (.int .i64 ((k : Nat) : Int))), (13, .p 1 0), (21, .v (.slice A l.length c)), (22, .v (.int .i64 ((l.length : Nat) : Int))), (23, .v (.int .i64 ((k : Nat) : Int))), (31, .v (.bool true))]) (by rw [cW])
   clear dN
   refine go_rn [4, 5] [6, 7] [(0, .v (.slice A l.length c)), (1, .v (.int .i64 v)), (2, .v (.bool flex)), (7, .p 0 0), (9, .v (.slice A_ dn.length c_)), (10, .v (.slice none 0 0)), (11, .v (.int .i64 0)), (12, .v (.int .i64 ((k : Nat) : Int))), (13, .p 1 0), (21, .v (.slice A l.length c)), (22, .v (.int .i64 ((l.length : Nat) : Int))), (23, .v (.int .i64 ((k : Nat) : Int))), (31, .v (.bool true)), (32, .v (.agg #[.int .i64 aA, .int .i64 aB, .int .i64 aC, .int .i64 aD, .int .i64 ay, .int .i64 aE, .int .i64 aF, .slice dL aG.length dM])), (33, .v (.int .i64 v))] bn ia fun pt dQ => ?_
   clear ia
   refine of_op (wpOp_call dQ (f := 58) (vs := [.agg #[.int .i64 aA, .int .i64 aB, .int .i64 aC, .int .i64 aD, .int .i64 ay, .int .i64 aE, .int .i64 aF, .slice dL aG.length dM], .int .i64 v]) (d := 34) kz Tryz.call58 (sHas aA aB aC aD ay aE aF aG _ _ v _) ?_)
   rintro e_ mp ⟨rfl, dR⟩
   refine ⟨_, rfl, fun mq dS => ?_⟩
   have bo := bn.next_nil dR
   have dT := bn.frN dR
   clear dQ bn
   refine go_rn [7] [] [(0, .v (.slice A l.length c)), (1, .v (.int .i64 v)), (2, .v (.bool flex)), (7, .p 0 0), (9, .v (.slice A_ dn.length c_)), (10, .v (.slice none 0 0)), (11, .v (.int .i64 0)), (12, .v (.int .i64 ((k : Nat) : Int))), (13, .p 1 0), (21, .v (.slice A l.length c)), (22, .v (.int .i64 ((l.length : Nat) : Int))), (23, .v (.int .i64 ((k : Nat) : Int))), (35, .v (.bool (Fld.has (Fld.mk aA aB aC aD ay aE aF aG) v)))] bo dS fun mr bp => ?_
   clear dS
   refine wpOps_nil (then_normal ?_)
   refine cond_of bp (b := Fld.has (Fld.mk aA aB aC aD ay aE aF aG) v) kz (fun ib => ?_) (fun ib => ?_)
   ·
    refine go_drawK 9 kz bo fun mt ic bq ig => ?_
    clear bo
    refine go_rnD [0, 1, 2, 3, 4, 5] [(0, .v (.slice A l.length c)), (1, .v (.int .i64 v)), (2, .v (.bool flex)), (7, .p 0 0), (9, .v (.slice A_ dn.length c_)), (10, .v (.slice none 0 0)), (11, .v (.int .i64 0)), (21, .v (.slice A l.length c)), (22, .v (.int .i64 ((l.length : Nat) : Int))), (23, .v (.int .i64 ((k : Nat) : Int))), (36, .v (.slice A_ dn.length c_)), (37, .v (.agg #[.int .i64 aA, .int .i64 aB, .int .i64 aC, .int .i64 aD, .int .i64 ay, .int .i64 aE, .int .i64 aF, .slice dL aG.length dM])), (38, .v (.int .i64 v)), (39, .v (.bool flex)), (40, .v (.agg #[.int .i64 n1, .slice A6 s2.length c7, .bool b3, .slice A8 l4.length c9, .slice aV u5.length aW])), (41, .v (.int .i64 ((k : Nat) : Int)))] 4 (panicFree_block (panicFree_then (panicFree_then (panicFree_block (panicFree_then panicFree_body))))) (fun _ h => h.cells) ig bp fun mu dU => ?_
    clear bp
    refine anyC_op (i := 6) kz (wpOp_call dU (f := 57) (vs := [.agg #[.int .i64 n1, .slice A6 s2.length c7, .bool b3, .slice A8 l4.length c9, .slice aV u5.length aW], .int .i64 ((k : Nat) : Int)]) (d := 42) kz Tryz.call57 (sAt _ _ k _ _ (ht.move bq.step nilM bq.imm)) ?_)
    rintro e_ mw ⟨ld, rfl, ii, bt⟩
    have cX := ii.move bt nilM (fun b o h_ hb_ => bq.laid (G := F) bt b o (.inl h_) (Nat.lt_of_lt_of_le hb_ bt.size))
    obtain ⟨gG, gH, gI, gJ, gK, gL, gM, gN, gO, gP, gQ, lf, lg, cY, ke, kf, mx, my⟩ := cX.open_
    rw [cY] at cX
    have kg := ke.small
    have kh := kf.small
    rw [cY]
    refine ⟨_, rfl, fun mz dV => ?_⟩
    have bu := bq.next_nil bt
    have cm := bq.frN bt
    clear dU
    have ij := TT.ofW cm bu
    refine ⟨fun _ => ij, ?_⟩
    refine anyC_op (i := 7) kz (wpOp_call dV (f := 125) (vs := [.agg #[.int .i64 aA, .int .i64 aB, .int .i64 aC, .int .i64 aD, .int .i64 ay, .int .i64 aE, .int .i64 aF, .slice dL aG.length dM], .int .i64 v, .bool flex, .agg #[.int .i64 gG, .slice gL gH.length gM, .bool gI, .slice gN gJ.length gO, .slice gP gK.length gQ]]) (d := 43) kz Tryz.call125 ( hW_ _ _ _ _ _ _ (List.mem_of_getElem? bk) (gC.move bu.step nilM bu.imm) cX (by have h_ := congrArg List.length hB; rw [bodyB_pos bk (by assumption) (by assumption)] at h_; simp only [List.length_append] at h_; omega)) ?_)
    rintro e_ mA ⟨cZ, c5, rfl, ik, il⟩
    refine ⟨_, rfl, fun mB dW => ?_⟩
    obtain ⟨bw, c6⟩ := bu.frFresh il (brow cZ c5 5 (W (Fld.mk aA aB aC aD ay aE aF aG) (Tree.at_ (Tree.mk n1 s2 b3 l4 u5) k))) (Nat.le_refl _) ik
    clear dV bu
    have ki : (W (Fld.mk aA aB aC aD ay aE aF aG) (Tree.at_ (Tree.mk n1 s2 b3 l4 u5) k)).length ≤ 1099511627776 := by have h_ := congrArg List.length hB; rw [bodyB_pos bk (by assumption) (by assumption)] at h_; simp only [List.length_append] at h_; omega
    have im := TT.ofW (cm.trans c6) bw
    refine ⟨fun _ => im, ?_⟩
    refine anyC_op (i := 8) kz (wpOp_append bw dW (k := 0) (d := 44) (t := 22) (e := 5) (size := 1) (bytes := 1) (A := A_) (As := cZ) (m0 := dn.length) (c := c_) (m := ((W (Fld.mk aA aB aC aD ay aE aF aG) (Tree.at_ (Tree.mk n1 s2 b3 l4 u5) k)).length)) (cs := c5) (xs := (bc dn)) (news := bc (W (Fld.mk aA aB aC aD ay aE aF aG) (Tree.at_ (Tree.mk n1 s2 b3 l4 u5) k))) kz kz rfl (own_src (bw.own 1 _ rfl) (bc_one _)) (own_cap (bw.own 1 _ rfl)) (by have h_ := congrArg List.length hB; rw [bodyB_pos bk (by assumption) (by assumption)] at h_; simp only [List.length_append] at h_ ⊢; omega) fun aX aY mC mD dX dY dZ => ?_)
    clear dW bw
    have io : (⟨aX, aY, 5, 1, dn.length + (W (Fld.mk aA aB aC aD ay aE aF aG) (Tree.at_ (Tree.mk n1 s2 b3 l4 u5) k)).length, bc dn ++ bc (W (Fld.mk aA aB aC aD ay aE aF aG) (Tree.at_ (Tree.mk n1 s2 b3 l4 u5) k))⟩ : Rw) = brow aX aY 5 (dn ++ (W (Fld.mk aA aB aC aD ay aE aF aG) (Tree.at_ (Tree.mk n1 s2 b3 l4 u5) k))) := brow_eq (rfl) rfl
    obtain ⟨cq, d5⟩ := dY.rowEq 0 [brow aX aY 5 (dn ++ (W (Fld.mk aA aB aC aD ay aE aF aG) (Tree.at_ (Tree.mk n1 s2 b3 l4 u5) k))), brow cZ c5 5 (W (Fld.mk aA aB aC aD ay aE aF aG) (Tree.at_ (Tree.mk n1 s2 b3 l4 u5) k))] io
    clear dY
    have d6 := EnvOk.pick dZ (ks := [0, 1, 2, 7, 9, 10, 11, 21, 22, 23, 36, 37, 38, 39, 40, 41, 42, 43, 44]) (env' := [(0, .v (.slice A l.length c)), (1, .v (.int .i64 v)), (2, .v (.bool flex)), (7, .p 0 0), (9, .v (.slice A_ dn.length c_)), (10, .v (.slice none 0 0)), (11, .v (.int .i64 0)), (21, .v (.slice A l.length c)), (22, .v (.int .i64 ((l.length : Nat) : Int))), (23, .v (.int .i64 ((k : Nat) : Int))), (36, .v (.slice A_ dn.length c_)), (37, .v (.agg #[.int .i64 aA, .int .i64 aB, .int .i64 aC, .int .i64 aD, .int .i64 ay, .int .i64 aE, .int .i64 aF, .slice dL aG.length dM])), (38, .v (.int .i64 v)), (39, .v (.bool flex)), (40, .v (.agg #[.int .i64 n1, .slice A6 s2.length c7, .bool b3, .slice A8 l4.length c9, .slice aV u5.length aW])), (41, .v (.int .i64 ((k : Nat) : Int))), (42, .v (.agg #[.int .i64 gG, .slice gL gH.length gM, .bool gI, .slice gN gJ.length gO, .slice gP gK.length gQ])), (43, .v (.slice cZ ((W (Fld.mk aA aB aC aD ay aE aF aG) (Tree.at_ (Tree.mk n1 s2 b3 l4 u5) k)).length) c5)), (44, .v (.slice aX (dn.length + (W (Fld.mk aA aB aC aD ay aE aF aG) (Tree.at_ (Tree.mk n1 s2 b3 l4 u5) k)).length) aY))]) kz
    have d7 := d6.cast (env' := [(0, .v (.slice A l.length c)), (1, .v (.int .i64 v)), (2, .v (.bool flex)), (7, .p 0 0), (9, .v (.slice A_ dn.length c_)), (10, .v (.slice none 0 0)), (11, .v (.int .i64 0)), (21, .v (.slice A l.length c)), (22, .v (.int .i64 ((l.length : Nat) : Int))), (23, .v (.int .i64 ((k : Nat) : Int))), (36, .v (.slice A_ dn.length c_)), (37, .v (.agg #[.int .i64 aA, .int .i64 aB, .int .i64 aC, .int .i64 aD, .int .i64 ay, .int .i64 aE, .int .i64 aF, .slice dL aG.length dM])), (38, .v (.int .i64 v)), (39, .v (.bool flex)), (40, .v (.agg #[.int .i64 n1, .slice A6 s2.length c7, .bool b3, .slice A8 l4.length c9, .slice aV u5.length aW])), (41, .v (.int .i64 ((k : Nat) : Int))), (42, .v (.agg #[.int .i64 gG, .slice gL gH.length gM, .bool gI, .slice gN gJ.length gO, .slice gP gK.length gQ])), (43, .v (.slice cZ ((W (Fld.mk aA aB aC aD ay aE aF aG) (Tree.at_ (Tree.mk n1 s2 b3 l4 u5) k)).length) c5)), (44, .v (.slice aX ((dn ++ (W (Fld.mk aA aB aC aD ay aE aF aG) (Tree.at_ (Tree.mk n1 s2 b3 l4 u5) k))).length) aY))]) (by simp only [List.length_append, List.length_cons, List.length_nil, Nat.zero_add])
    clear dZ
    clear d6
    have ip := TT.ofW (((cm.trans c6).trans dX).trans d5) cq
    refine ⟨fun _ => ip, ?_⟩
    refine anyC_op (i := 9) kz (wpOp_pure [0, 1, 2, 7, 9, 10, 11, 21, 22, 23] cq.cells d7 (env' := [(0, .v (.slice A l.length c)), (1, .v (.int .i64 v)), (2, .v (.bool flex)), (7, .p 0 0), (9, .v (.slice aX ((dn ++ (W (Fld.mk aA aB aC aD ay aE aF aG) (Tree.at_ (Tree.mk n1 s2 b3 l4 u5) k))).length) aY)), (10, .v (.slice none 0 0)), (11, .v (.int .i64 0)), (21, .v (.slice A l.length c)), (22, .v (.int .i64 ((l.length : Nat) : Int))), (23, .v (.int .i64 ((k : Nat) : Int)))]) kz fun mF d8 => ?_)
    clear d7
    refine ⟨fun h => absurd rfl h, ?_⟩
    refine anyC_done kz ?_ _
    refine block_normal ?_
    refine then_normal ?_
    refine go_region [0, 1] kz ?_
    refine go_rn [0, 1] [] [(0, .v (.slice A l.length c)), (1, .v (.int .i64 v)), (2, .v (.bool flex)), (7, .p 0 0), (9, .v (.slice aX ((dn ++ (W (Fld.mk aA aB aC aD ay aE aF aG) (Tree.at_ (Tree.mk n1 s2 b3 l4 u5) k))).length) aY)), (10, .v (.slice none 0 0)), (11, .v (.int .i64 0)), (21, .v (.slice A l.length c)), (22, .v (.int .i64 ((l.length : Nat) : Int))), (23, .v (.int .i64 (IntKind.i64.wrap (((k : Nat) : Int) + 1))))] cq d8 fun mG iq => ?_
    clear d8
    refine wpOps_nil (then_normal ?_)
    obtain ⟨d9, ir, iu⟩ := cq.cutB iq 1 [⟨cU, 0, [.int .i64 n1, .slice A6 s2.length c7, .bool b3, .slice A8 l4.length c9, .slice aV u5.length aW], true⟩] [(0, .v (.slice A l.length c)), (1, .v (.int .i64 v)), (2, .v (.bool flex)), (7, .p 0 0), (9, .v (.slice aX ((dn ++ (W (Fld.mk aA aB aC aD ay aE aF aG) (Tree.at_ (Tree.mk n1 s2 b3 l4 u5) k))).length) aY)), (10, .v (.slice none 0 0)), (11, .v (.int .i64 0)), (21, .v (.slice A l.length c)), (22, .v (.int .i64 ((l.length : Nat) : Int))), (23, .v (.int .i64 (IntKind.i64.wrap (((k : Nat) : Int) + 1))))]
    obtain ⟨iv, iw⟩ := ir.cutR 1 [brow aX aY 5 (dn ++ (W (Fld.mk aA aB aC aD ay aE aF aG) (Tree.at_ (Tree.mk n1 s2 b3 l4 u5) k)))]
    have ix : IntKind.i64.wrap (((k : Nat) : Int) + 1) = ((k + 1 : Nat) : Int) := wrap_succ (by omega)
    rw [ix] at d9
    exact ⟨l.length - (k + 1), by omega, k + 1, aX, aY, dn ++ (W (Fld.mk aA aB aC aD ay aE aF aG) (Tree.at_ (Tree.mk n1 s2 b3 l4 u5) k)), rfl, by omega, by rw [List.append_assoc, ← bodyB_pos bk (by assumption) (by assumption)]; exact hB, d9.pk, iv, ((((((((((gA.trans gD).trans gF).trans dT).trans ic).trans cm).trans c6).trans dX).trans d5).trans iu).trans iw)⟩
   ·
    refine wp_skip ?_
    refine block_normal ?_
    refine then_normal ?_
    refine go_region [0, 1] kz ?_
    refine go_rn [0, 1] [] [(0, .v (.slice A l.length c)), (1, .v (.int .i64 v)), (2, .v (.bool flex)), (7, .p 0 0), (9, .v (.slice A_ dn.length c_)), (10, .v (.slice none 0 0)), (11, .v (.int .i64 0)), (21, .v (.slice A l.length c)), (22, .v (.int .i64 ((l.length : Nat) : Int))), (23, .v (.int .i64 (IntKind.i64.wrap (((k : Nat) : Int) + 1))))] bo bp fun mH iy => ?_
    clear bp
    refine wpOps_nil (then_normal ?_)
    obtain ⟨ea, iz, iA⟩ := bo.cutB iy 1 [⟨cU, 0, [.int .i64 n1, .slice A6 s2.length c7, .bool b3, .slice A8 l4.length c9, .slice aV u5.length aW], true⟩] [(0, .v (.slice A l.length c)), (1, .v (.int .i64 v)), (2, .v (.bool flex)), (7, .p 0 0), (9, .v (.slice A_ dn.length c_)), (10, .v (.slice none 0 0)), (11, .v (.int .i64 0)), (21, .v (.slice A l.length c)), (22, .v (.int .i64 ((l.length : Nat) : Int))), (23, .v (.int .i64 (IntKind.i64.wrap (((k : Nat) : Int) + 1))))]
    have iB : IntKind.i64.wrap (((k : Nat) : Int) + 1) = ((k + 1 : Nat) : Int) := wrap_succ (by omega)
    rw [iB] at ea
    exact ⟨l.length - (k + 1), by omega, k + 1, A_, c_, dn, rfl, by omega, by rw [← bodyB_neg2 bk (by assumption)]; exact hB, ea.pk, iz, ((((gA.trans gD).trans gF).trans dT).trans iA)⟩
  ·
   have lh := of_decide_eq_false cW
   have eb := dN.cast (env' := [(0, .v (.slice A l.length c)), (1, .v (.int .i64 v)), (2, .v (.bool flex)), (7, .p 0 0), (9, .v (.slice A_ dn.length c_)), (10, .v (.slice none 0 0)), (11, .v (.int .i64 0)), (12, .v (.int .i64 ((k : Nat) : Int))), (13, .p 1 0), (21, .v (.slice A l.length c)), (22, .v (.int .i64 ((l.length : Nat) : Int))), (23, .v (.int .i64 ((k : Nat) : Int))), (31, .v (.bool false))]) (by rw [cW])
   clear dN
   refine go_rn [4, 5, 6, 7] [] [(0, .v (.slice A l.length c)), (1, .v (.int .i64 v)), (2, .v (.bool flex)), (7, .p 0 0), (9, .v (.slice A_ dn.length c_)), (10, .v (.slice none 0 0)), (11, .v (.int .i64 0)), (12, .v (.int .i64 ((k : Nat) : Int))), (13, .p 1 0), (21, .v (.slice A l.length c)), (22, .v (.int .i64 ((l.length : Nat) : Int))), (23, .v (.int .i64 ((k : Nat) : Int))), (35, .v (.bool false))] bn eb fun mI da => ?_
   clear eb
   refine wpOps_nil (then_normal ?_)
   refine cond_false da (b := false) kz rfl ?_
   refine wp_skip ?_
   refine block_normal ?_
   refine then_normal ?_
   refine go_region [0, 1] kz ?_
   refine go_rn [0, 1] [] [(0, .v (.slice A l.length c)), (1, .v (.int .i64 v)), (2, .v (.bool flex)), (7, .p 0 0), (9, .v (.slice A_ dn.length c_)), (10, .v (.slice none 0 0)), (11, .v (.int .i64 0)), (21, .v (.slice A l.length c)), (22, .v (.int .i64 ((l.length : Nat) : Int))), (23, .v (.int .i64 (IntKind.i64.wrap (((k : Nat) : Int) + 1))))] bn da fun mJ iC => ?_
   clear da
   refine wpOps_nil (then_normal ?_)
   obtain ⟨ec, iD, iE⟩ := bn.cutB iC 1 [⟨cU, 0, [.int .i64 n1, .slice A6 s2.length c7, .bool b3, .slice A8 l4.length c9, .slice aV u5.length aW], true⟩] [(0, .v (.slice A l.length c)), (1, .v (.int .i64 v)), (2, .v (.bool flex)), (7, .p 0 0), (9, .v (.slice A_ dn.length c_)), (10, .v (.slice none 0 0)), (11, .v (.int .i64 0)), (21, .v (.slice A l.length c)), (22, .v (.int .i64 ((l.length : Nat) : Int))), (23, .v (.int .i64 (IntKind.i64.wrap (((k : Nat) : Int) + 1))))]
   have iF : IntKind.i64.wrap (((k : Nat) : Int) + 1) = ((k + 1 : Nat) : Int) := wrap_succ (by omega)
   rw [iF] at ec
   exact ⟨l.length - (k + 1), by omega, k + 1, A_, c_, dn, rfl, by omega, by rw [← bodyB_neg1 bk (by assumption)]; exact hB, ec.pk, iD, (((gA.trans gD).trans gF).trans iE)⟩
 ·
  have li := of_decide_eq_false gB
  refine wp_exit ?_
  refine then_exit ?_
  refine then_exit ?_
  refine block_exit ?_
  refine then_normal ?_
  refine wp_seq ?_
  refine go_sp [(0, .v (.slice A l.length c)), (1, .v (.int .i64 v)), (2, .v (.bool flex)), (7, .p 0 0), (9, .v (.slice A_ dn.length c_)), (10, .v (.slice none 0 0)), (11, .v (.int .i64 0)), (47, .v (.bool (!flex)))] ax cV fun mK bx => ?_
  clear cV
  refine cond_of bx (b := !flex) kz (fun cr => ?_) (fun cr => ?_)
  ·
   refine go_sp [(8, .v (.slice A_ dn.length c_))] ax bx fun mL iG => ?_
   clear bx
   refine wp_ret ?_
   refine then_ret ?_
   refine leave iG ax.cells (v := .slice A_ dn.length c_) kz ?_
   exact fresh_end ax (k := 0) rfl (by rw [show flex = false by simpa using cr, partW_old, ← hB, bodyB_end (by omega), List.append_nil])
  ·
   refine wp_skip ?_
   refine then_normal ?_
   refine wp_seq ?_
   refine go_seq_region [0, 1, 2, 3] kz ?_
   refine go_rn [0] [1, 2, 3] [(0, .v (.slice A l.length c)), (1, .v (.int .i64 v)), (2, .v (.bool flex)), (7, .p 0 0), (9, .v (.slice A_ dn.length c_)), (10, .v (.slice none 0 0)), (11, .v (.int .i64 0)), (49, .v (.slice A l.length c))] ax bx fun mM ee => ?_
   clear bx
   refine of_op (wpOp_call ee (f := 126) (vs := [.slice A l.length c]) (d := 50) kz Tryz.call126 (sKnown _ _ l _ _ ⟨xfs, (h1.move ax.step nilM ax.imm), (fun i_ x_ h_ => ((h2 i_ x_ h_).move ax.step nilM ax.imm))⟩) ?_)
   rintro e_ mN ⟨rfl, ef⟩
   refine ⟨_, rfl, fun mO eg => ?_⟩
   have db := ax.next_nil ef
   have lj := ax.frN ef
   clear ee ax
   refine go_rn [2, 3] [] [(0, .v (.slice A l.length c)), (1, .v (.int .i64 v)), (2, .v (.bool flex)), (7, .p 0 0), (9, .v (.slice A_ dn.length c_)), (10, .v (.slice none 0 0)), (11, .v (.int .i64 0)), (51, .v (.int .i64 (IntKind.i64.wrap (knownI l)))), (52, .v (.int .i64 0))] db eg fun mQ dc => ?_
   clear eg
   refine wpOps_nil (then_normal ?_)
   refine wp_block ?_
   have hdn : dn = bodyB W l v (Tree.mk n1 s2 b3 l4 u5) 0 := by rw [← hB, bodyB_end (by omega), List.append_nil]
   have eh : dn = (bodyB W l v (Tree.mk n1 s2 b3 l4 u5) 0) := hdn
   have iH := congrArg (brow A_ c_ 5) eh
   obtain ⟨de, lm⟩ := db.rowEq 0 [brow A_ c_ 5 (bodyB W l v (Tree.mk n1 s2 b3 l4 u5) 0)] iH
   clear db
   rw [eh] at dc
   have hfx : flex = true := by simpa using cr
   have htot2 : (bodyB W l v (Tree.mk n1 s2 b3 l4 u5) 0).length + (uv (tagsN W l (Tree.mk n1 s2 b3 l4 u5) (knownI l).toNat + (unknownT l u5).length)).length + ((tagsK W l (Tree.mk n1 s2 b3 l4 u5) (knownI l).toNat).length + (tagsB (unknownT l u5)).length) ≤ 1099511627776 := by have h_ := hroom; rw [hfx, partW_flex] at h_; simpa only [List.length_append] using h_
   have hmono := fun i (h_ : i ≤ (knownI l).toNat) => tagsK_mono W l (Tree.mk n1 s2 b3 l4 u5) h_
   have hcnt := tagsN_le W l (Tree.mk n1 s2 b3 l4 u5)
   have hknn := known_nat l
   have ei := EnvOk.pick dc (ks := [0, 1, 2, 7, 9, 10, 11, 51, 52]) (env' := [(0, .v (.slice A l.length c)), (1, .v (.int .i64 v)), (2, .v (.bool flex)), (7, .p 0 0), (9, .v (.slice A_ ((bodyB W l v (Tree.mk n1 s2 b3 l4 u5) 0).length) c_)), (10, .v (.slice none 0 0)), (11, .v (.int .i64 0)), (51, .v (.int .i64 (IntKind.i64.wrap (knownI l)))), (52, .v (.int .i64 0))]) kz
   have ej := ei.cast (env' := [(0, .v (.slice A l.length c)), (1, .v (.int .i64 v)), (2, .v (.bool flex)), (7, .p 0 0), (9, .v (.slice A_ ((bodyB W l v (Tree.mk n1 s2 b3 l4 u5) 0).length) c_)), (10, .v (.slice none 0 0)), (11, .v (.int .i64 0)), (51, .v (.int .i64 (((knownI l).toNat : Nat) : Int))), (52, .v (.int .i64 0))]) (by rw [hknn])
   clear dc ei
   have ek := de.addNil 5 1
   have ln := de.frNil 5 1
   clear de
   refine wp_loop_ghost (fun n_ a_ w_ => ∃ (k2 : Nat) (A2_ : Option Addr) (c2_ : Nat), n_ = (knownI l).toNat - k2 ∧ k2 ≤ (knownI l).toNat ∧ LInv ek 132 [⟨cU, 0, [.int .i64 n1, .slice A6 s2.length c7, .bool b3, .slice A8 l4.length c9, .slice aV u5.length aW], true⟩] [brow A_ c_ 5 (bodyB W l v (Tree.mk n1 s2 b3 l4 u5) 0), brow A2_ c2_ 5 (tagsK W l (Tree.mk n1 s2 b3 l4 u5) k2)] [(0, .v (.slice A l.length c)), (1, .v (.int .i64 v)), (2, .v (.bool flex)), (7, .p 0 0), (9, .v (.slice A_ ((bodyB W l v (Tree.mk n1 s2 b3 l4 u5) 0).length) c_)), (10, .v (.slice A2_ ((tagsK W l (Tree.mk n1 s2 b3 l4 u5) k2).length) c2_)), (11, .v (.int .i64 ((tagsN W l (Tree.mk n1 s2 b3 l4 u5) k2 : Nat) : Int))), (51, .v (.int .i64 (((knownI l).toNat : Nat) : Int))), (52, .v (.int .i64 ((k2 : Nat) : Int)))] a_ w_) ((knownI l).toNat) ⟨0, none, 0, by omega, by omega, ej.pk, ek, Fr.refl _ _ _⟩ ?_
   clear ej
   rintro mR mS mT ⟨k2, A2_, c2_, lp, lq, em, al, iI⟩
   refine go_sp [(0, .v (.slice A l.length c)), (1, .v (.int .i64 v)), (2, .v (.bool flex)), (7, .p 0 0), (9, .v (.slice A_ ((bodyB W l v (Tree.mk n1 s2 b3 l4 u5) 0).length) c_)), (10, .v (.slice A2_ ((tagsK W l (Tree.mk n1 s2 b3 l4 u5) k2).length) c2_)), (11, .v (.int .i64 ((tagsN W l (Tree.mk n1 s2 b3 l4 u5) k2 : Nat) : Int))), (51, .v (.int .i64 (((knownI l).toNat : Nat) : Int))), (52, .v (.int .i64 ((k2 : Nat) : Int))), (53, .v (.bool (decide (((k2 : Nat) : Int) < (((knownI l).toNat : Nat) : Int)))))] al em fun mU bz => ?_
   clear em
   refine wp_seq ?_
   refine cond_of bz (b := decide (((k2 : Nat) : Int) < (((knownI l).toNat : Nat) : Int))) kz (fun df => ?_) (fun df => ?_)
   ·
    have lr := of_decide_eq_true df
    refine wp_skip ?_
    refine then_normal ?_
    refine wp_seq ?_
    refine wp_block ?_
    refine go_sp [(0, .v (.slice A l.length c)), (1, .v (.int .i64 v)), (2, .v (.bool flex)), (7, .p 0 0), (9, .v (.slice A_ ((bodyB W l v (Tree.mk n1 s2 b3 l4 u5) 0).length) c_)), (10, .v (.slice A2_ ((tagsK W l (Tree.mk n1 s2 b3 l4 u5) k2).length) c2_)), (11, .v (.int .i64 ((tagsN W l (Tree.mk n1 s2 b3 l4 u5) k2 : Nat) : Int))), (14, .v (.int .i64 ((k2 : Nat) : Int))), (51, .v (.int .i64 (((knownI l).toNat : Nat) : Int))), (52, .v (.int .i64 ((k2 : Nat) : Int)))] al bz fun mV eo => ?_
    clear bz
    refine go_sp [(0, .v (.slice A l.length c)), (1, .v (.int .i64 v)), (2, .v (.bool flex)), (7, .p 0 0), (9, .v (.slice A_ ((bodyB W l v (Tree.mk n1 s2 b3 l4 u5) 0).length) c_)), (10, .v (.slice A2_ ((tagsK W l (Tree.mk n1 s2 b3 l4 u5) k2).length) c2_)), (11, .v (.int .i64 ((tagsN W l (Tree.mk n1 s2 b3 l4 u5) k2 : Nat) : Int))), (14, .v (.int .i64 ((k2 : Nat) : Int))), (51, .v (.int .i64 (((knownI l).toNat : Nat) : Int))), (52, .v (.int .i64 ((k2 : Nat) : Int))), (55, .v (.slice A l.length c)), (56, .v (.int .i64 ((l.length : Nat) : Int))), (57, .v (.int .i64 0))] al eo fun mW dg => ?_
    clear eo
    refine wp_block ?_
    have ep : (tagsK W l (Tree.mk n1 s2 b3 l4 u5) k2) = (tagsK W l (Tree.mk n1 s2 b3 l4 u5) k2 ++ []) := (List.append_nil _).symm
    have iJ := congrArg (brow A2_ c2_ 5) ep
    obtain ⟨eu, iK⟩ := al.rowEq 1 [brow A_ c_ 5 (bodyB W l v (Tree.mk n1 s2 b3 l4 u5) 0), brow A2_ c2_ 5 (tagsK W l (Tree.mk n1 s2 b3 l4 u5) k2 ++ [])] iJ
    clear al
    rw [ep] at dg
    have hm2 := hmono (k2 + 1) (by omega)
    rw [tagsK, List.length_append] at hm2
    have hc2 := hcnt (k2 + 1)
    rw [tagsN, tagsK, List.length_append] at hc2
    have hc3 := tagN_le W k2 (Tree.mk n1 s2 b3 l4 u5) l 0
    refine wp_loop_ghost (fun n_ a_ w_ => ∃ (q : Nat) (A3_ : Option Addr) (c3_ : Nat) (dm : Bs) (cn : Nat), n_ = l.length - q ∧ q ≤ l.length ∧ (dm ++ tagB W (l.drop q) k2 (Tree.mk n1 s2 b3 l4 u5) q = tagB W l k2 (Tree.mk n1 s2 b3 l4 u5) 0) ∧ (cn + tagN W (l.drop q) k2 (Tree.mk n1 s2 b3 l4 u5) q = tagN W l k2 (Tree.mk n1 s2 b3 l4 u5) 0) ∧ LInv eu 132 [⟨cU, 0, [.int .i64 n1, .slice A6 s2.length c7, .bool b3, .slice A8 l4.length c9, .slice aV u5.length aW], true⟩] [brow A_ c_ 5 (bodyB W l v (Tree.mk n1 s2 b3 l4 u5) 0), brow A3_ c3_ 5 (tagsK W l (Tree.mk n1 s2 b3 l4 u5) k2 ++ dm)] [(0, .v (.slice A l.length c)), (1, .v (.int .i64 v)), (2, .v (.bool flex)), (7, .p 0 0), (9, .v (.slice A_ ((bodyB W l v (Tree.mk n1 s2 b3 l4 u5) 0).length) c_)), (10, .v (.slice A3_ ((tagsK W l (Tree.mk n1 s2 b3 l4 u5) k2 ++ dm).length) c3_)), (11, .v (.int .i64 ((tagsN W l (Tree.mk n1 s2 b3 l4 u5) k2 + cn : Nat) : Int))), (14, .v (.int .i64 ((k2 : Nat) : Int))), (51, .v (.int .i64 (((knownI l).toNat : Nat) : Int))), (52, .v (.int .i64 ((k2 : Nat) : Int))), (55, .v (.slice A l.length c)), (56, .v (.int .i64 ((l.length : Nat) : Int))), (57, .v (.int .i64 ((q : Nat) : Int)))] a_ w_) (l.length) ⟨0, A2_, c2_, [], 0, by omega, by omega, rfl, Nat.zero_add _, dg.pk, eu, Fr.refl _ _ _⟩ ?_
    clear dg
    rintro mX mY mZ ⟨q, A3_, c3_, dm, cn, ls, lu, hB2, hN2, ev, aM, cu⟩
    refine go_sp [(0, .v (.slice A l.length c)), (1, .v (.int .i64 v)), (2, .v (.bool flex)), (7, .p 0 0), (9, .v (.slice A_ ((bodyB W l v (Tree.mk n1 s2 b3 l4 u5) 0).length) c_)), (10, .v (.slice A3_ ((tagsK W l (Tree.mk n1 s2 b3 l4 u5) k2 ++ dm).length) c3_)), (11, .v (.int .i64 ((tagsN W l (Tree.mk n1 s2 b3 l4 u5) k2 + cn : Nat) : Int))), (14, .v (.int .i64 ((k2 : Nat) : Int))), (51, .v (.int .i64 (((knownI l).toNat : Nat) : Int))), (52, .v (.int .i64 ((k2 : Nat) : Int))), (55, .v (.slice A l.length c)), (56, .v (.int .i64 ((l.length : Nat) : Int))), (57, .v (.int .i64 ((q : Nat) : Int))), (58, .v (.bool (decide (((q : Nat) : Int) < ((l.length : Nat) : Int)))))] aM ev fun m4 bA => ?_
    clear ev
    refine wp_seq ?_
    refine cond_of bA (b := decide (((q : Nat) : Int) < ((l.length : Nat) : Int))) kz (fun dh => ?_) (fun dh => ?_)
    ·
     have lv := of_decide_eq_true dh
     refine wp_skip ?_
     refine then_normal ?_
     refine wp_seq ?_
     refine wp_block ?_
     refine go_seq_region [0, 1, 2, 3, 4, 5] kz ?_
     refine go_rn [0] [1, 2, 3, 4, 5] [(0, .v (.slice A l.length c)), (1, .v (.int .i64 v)), (2, .v (.bool flex)), (7, .p 0 0), (9, .v (.slice A_ ((bodyB W l v (Tree.mk n1 s2 b3 l4 u5) 0).length) c_)), (10, .v (.slice A3_ ((tagsK W l (Tree.mk n1 s2 b3 l4 u5) k2 ++ dm).length) c3_)), (11, .v (.int .i64 ((tagsN W l (Tree.mk n1 s2 b3 l4 u5) k2 + cn : Nat) : Int))), (14, .v (.int .i64 ((k2 : Nat) : Int))), (51, .v (.int .i64 (((knownI l).toNat : Nat) : Int))), (52, .v (.int .i64 ((k2 : Nat) : Int))), (55, .v (.slice A l.length c)), (56, .v (.int .i64 ((l.length : Nat) : Int))), (57, .v (.int .i64 ((q : Nat) : Int))), (59, .v (.int .i64 ((q : Nat) : Int)))] aM bA fun m5 ew => ?_
     clear bA
     obtain ⟨kj, km, iL, lw, di⟩ := Slots.get h1 (i := q) (by omega)
     obtain ⟨ko, ap⟩ : ∃ x, l[q]? = some x := ⟨_, List.getElem?_eq_getElem (by omega)⟩
     have cw := h2 q ko ap
     obtain ⟨ab, ac, ae, af, aa, ag, ah, ai, bB, bC, lx, rfl, dj, kp, m6⟩ := cw.open_
     rw [dj] at cw
     have kq := kp.small
     rw [dj] at di
     refine of_op (wpOp_index ew (t := 29) (A := A) (m := l.length) (q := ((q : Nat) : Int)) (d := 60) kz (e := 52) (size := 8) (bytes := 80) kz iL rfl (by omega) fun m7 ey => ?_)
     clear ew
     refine of_op (wpOp_load ey (t := 52) (b := kj) (o := km + q * 8) (d := 61) kz (cs := [.int .i64 ab, .int .i64 ac, .int .i64 ae, .int .i64 af, .int .i64 aa, .int .i64 ag, .int .i64 ah, .slice bB ai.length bC]) (v := .agg #[.int .i64 ab, .int .i64 ac, .int .i64 ae, .int .i64 af, .int .i64 aa, .int .i64 ag, .int .i64 ah, .slice bB ai.length bC]) kz (AtF.move di aM.step nilM keepF).at_ fun m8 ez => ?_)
     clear ey
     refine of_op (wpOp_alloc aM ez (d := 16) (cs := [.int .i64 0, .int .i64 0, .int .i64 0, .int .i64 0, .int .i64 0, .int .i64 0, .int .i64 0, .slice none 0 0]) kz fun m9 nf ng ly lz dl dp eB => ?_)
     clear ez aM
     refine go_rn [4] [5] [(0, .v (.slice A l.length c)), (1, .v (.int .i64 v)), (2, .v (.bool flex)), (7, .p 0 0), (9, .v (.slice A_ ((bodyB W l v (Tree.mk n1 s2 b3 l4 u5) 0).length) c_)), (10, .v (.slice A3_ ((tagsK W l (Tree.mk n1 s2 b3 l4 u5) k2 ++ dm).length) c3_)), (11, .v (.int .i64 ((tagsN W l (Tree.mk n1 s2 b3 l4 u5) k2 + cn : Nat) : Int))), (14, .v (.int .i64 ((k2 : Nat) : Int))), (15, .v (.int .i64 ((q : Nat) : Int))), (16, .p 1 0), (51, .v (.int .i64 (((knownI l).toNat : Nat) : Int))), (52, .v (.int .i64 ((k2 : Nat) : Int))), (55, .v (.slice A l.length c)), (56, .v (.int .i64 ((l.length : Nat) : Int))), (57, .v (.int .i64 ((q : Nat) : Int))), (61, .v (.agg #[.int .i64 ab, .int .i64 ac, .int .i64 ae, .int .i64 af, .int .i64 aa, .int .i64 ag, .int .i64 ah, .slice bB ai.length bC]))] dp eB fun nh eC => ?_
     clear eB
     refine of_op (wpOp_store dp eC (oi := 1) (cs := [.int .i64 ab, .int .i64 ac, .int .i64 ae, .int .i64 af, .int .i64 aa, .int .i64 ag, .int .i64 ah, .slice bB ai.length bC]) kz fun ni dq eD eE => ?_)
     clear eC dp
     refine wpOps_nil (then_normal ?_)
     refine go_seq_drawK 12 kz eD fun nj dr aO dt => ?_
     clear eD
     refine go_rnD [0, 1, 2, 3, 4] [(0, .v (.slice A l.length c)), (1, .v (.int .i64 v)), (2, .v (.bool flex)), (7, .p 0 0), (9, .v (.slice A_ ((bodyB W l v (Tree.mk n1 s2 b3 l4 u5) 0).length) c_)), (10, .v (.slice A3_ ((tagsK W l (Tree.mk n1 s2 b3 l4 u5) k2 ++ dm).length) c3_)), (11, .v (.int .i64 ((tagsN W l (Tree.mk n1 s2 b3 l4 u5) k2 + cn : Nat) : Int))), (14, .v (.int .i64 ((k2 : Nat) : Int))), (15, .v (.int .i64 ((q : Nat) : Int))), (16, .p 1 0), (51, .v (.int .i64 (((knownI l).toNat : Nat) : Int))), (52, .v (.int .i64 ((k2 : Nat) : Int))), (55, .v (.slice A l.length c)), (56, .v (.int .i64 ((l.length : Nat) : Int))), (57, .v (.int .i64 ((q : Nat) : Int))), (66, .v (.bool (aa == ((k2 : Nat) : Int))))] 7 (panicFree_then (panicFree_block (panicFree_then (panicFree_then (panicFree_block (panicFree_block (panicFree_then (panicFree_then (panicFree_block (panicFree_then panicFree_body)))))))))) (fun _ h => h.cells) dt eE fun nk cz => ?_
     clear eE
     refine (Bool.eq_false_or_eq_true (aa == ((k2 : Nat) : Int))).elim (fun bD => ?_) (fun bD => ?_)
     ·
      have lA : aa = ((k2 : Nat) : Int) := by simpa using bD
      have eF := cz.cast (env' := [(0, .v (.slice A l.length c)), (1, .v (.int .i64 v)), (2, .v (.bool flex)), (7, .p 0 0), (9, .v (.slice A_ ((bodyB W l v (Tree.mk n1 s2 b3 l4 u5) 0).length) c_)), (10, .v (.slice A3_ ((tagsK W l (Tree.mk n1 s2 b3 l4 u5) k2 ++ dm).length) c3_)), (11, .v (.int .i64 ((tagsN W l (Tree.mk n1 s2 b3 l4 u5) k2 + cn : Nat) : Int))), (14, .v (.int .i64 ((k2 : Nat) : Int))), (15, .v (.int .i64 ((q : Nat) : Int))), (16, .p 1 0), (51, .v (.int .i64 (((knownI l).toNat : Nat) : Int))), (52, .v (.int .i64 ((k2 : Nat) : Int))), (55, .v (.slice A l.length c)), (56, .v (.int .i64 ((l.length : Nat) : Int))), (57, .v (.int .i64 ((q : Nat) : Int))), (66, .v (.bool true))]) (by rw [bD])
      clear cz
      refine go_rnD [5, 6, 7] [(0, .v (.slice A l.length c)), (1, .v (.int .i64 v)), (2, .v (.bool flex)), (7, .p 0 0), (9, .v (.slice A_ ((bodyB W l v (Tree.mk n1 s2 b3 l4 u5) 0).length) c_)), (10, .v (.slice A3_ ((tagsK W l (Tree.mk n1 s2 b3 l4 u5) k2 ++ dm).length) c3_)), (11, .v (.int .i64 ((tagsN W l (Tree.mk n1 s2 b3 l4 u5) k2 + cn : Nat) : Int))), (14, .v (.int .i64 ((k2 : Nat) : Int))), (15, .v (.int .i64 ((q : Nat) : Int))), (16, .p 1 0), (51, .v (.int .i64 (((knownI l).toNat : Nat) : Int))), (52, .v (.int .i64 ((k2 : Nat) : Int))), (55, .v (.slice A l.length c)), (56, .v (.int .i64 ((l.length : Nat) : Int))), (57, .v (.int .i64 ((q : Nat) : Int))), (66, .v (.bool true)), (67, .v (.agg #[.int .i64 ab, .int .i64 ac, .int .i64 ae, .int .i64 af, .int .i64 aa, .int .i64 ag, .int .i64 ah, .slice bB ai.length bC])), (68, .v (.agg #[.int .i64 n1, .slice A6 s2.length c7, .bool b3, .slice A8 l4.length c9, .slice aV u5.length aW])), (69, .v (.int .i64 ((q : Nat) : Int)))] 4 (panicFree_then (panicFree_block (panicFree_then (panicFree_then (panicFree_block (panicFree_block (panicFree_then (panicFree_then (panicFree_block (panicFree_then panicFree_body)))))))))) (fun _ h => h.cells) dt eF fun nl eG => ?_
      clear eF
      refine anyC_op (i := 8) kz (wpOp_call eG (f := 57) (vs := [.agg #[.int .i64 n1, .slice A6 s2.length c7, .bool b3, .slice A8 l4.length c9, .slice aV u5.length aW], .int .i64 ((q : Nat) : Int)]) (d := 70) kz Tryz.call57 (sAt _ _ q _ _ (ht.move aO.step nilM aO.imm)) ?_)
      rintro e_ nm ⟨lB, rfl, iM, bE⟩
      have du := iM.move bE nilM (fun b o h_ hb_ => aO.laid (G := F) bE b o (.inl h_) (Nat.lt_of_lt_of_le hb_ bE.size))
      obtain ⟨ku, kv, kw, kx, ky, kA, kB, kC, kD, kE, kF, lC, lD, dv, kG, kH, np, nr⟩ := du.open_
      rw [dv] at du
      have kI := kG.small
      have kJ := kH.small
      rw [dv]
      refine ⟨_, rfl, fun ns eH => ?_⟩
      have aZ := aO.next_nil bE
      have cA := aO.frN bE
      clear eG
      have iN := TT.ofW cA aZ
      refine ⟨fun _ => iN, ?_⟩
      refine anyC_op (i := 9) kz (wpOp_call eH (f := 59) (vs := [.agg #[.int .i64 ab, .int .i64 ac, .int .i64 ae, .int .i64 af, .int .i64 aa, .int .i64 ag, .int .i64 ah, .slice bB ai.length bC], .agg #[.int .i64 ku, .slice kA kv.length kB, .bool kw, .slice kC kx.length kD, .slice kE ky.length kF]]) (d := 71) kz Tryz.call59 (sUsual _ _ _ _ _ _ _ (cw.move aZ.step nilM aZ.imm) (Nat.le_refl _) du) ?_)
      rintro e_ nt ⟨rfl, eI⟩
      refine ⟨_, rfl, fun nu eJ => ?_⟩
      have bF := aZ.next_nil eI
      have dw := aZ.frN eI
      clear eH aZ
      have eK := TT.ofW (cA.trans dw) bF
      refine ⟨fun _ => eK, ?_⟩
      refine go_rnD [10, 11] [(0, .v (.slice A l.length c)), (1, .v (.int .i64 v)), (2, .v (.bool flex)), (7, .p 0 0), (9, .v (.slice A_ ((bodyB W l v (Tree.mk n1 s2 b3 l4 u5) 0).length) c_)), (10, .v (.slice A3_ ((tagsK W l (Tree.mk n1 s2 b3 l4 u5) k2 ++ dm).length) c3_)), (11, .v (.int .i64 ((tagsN W l (Tree.mk n1 s2 b3 l4 u5) k2 + cn : Nat) : Int))), (14, .v (.int .i64 ((k2 : Nat) : Int))), (15, .v (.int .i64 ((q : Nat) : Int))), (16, .p 1 0), (51, .v (.int .i64 (((knownI l).toNat : Nat) : Int))), (52, .v (.int .i64 ((k2 : Nat) : Int))), (55, .v (.slice A l.length c)), (56, .v (.int .i64 ((l.length : Nat) : Int))), (57, .v (.int .i64 ((q : Nat) : Int))), (73, .v (.bool (!(Fld.usual (Fld.mk ab ac ae af aa ag ah ai) (Tree.at_ (Tree.mk n1 s2 b3 l4 u5) q)))))] 0 (panicFree_then (panicFree_block (panicFree_then (panicFree_then (panicFree_block (panicFree_block (panicFree_then (panicFree_then (panicFree_block (panicFree_then panicFree_body)))))))))) (fun _ h => h.cells) eK eJ fun nv bG => ?_
      clear eJ
      refine anyC_done kz ?_ _
      refine then_normal ?_
      refine cond_of bG (b := !(Fld.usual (Fld.mk ab ac ae af aa ag ah ai) (Tree.at_ (Tree.mk n1 s2 b3 l4 u5) q))) kz (fun az => ?_) (fun az => ?_)
      ·
       refine go_seq_drawK 7 kz bF fun nw iO bH iP => ?_
       clear bF
       refine go_rnD [0, 1, 2, 3, 4] [(0, .v (.slice A l.length c)), (1, .v (.int .i64 v)), (2, .v (.bool flex)), (7, .p 0 0), (9, .v (.slice A_ ((bodyB W l v (Tree.mk n1 s2 b3 l4 u5) 0).length) c_)), (10, .v (.slice A3_ ((tagsK W l (Tree.mk n1 s2 b3 l4 u5) k2 ++ dm).length) c3_)), (11, .v (.int .i64 ((tagsN W l (Tree.mk n1 s2 b3 l4 u5) k2 + cn : Nat) : Int))), (14, .v (.int .i64 ((k2 : Nat) : Int))), (51, .v (.int .i64 (((knownI l).toNat : Nat) : Int))), (52, .v (.int .i64 ((k2 : Nat) : Int))), (55, .v (.slice A l.length c)), (56, .v (.int .i64 ((l.length : Nat) : Int))), (57, .v (.int .i64 ((q : Nat) : Int))), (74, .v (.agg #[.int .i64 ab, .int .i64 ac, .int .i64 ae, .int .i64 af, .int .i64 aa, .int .i64 ag, .int .i64 ah, .slice bB ai.length bC])), (75, .v (.int .i64 v)), (76, .v (.bool flex)), (77, .v (.agg #[.int .i64 n1, .slice A6 s2.length c7, .bool b3, .slice A8 l4.length c9, .slice aV u5.length aW])), (78, .v (.int .i64 ((q : Nat) : Int)))] 3 (panicFree_then (panicFree_block (panicFree_then (panicFree_then (panicFree_block (panicFree_block (panicFree_then (panicFree_then (panicFree_block (panicFree_then panicFree_body)))))))))) (fun _ h => h.cells) iP bG fun nx eL => ?_
       clear bG
       refine anyC_op (i := 5) kz (wpOp_call eL (f := 57) (vs := [.agg #[.int .i64 n1, .slice A6 s2.length c7, .bool b3, .slice A8 l4.length c9, .slice aV u5.length aW], .int .i64 ((q : Nat) : Int)]) (d := 79) kz Tryz.call57 (sAt _ _ q _ _ (ht.move bH.step nilM bH.imm)) ?_)
       rintro e_ ny ⟨lE, rfl, iQ, bI⟩
       have dx := iQ.move bI nilM (fun b o h_ hb_ => bH.laid (G := F) bI b o (.inl h_) (Nat.lt_of_lt_of_le hb_ bI.size))
       obtain ⟨kK, kL, kM, kN, kO, kP, kQ, kR, kS, kT, kU, lF, lG, dy, kV, kW, nz, nA⟩ := dx.open_
       rw [dy] at dx
       have kX := kV.small
       have kY := kW.small
       rw [dy]
       refine ⟨_, rfl, fun nB eM => ?_⟩
       have bJ := bH.next_nil bI
       have dz := bH.frN bI
       clear eL
       have iR := TT.ofW dz bJ
       refine ⟨fun _ => iR, ?_⟩
       refine anyC_op (i := 6) kz (wpOp_call eM (f := 125) (vs := [.agg #[.int .i64 ab, .int .i64 ac, .int .i64 ae, .int .i64 af, .int .i64 aa, .int .i64 ag, .int .i64 ah, .slice bB ai.length bC], .int .i64 v, .bool flex, .agg #[.int .i64 kK, .slice kP kL.length kQ, .bool kM, .slice kR kN.length kS, .slice kT kO.length kU]]) (d := 80) kz Tryz.call125 ( hW_ _ _ _ _ _ _ (List.mem_of_getElem? ap) (cw.move bJ.step nilM bJ.imm) dx (by have h_ := congrArg List.length hB2; rw [tagB_pos ap (by omega) (by simpa using az)] at h_; simp only [List.length_append] at h_; omega)) ?_)
       rintro e_ nC ⟨av, aw, rfl, iS, iT⟩
       refine ⟨_, rfl, fun nD eN => ?_⟩
       obtain ⟨bK, eO⟩ := bJ.frFresh iT (brow av aw 5 (W (Fld.mk ab ac ae af aa ag ah ai) (Tree.at_ (Tree.mk n1 s2 b3 l4 u5) q))) (Nat.le_refl _) iS
       clear eM bJ
       have kZ : (W (Fld.mk ab ac ae af aa ag ah ai) (Tree.at_ (Tree.mk n1 s2 b3 l4 u5) q)).length ≤ 1099511627776 := by have h_ := congrArg List.length hB2; rw [tagB_pos ap (by omega) (by simpa using az)] at h_; simp only [List.length_append] at h_; omega
       have iU := TT.ofW (dz.trans eO) bK
       refine ⟨fun _ => iU, ?_⟩
       refine anyC_op (i := 7) kz (wpOp_pure [0, 1, 2, 7, 9, 10, 11, 14, 17, 51, 52, 55, 56, 57] bK.cells eN (env' := [(0, .v (.slice A l.length c)), (1, .v (.int .i64 v)), (2, .v (.bool flex)), (7, .p 0 0), (9, .v (.slice A_ ((bodyB W l v (Tree.mk n1 s2 b3 l4 u5) 0).length) c_)), (10, .v (.slice A3_ ((tagsK W l (Tree.mk n1 s2 b3 l4 u5) k2 ++ dm).length) c3_)), (11, .v (.int .i64 ((tagsN W l (Tree.mk n1 s2 b3 l4 u5) k2 + cn : Nat) : Int))), (14, .v (.int .i64 ((k2 : Nat) : Int))), (17, .v (.slice av ((W (Fld.mk ab ac ae af aa ag ah ai) (Tree.at_ (Tree.mk n1 s2 b3 l4 u5) q)).length) aw)), (51, .v (.int .i64 (((knownI l).toNat : Nat) : Int))), (52, .v (.int .i64 ((k2 : Nat) : Int))), (55, .v (.slice A l.length c)), (56, .v (.int .i64 ((l.length : Nat) : Int))), (57, .v (.int .i64 ((q : Nat) : Int)))]) kz fun nE eP => ?_)
       clear eN
       refine ⟨fun h => absurd rfl h, ?_⟩
       refine anyC_done kz ?_ _
       refine then_normal ?_
       refine go_seq_region [0, 1, 2, 3, 4, 5, 6, 7, 8, 9, 10, 11, 12] kz ?_
       refine go_rn [0, 1, 2] [3, 4, 5, 6, 7, 8, 9, 10, 11, 12] [(0, .v (.slice A l.length c)), (1, .v (.int .i64 v)), (2, .v (.bool flex)), (7, .p 0 0), (9, .v (.slice A_ ((bodyB W l v (Tree.mk n1 s2 b3 l4 u5) 0).length) c_)), (11, .v (.int .i64 ((tagsN W l (Tree.mk n1 s2 b3 l4 u5) k2 + cn : Nat) : Int))), (14, .v (.int .i64 ((k2 : Nat) : Int))), (17, .v (.slice av ((W (Fld.mk ab ac ae af aa ag ah ai) (Tree.at_ (Tree.mk n1 s2 b3 l4 u5) q)).length) aw)), (51, .v (.int .i64 (((knownI l).toNat : Nat) : Int))), (52, .v (.int .i64 ((k2 : Nat) : Int))), (55, .v (.slice A l.length c)), (56, .v (.int .i64 ((l.length : Nat) : Int))), (57, .v (.int .i64 ((q : Nat) : Int))), (81, .v (.slice A3_ ((tagsK W l (Tree.mk n1 s2 b3 l4 u5) k2 ++ dm).length) c3_)), (83, .v (.int .u64 (IntKind.u64.wrap ((k2 : Nat) : Int))))] bK eP fun nF eQ => ?_
       clear eP
       have iV : IntKind.u64.wrap ((k2 : Nat) : Int) = ((k2 : Nat) : Int) := by simp only [wrap_u64, wrap_u32, wrap_u16, IntKind.wrap_i64, IntKind.wrap_i32]; omega
       have eR := EnvOk.pick eQ (ks := [0, 1, 2, 7, 9, 11, 14, 17, 51, 52, 55, 56, 57, 81, 83]) (env' := [(0, .v (.slice A l.length c)), (1, .v (.int .i64 v)), (2, .v (.bool flex)), (7, .p 0 0), (9, .v (.slice A_ ((bodyB W l v (Tree.mk n1 s2 b3 l4 u5) 0).length) c_)), (11, .v (.int .i64 ((tagsN W l (Tree.mk n1 s2 b3 l4 u5) k2 + cn : Nat) : Int))), (14, .v (.int .i64 ((k2 : Nat) : Int))), (17, .v (.slice av ((W (Fld.mk ab ac ae af aa ag ah ai) (Tree.at_ (Tree.mk n1 s2 b3 l4 u5) q)).length) aw)), (51, .v (.int .i64 (((knownI l).toNat : Nat) : Int))), (52, .v (.int .i64 ((k2 : Nat) : Int))), (55, .v (.slice A l.length c)), (56, .v (.int .i64 ((l.length : Nat) : Int))), (57, .v (.int .i64 ((q : Nat) : Int))), (81, .v (.slice A3_ ((tagsK W l (Tree.mk n1 s2 b3 l4 u5) k2 ++ dm).length) c3_)), (83, .v (.int .u64 (IntKind.u64.wrap ((k2 : Nat) : Int))))]) kz
       have eS := eR.cast (env' := [(0, .v (.slice A l.length c)), (1, .v (.int .i64 v)), (2, .v (.bool flex)), (7, .p 0 0), (9, .v (.slice A_ ((bodyB W l v (Tree.mk n1 s2 b3 l4 u5) 0).length) c_)), (11, .v (.int .i64 ((tagsN W l (Tree.mk n1 s2 b3 l4 u5) k2 + cn : Nat) : Int))), (14, .v (.int .i64 ((k2 : Nat) : Int))), (17, .v (.slice av ((W (Fld.mk ab ac ae af aa ag ah ai) (Tree.at_ (Tree.mk n1 s2 b3 l4 u5) q)).length) aw)), (51, .v (.int .i64 (((knownI l).toNat : Nat) : Int))), (52, .v (.int .i64 ((k2 : Nat) : Int))), (55, .v (.slice A l.length c)), (56, .v (.int .i64 ((l.length : Nat) : Int))), (57, .v (.int .i64 ((q : Nat) : Int))), (81, .v (.slice A3_ ((tagsK W l (Tree.mk n1 s2 b3 l4 u5) k2 ++ dm).length) c3_)), (83, .v (.int .u64 ((k2 : Nat) : Int)))]) (by rw [iV])
       clear eQ eR
       refine of_op (wpOp_call eS (f := 127) (vs := [.int .u64 ((k2 : Nat) : Int)]) (d := 84) kz Tryz.call127 (sUvarint k2 (by omega) _) ?_)
       rintro e_ nG ⟨bX, bY, rfl, iW, iX⟩
       refine ⟨_, rfl, fun nH eU => ?_⟩
       obtain ⟨cB, iY⟩ := bK.frFresh iX (brow bX bY 5 (uv k2)) (Nat.le_refl _) iW
       clear eS bK
       refine of_op (wpOp_append cB eU (k := 1) (d := 85) (t := 22) (e := 5) (size := 1) (bytes := 1) (A := A3_) (As := bX) (m0 := ((tagsK W l (Tree.mk n1 s2 b3 l4 u5) k2 ++ dm).length)) (c := c3_) (m := ((uv k2).length)) (cs := bY) (xs := (bc (tagsK W l (Tree.mk n1 s2 b3 l4 u5) k2 ++ dm))) (news := bc (uv k2)) kz kz rfl (own_src (cB.own 3 _ rfl) (bc_one _)) (own_cap (cB.own 3 _ rfl)) (by have h_ := congrArg List.length hB2; rw [tagB_pos ap (by omega) (by simpa using az)] at h_; simp only [List.length_append] at h_ ⊢; omega) fun aP aQ nI nJ iZ eV eW => ?_)
       clear eU cB
       have i6 : (⟨aP, aQ, 5, 1, (tagsK W l (Tree.mk n1 s2 b3 l4 u5) k2 ++ dm).length + (uv k2).length, bc (tagsK W l (Tree.mk n1 s2 b3 l4 u5) k2 ++ dm) ++ bc (uv k2)⟩ : Rw) = brow aP aQ 5 (tagsK W l (Tree.mk n1 s2 b3 l4 u5) k2 ++ dm ++ (uv k2)) := brow_eq (rfl) rfl
       obtain ⟨dA, i7⟩ := eV.rowEq 1 [brow A_ c_ 5 (bodyB W l v (Tree.mk n1 s2 b3 l4 u5) 0), brow aP aQ 5 (tagsK W l (Tree.mk n1 s2 b3 l4 u5) k2 ++ dm ++ (uv k2)), brow av aw 5 (W (Fld.mk ab ac ae af aa ag ah ai) (Tree.at_ (Tree.mk n1 s2 b3 l4 u5) q)), brow bX bY 5 (uv k2)] i6
       clear eV
       have eX := EnvOk.pick eW (ks := [0, 1, 2, 7, 9, 11, 14, 17, 51, 52, 55, 56, 57, 81, 83, 84, 85]) (env' := [(0, .v (.slice A l.length c)), (1, .v (.int .i64 v)), (2, .v (.bool flex)), (7, .p 0 0), (9, .v (.slice A_ ((bodyB W l v (Tree.mk n1 s2 b3 l4 u5) 0).length) c_)), (11, .v (.int .i64 ((tagsN W l (Tree.mk n1 s2 b3 l4 u5) k2 + cn : Nat) : Int))), (14, .v (.int .i64 ((k2 : Nat) : Int))), (17, .v (.slice av ((W (Fld.mk ab ac ae af aa ag ah ai) (Tree.at_ (Tree.mk n1 s2 b3 l4 u5) q)).length) aw)), (51, .v (.int .i64 (((knownI l).toNat : Nat) : Int))), (52, .v (.int .i64 ((k2 : Nat) : Int))), (55, .v (.slice A l.length c)), (56, .v (.int .i64 ((l.length : Nat) : Int))), (57, .v (.int .i64 ((q : Nat) : Int))), (81, .v (.slice A3_ ((tagsK W l (Tree.mk n1 s2 b3 l4 u5) k2 ++ dm).length) c3_)), (83, .v (.int .u64 ((k2 : Nat) : Int))), (84, .v (.slice bX ((uv k2).length) bY)), (85, .v (.slice aP ((tagsK W l (Tree.mk n1 s2 b3 l4 u5) k2 ++ dm).length + (uv k2).length) aQ))]) kz
       have eY := eX.cast (env' := [(0, .v (.slice A l.length c)), (1, .v (.int .i64 v)), (2, .v (.bool flex)), (7, .p 0 0), (9, .v (.slice A_ ((bodyB W l v (Tree.mk n1 s2 b3 l4 u5) 0).length) c_)), (11, .v (.int .i64 ((tagsN W l (Tree.mk n1 s2 b3 l4 u5) k2 + cn : Nat) : Int))), (14, .v (.int .i64 ((k2 : Nat) : Int))), (17, .v (.slice av ((W (Fld.mk ab ac ae af aa ag ah ai) (Tree.at_ (Tree.mk n1 s2 b3 l4 u5) q)).length) aw)), (51, .v (.int .i64 (((knownI l).toNat : Nat) : Int))), (52, .v (.int .i64 ((k2 : Nat) : Int))), (55, .v (.slice A l.length c)), (56, .v (.int .i64 ((l.length : Nat) : Int))), (57, .v (.int .i64 ((q : Nat) : Int))), (81, .v (.slice A3_ ((tagsK W l (Tree.mk n1 s2 b3 l4 u5) k2 ++ dm).length) c3_)), (83, .v (.int .u64 ((k2 : Nat) : Int))), (84, .v (.slice bX ((uv k2).length) bY)), (85, .v (.slice aP ((tagsK W l (Tree.mk n1 s2 b3 l4 u5) k2 ++ dm ++ (uv k2)).length) aQ))]) (by simp only [List.length_append, List.length_cons, List.length_nil, Nat.zero_add])
       clear eW
       clear eX
       refine go_rn [5, 6, 7] [8, 9, 10, 11, 12] [(0, .v (.slice A l.length c)), (1, .v (.int .i64 v)), (2, .v (.bool flex)), (7, .p 0 0), (9, .v (.slice A_ ((bodyB W l v (Tree.mk n1 s2 b3 l4 u5) 0).length) c_)), (11, .v (.int .i64 ((tagsN W l (Tree.mk n1 s2 b3 l4 u5) k2 + cn : Nat) : Int))), (14, .v (.int .i64 ((k2 : Nat) : Int))), (17, .v (.slice av ((W (Fld.mk ab ac ae af aa ag ah ai) (Tree.at_ (Tree.mk n1 s2 b3 l4 u5) q)).length) aw)), (51, .v (.int .i64 (((knownI l).toNat : Nat) : Int))), (52, .v (.int .i64 ((k2 : Nat) : Int))), (55, .v (.slice A l.length c)), (56, .v (.int .i64 ((l.length : Nat) : Int))), (57, .v (.int .i64 ((q : Nat) : Int))), (85, .v (.slice aP ((tagsK W l (Tree.mk n1 s2 b3 l4 u5) k2 ++ dm ++ (uv k2)).length) aQ)), (88, .v (.int .u64 (IntKind.u64.wrap (((W (Fld.mk ab ac ae af aa ag ah ai) (Tree.at_ (Tree.mk n1 s2 b3 l4 u5) q)).length : Nat) : Int))))] dA eY fun nK eZ => ?_
       clear eY
       have ja : IntKind.u64.wrap (((W (Fld.mk ab ac ae af aa ag ah ai) (Tree.at_ (Tree.mk n1 s2 b3 l4 u5) q)).length : Nat) : Int) = (((W (Fld.mk ab ac ae af aa ag ah ai) (Tree.at_ (Tree.mk n1 s2 b3 l4 u5) q)).length : Nat) : Int) := by simp only [wrap_u64, wrap_u32, wrap_u16, IntKind.wrap_i64, IntKind.wrap_i32]; omega
       have e9 := EnvOk.pick eZ (ks := [0, 1, 2, 7, 9, 11, 14, 17, 51, 52, 55, 56, 57, 85, 88]) (env' := [(0, .v (.slice A l.length c)), (1, .v (.int .i64 v)), (2, .v (.bool flex)), (7, .p 0 0), (9, .v (.slice A_ ((bodyB W l v (Tree.mk n1 s2 b3 l4 u5) 0).length) c_)), (11, .v (.int .i64 ((tagsN W l (Tree.mk n1 s2 b3 l4 u5) k2 + cn : Nat) : Int))), (14, .v (.int .i64 ((k2 : Nat) : Int))), (17, .v (.slice av ((W (Fld.mk ab ac ae af aa ag ah ai) (Tree.at_ (Tree.mk n1 s2 b3 l4 u5) q)).length) aw)), (51, .v (.int .i64 (((knownI l).toNat : Nat) : Int))), (52, .v (.int .i64 ((k2 : Nat) : Int))), (55, .v (.slice A l.length c)), (56, .v (.int .i64 ((l.length : Nat) : Int))), (57, .v (.int .i64 ((q : Nat) : Int))), (85, .v (.slice aP ((tagsK W l (Tree.mk n1 s2 b3 l4 u5) k2 ++ dm ++ (uv k2)).length) aQ)), (88, .v (.int .u64 (IntKind.u64.wrap (((W (Fld.mk ab ac ae af aa ag ah ai) (Tree.at_ (Tree.mk n1 s2 b3 l4 u5) q)).length : Nat) : Int))))]) kz
       have fa := e9.cast (env' := [(0, .v (.slice A l.length c)), (1, .v (.int .i64 v)), (2, .v (.bool flex)), (7, .p 0 0), (9, .v (.slice A_ ((bodyB W l v (Tree.mk n1 s2 b3 l4 u5) 0).length) c_)), (11, .v (.int .i64 ((tagsN W l (Tree.mk n1 s2 b3 l4 u5) k2 + cn : Nat) : Int))), (14, .v (.int .i64 ((k2 : Nat) : Int))), (17, .v (.slice av ((W (Fld.mk ab ac ae af aa ag ah ai) (Tree.at_ (Tree.mk n1 s2 b3 l4 u5) q)).length) aw)), (51, .v (.int .i64 (((knownI l).toNat : Nat) : Int))), (52, .v (.int .i64 ((k2 : Nat) : Int))), (55, .v (.slice A l.length c)), (56, .v (.int .i64 ((l.length : Nat) : Int))), (57, .v (.int .i64 ((q : Nat) : Int))), (85, .v (.slice aP ((tagsK W l (Tree.mk n1 s2 b3 l4 u5) k2 ++ dm ++ (uv k2)).length) aQ)), (88, .v (.int .u64 (((W (Fld.mk ab ac ae af aa ag ah ai) (Tree.at_ (Tree.mk n1 s2 b3 l4 u5) q)).length : Nat) : Int)))]) (by rw [ja])
       clear eZ e9
       refine of_op (wpOp_call fa (f := 127) (vs := [.int .u64 (((W (Fld.mk ab ac ae af aa ag ah ai) (Tree.at_ (Tree.mk n1 s2 b3 l4 u5) q)).length : Nat) : Int)]) (d := 89) kz Tryz.call127 (sUvarint ((W (Fld.mk ab ac ae af aa ag ah ai) (Tree.at_ (Tree.mk n1 s2 b3 l4 u5) q)).length) (by omega) _) ?_)
       rintro e_ nL ⟨cO, cP, rfl, jb, jc⟩
       refine ⟨_, rfl, fun nM fb => ?_⟩
       obtain ⟨cC, jd⟩ := dA.frFresh jc (brow cO cP 5 (uv ((W (Fld.mk ab ac ae af aa ag ah ai) (Tree.at_ (Tree.mk n1 s2 b3 l4 u5) q)).length))) (Nat.le_refl _) jb
       clear fa dA
       refine of_op (wpOp_append cC fb (k := 1) (d := 90) (t := 22) (e := 5) (size := 1) (bytes := 1) (A := aP) (As := cO) (m0 := ((tagsK W l (Tree.mk n1 s2 b3 l4 u5) k2 ++ dm ++ (uv k2)).length)) (c := aQ) (m := ((uv ((W (Fld.mk ab ac ae af aa ag ah ai) (Tree.at_ (Tree.mk n1 s2 b3 l4 u5) q)).length)).length)) (cs := cP) (xs := (bc (tagsK W l (Tree.mk n1 s2 b3 l4 u5) k2 ++ dm ++ (uv k2)))) (news := bc (uv ((W (Fld.mk ab ac ae af aa ag ah ai) (Tree.at_ (Tree.mk n1 s2 b3 l4 u5) q)).length))) kz kz rfl (own_src (cC.own 4 _ rfl) (bc_one _)) (own_cap (cC.own 4 _ rfl)) (by have h_ := congrArg List.length hB2; rw [tagB_pos ap (by omega) (by simpa using az)] at h_; simp only [List.length_append] at h_ ⊢; omega) fun bd bf nN nO je fe ff => ?_)
       clear fb cC
       have jf : (⟨bd, bf, 5, 1, (tagsK W l (Tree.mk n1 s2 b3 l4 u5) k2 ++ dm ++ (uv k2)).length + (uv ((W (Fld.mk ab ac ae af aa ag ah ai) (Tree.at_ (Tree.mk n1 s2 b3 l4 u5) q)).length)).length, bc (tagsK W l (Tree.mk n1 s2 b3 l4 u5) k2 ++ dm ++ (uv k2)) ++ bc (uv ((W (Fld.mk ab ac ae af aa ag ah ai) (Tree.at_ (Tree.mk n1 s2 b3 l4 u5) q)).length))⟩ : Rw) = brow bd bf 5 (tagsK W l (Tree.mk n1 s2 b3 l4 u5) k2 ++ dm ++ (uv k2) ++ (uv ((W (Fld.mk ab ac ae af aa ag ah ai) (Tree.at_ (Tree.mk n1 s2 b3 l4 u5) q)).length))) := brow_eq (rfl) rfl
       obtain ⟨bL, jg⟩ := fe.rowEq 1 [brow A_ c_ 5 (bodyB W l v (Tree.mk n1 s2 b3 l4 u5) 0), brow bd bf 5 (tagsK W l (Tree.mk n1 s2 b3 l4 u5) k2 ++ dm ++ (uv k2) ++ (uv ((W (Fld.mk ab ac ae af aa ag ah ai) (Tree.at_ (Tree.mk n1 s2 b3 l4 u5) q)).length))), brow av aw 5 (W (Fld.mk ab ac ae af aa ag ah ai) (Tree.at_ (Tree.mk n1 s2 b3 l4 u5) q)), brow bX bY 5 (uv k2), brow cO cP 5 (uv ((W (Fld.mk ab ac ae af aa ag ah ai) (Tree.at_ (Tree.mk n1 s2 b3 l4 u5) q)).length))] jf
       clear fe
       have fg := EnvOk.pick ff (ks := [0, 1, 2, 7, 9, 11, 14, 17, 51, 52, 55, 56, 57, 85, 88, 89, 90]) (env' := [(0, .v (.slice A l.length c)), (1, .v (.int .i64 v)), (2, .v (.bool flex)), (7, .p 0 0), (9, .v (.slice A_ ((bodyB W l v (Tree.mk n1 s2 b3 l4 u5) 0).length) c_)), (11, .v (.int .i64 ((tagsN W l (Tree.mk n1 s2 b3 l4 u5) k2 + cn : Nat) : Int))), (14, .v (.int .i64 ((k2 : Nat) : Int))), (17, .v (.slice av ((W (Fld.mk ab ac ae af aa ag ah ai) (Tree.at_ (Tree.mk n1 s2 b3 l4 u5) q)).length) aw)), (51, .v (.int .i64 (((knownI l).toNat : Nat) : Int))), (52, .v (.int .i64 ((k2 : Nat) : Int))), (55, .v (.slice A l.length c)), (56, .v (.int .i64 ((l.length : Nat) : Int))), (57, .v (.int .i64 ((q : Nat) : Int))), (85, .v (.slice aP ((tagsK W l (Tree.mk n1 s2 b3 l4 u5) k2 ++ dm ++ (uv k2)).length) aQ)), (88, .v (.int .u64 (((W (Fld.mk ab ac ae af aa ag ah ai) (Tree.at_ (Tree.mk n1 s2 b3 l4 u5) q)).length : Nat) : Int))), (89, .v (.slice cO ((uv ((W (Fld.mk ab ac ae af aa ag ah ai) (Tree.at_ (Tree.mk n1 s2 b3 l4 u5) q)).length)).length) cP)), (90, .v (.slice bd ((tagsK W l (Tree.mk n1 s2 b3 l4 u5) k2 ++ dm ++ (uv k2)).length + (uv ((W (Fld.mk ab ac ae af aa ag ah ai) (Tree.at_ (Tree.mk n1 s2 b3 l4 u5) q)).length)).length) bf))]) kz
       have fh := fg.cast (env' := [(0, .v (.slice A l.length c)), (1, .v (.int .i64 v)), (2, .v (.bool flex)), (7, .p 0 0), (9, .v (.slice A_ ((bodyB W l v (Tree.mk n1 s2 b3 l4 u5) 0).length) c_)), (11, .v (.int .i64 ((tagsN W l (Tree.mk n1 s2 b3 l4 u5) k2 + cn : Nat) : Int))), (14, .v (.int .i64 ((k2 : Nat) : Int))), (17, .v (.slice av ((W (Fld.mk ab ac ae af aa ag ah ai) (Tree.at_ (Tree.mk n1 s2 b3 l4 u5) q)).length) aw)), (51, .v (.int .i64 (((knownI l).toNat : Nat) : Int))), (52, .v (.int .i64 ((k2 : Nat) : Int))), (55, .v (.slice A l.length c)), (56, .v (.int .i64 ((l.length : Nat) : Int))), (57, .v (.int .i64 ((q : Nat) : Int))), (85, .v (.slice aP ((tagsK W l (Tree.mk n1 s2 b3 l4 u5) k2 ++ dm ++ (uv k2)).length) aQ)), (88, .v (.int .u64 (((W (Fld.mk ab ac ae af aa ag ah ai) (Tree.at_ (Tree.mk n1 s2 b3 l4 u5) q)).length : Nat) : Int))), (89, .v (.slice cO ((uv ((W (Fld.mk ab ac ae af aa ag ah ai) (Tree.at_ (Tree.mk n1 s2 b3 l4 u5) q)).length)).length) cP)), (90, .v (.slice bd ((tagsK W l (Tree.mk n1 s2 b3 l4 u5) k2 ++ dm ++ (uv k2) ++ (uv ((W (Fld.mk ab ac ae af aa ag ah ai) (Tree.at_ (Tree.mk n1 s2 b3 l4 u5) q)).length))).length) bf))]) (by simp only [List.length_append, List.length_cons, List.length_nil, Nat.zero_add])
       clear ff
       clear fg
       refine go_rn [10] [11, 12] [(0, .v (.slice A l.length c)), (1, .v (.int .i64 v)), (2, .v (.bool flex)), (7, .p 0 0), (9, .v (.slice A_ ((bodyB W l v (Tree.mk n1 s2 b3 l4 u5) 0).length) c_)), (11, .v (.int .i64 ((tagsN W l (Tree.mk n1 s2 b3 l4 u5) k2 + cn : Nat) : Int))), (14, .v (.int .i64 ((k2 : Nat) : Int))), (51, .v (.int .i64 (((knownI l).toNat : Nat) : Int))), (52, .v (.int .i64 ((k2 : Nat) : Int))), (55, .v (.slice A l.length c)), (56, .v (.int .i64 ((l.length : Nat) : Int))), (57, .v (.int .i64 ((q : Nat) : Int))), (90, .v (.slice bd ((tagsK W l (Tree.mk n1 s2 b3 l4 u5) k2 ++ dm ++ (uv k2) ++ (uv ((W (Fld.mk ab ac ae af aa ag ah ai) (Tree.at_ (Tree.mk n1 s2 b3 l4 u5) q)).length))).length) bf)), (91, .v (.slice av ((W (Fld.mk ab ac ae af aa ag ah ai) (Tree.at_ (Tree.mk n1 s2 b3 l4 u5) q)).length) aw))] bL fh fun nP fi => ?_
       clear fh
       refine of_op (wpOp_append bL fi (k := 1) (d := 92) (t := 22) (e := 5) (size := 1) (bytes := 1) (A := bd) (As := av) (m0 := ((tagsK W l (Tree.mk n1 s2 b3 l4 u5) k2 ++ dm ++ (uv k2) ++ (uv ((W (Fld.mk ab ac ae af aa ag ah ai) (Tree.at_ (Tree.mk n1 s2 b3 l4 u5) q)).length))).length)) (c := bf) (m := ((W (Fld.mk ab ac ae af aa ag ah ai) (Tree.at_ (Tree.mk n1 s2 b3 l4 u5) q)).length)) (cs := aw) (xs := (bc (tagsK W l (Tree.mk n1 s2 b3 l4 u5) k2 ++ dm ++ (uv k2) ++ (uv ((W (Fld.mk ab ac ae af aa ag ah ai) (Tree.at_ (Tree.mk n1 s2 b3 l4 u5) q)).length))))) (news := bc (W (Fld.mk ab ac ae af aa ag ah ai) (Tree.at_ (Tree.mk n1 s2 b3 l4 u5) q))) kz kz rfl (own_src (bL.own 2 _ rfl) (bc_one _)) (own_cap (bL.own 2 _ rfl)) (by have h_ := congrArg List.length hB2; rw [tagB_pos ap (by omega) (by simpa using az)] at h_; simp only [List.length_append] at h_ ⊢; omega) fun aI aJ nQ nR jh fj fk => ?_)
       clear fi bL
       have ji : (⟨aI, aJ, 5, 1, (tagsK W l (Tree.mk n1 s2 b3 l4 u5) k2 ++ dm ++ (uv k2) ++ (uv ((W (Fld.mk ab ac ae af aa ag ah ai) (Tree.at_ (Tree.mk n1 s2 b3 l4 u5) q)).length))).length + (W (Fld.mk ab ac ae af aa ag ah ai) (Tree.at_ (Tree.mk n1 s2 b3 l4 u5) q)).length, bc (tagsK W l (Tree.mk n1 s2 b3 l4 u5) k2 ++ dm ++ (uv k2) ++ (uv ((W (Fld.mk ab ac ae af aa ag ah ai) (Tree.at_ (Tree.mk n1 s2 b3 l4 u5) q)).length))) ++ bc (W (Fld.mk ab ac ae af aa ag ah ai) (Tree.at_ (Tree.mk n1 s2 b3 l4 u5) q))⟩ : Rw) = brow aI aJ 5 (tagsK W l (Tree.mk n1 s2 b3 l4 u5) k2 ++ dm ++ (uv k2) ++ (uv ((W (Fld.mk ab ac ae af aa ag ah ai) (Tree.at_ (Tree.mk n1 s2 b3 l4 u5) q)).length)) ++ (W (Fld.mk ab ac ae af aa ag ah ai) (Tree.at_ (Tree.mk n1 s2 b3 l4 u5) q))) := brow_eq (rfl) rfl
       obtain ⟨cD, jj⟩ := fj.rowEq 1 [brow A_ c_ 5 (bodyB W l v (Tree.mk n1 s2 b3 l4 u5) 0), brow aI aJ 5 (tagsK W l (Tree.mk n1 s2 b3 l4 u5) k2 ++ dm ++ (uv k2) ++ (uv ((W (Fld.mk ab ac ae af aa ag ah ai) (Tree.at_ (Tree.mk n1 s2 b3 l4 u5) q)).length)) ++ (W (Fld.mk ab ac ae af aa ag ah ai) (Tree.at_ (Tree.mk n1 s2 b3 l4 u5) q))), brow av aw 5 (W (Fld.mk ab ac ae af aa ag ah ai) (Tree.at_ (Tree.mk n1 s2 b3 l4 u5) q)), brow bX bY 5 (uv k2), brow cO cP 5 (uv ((W (Fld.mk ab ac ae af aa ag ah ai) (Tree.at_ (Tree.mk n1 s2 b3 l4 u5) q)).length))] ji
       clear fj
       have fl := EnvOk.pick fk (ks := [0, 1, 2, 7, 9, 11, 14, 51, 52, 55, 56, 57, 90, 91, 92]) (env' := [(0, .v (.slice A l.length c)), (1, .v (.int .i64 v)), (2, .v (.bool flex)), (7, .p 0 0), (9, .v (.slice A_ ((bodyB W l v (Tree.mk n1 s2 b3 l4 u5) 0).length) c_)), (11, .v (.int .i64 ((tagsN W l (Tree.mk n1 s2 b3 l4 u5) k2 + cn : Nat) : Int))), (14, .v (.int .i64 ((k2 : Nat) : Int))), (51, .v (.int .i64 (((knownI l).toNat : Nat) : Int))), (52, .v (.int .i64 ((k2 : Nat) : Int))), (55, .v (.slice A l.length c)), (56, .v (.int .i64 ((l.length : Nat) : Int))), (57, .v (.int .i64 ((q : Nat) : Int))), (90, .v (.slice bd ((tagsK W l (Tree.mk n1 s2 b3 l4 u5) k2 ++ dm ++ (uv k2) ++ (uv ((W (Fld.mk ab ac ae af aa ag ah ai) (Tree.at_ (Tree.mk n1 s2 b3 l4 u5) q)).length))).length) bf)), (91, .v (.slice av ((W (Fld.mk ab ac ae af aa ag ah ai) (Tree.at_ (Tree.mk n1 s2 b3 l4 u5) q)).length) aw)), (92, .v (.slice aI ((tagsK W l (Tree.mk n1 s2 b3 l4 u5) k2 ++ dm ++ (uv k2) ++ (uv ((W (Fld.mk ab ac ae af aa ag ah ai) (Tree.at_ (Tree.mk n1 s2 b3 l4 u5) q)).length))).length + (W (Fld.mk ab ac ae af aa ag ah ai) (Tree.at_ (Tree.mk n1 s2 b3 l4 u5) q)).length) aJ))]) kz
       have fm := fl.cast (env' := [(0, .v (.slice A l.length c)), (1, .v (.int .i64 v)), (2, .v (.bool flex)), (7, .p 0 0), (9, .v (.slice A_ ((bodyB W l v (Tree.mk n1 s2 b3 l4 u5) 0).length) c_)), (11, .v (.int .i64 ((tagsN W l (Tree.mk n1 s2 b3 l4 u5) k2 + cn : Nat) : Int))), (14, .v (.int .i64 ((k2 : Nat) : Int))), (51, .v (.int .i64 (((knownI l).toNat : Nat) : Int))), (52, .v (.int .i64 ((k2 : Nat) : Int))), (55, .v (.slice A l.length c)), (56, .v (.int .i64 ((l.length : Nat) : Int))), (57, .v (.int .i64 ((q : Nat) : Int))), (90, .v (.slice bd ((tagsK W l (Tree.mk n1 s2 b3 l4 u5) k2 ++ dm ++ (uv k2) ++ (uv ((W (Fld.mk ab ac ae af aa ag ah ai) (Tree.at_ (Tree.mk n1 s2 b3 l4 u5) q)).length))).length) bf)), (91, .v (.slice av ((W (Fld.mk ab ac ae af aa ag ah ai) (Tree.at_ (Tree.mk n1 s2 b3 l4 u5) q)).length) aw)), (92, .v (.slice aI ((tagsK W l (Tree.mk n1 s2 b3 l4 u5) k2 ++ dm ++ (uv k2) ++ (uv ((W (Fld.mk ab ac ae af aa ag ah ai) (Tree.at_ (Tree.mk n1 s2 b3 l4 u5) q)).length)) ++ (W (Fld.mk ab ac ae af aa ag ah ai) (Tree.at_ (Tree.mk n1 s2 b3 l4 u5) q))).length) aJ))]) (by simp only [List.length_append, List.length_cons, List.length_nil, Nat.zero_add])
       clear fk
       clear fl
       refine go_rn [12] [] [(0, .v (.slice A l.length c)), (1, .v (.int .i64 v)), (2, .v (.bool flex)), (7, .p 0 0), (9, .v (.slice A_ ((bodyB W l v (Tree.mk n1 s2 b3 l4 u5) 0).length) c_)), (10, .v (.slice aI ((tagsK W l (Tree.mk n1 s2 b3 l4 u5) k2 ++ dm ++ (uv k2) ++ (uv ((W (Fld.mk ab ac ae af aa ag ah ai) (Tree.at_ (Tree.mk n1 s2 b3 l4 u5) q)).length)) ++ (W (Fld.mk ab ac ae af aa ag ah ai) (Tree.at_ (Tree.mk n1 s2 b3 l4 u5) q))).length) aJ)), (11, .v (.int .i64 ((tagsN W l (Tree.mk n1 s2 b3 l4 u5) k2 + cn : Nat) : Int))), (14, .v (.int .i64 ((k2 : Nat) : Int))), (51, .v (.int .i64 (((knownI l).toNat : Nat) : Int))), (52, .v (.int .i64 ((k2 : Nat) : Int))), (55, .v (.slice A l.length c)), (56, .v (.int .i64 ((l.length : Nat) : Int))), (57, .v (.int .i64 ((q : Nat) : Int)))] cD fm fun nS fo => ?_
       clear fm
       refine wpOps_nil (then_normal ?_)
       refine go_region [0, 1, 2] kz ?_
       refine go_rn [0, 1, 2] [] [(0, .v (.slice A l.length c)), (1, .v (.int .i64 v)), (2, .v (.bool flex)), (7, .p 0 0), (9, .v (.slice A_ ((bodyB W l v (Tree.mk n1 s2 b3 l4 u5) 0).length) c_)), (10, .v (.slice aI ((tagsK W l (Tree.mk n1 s2 b3 l4 u5) k2 ++ dm ++ (uv k2) ++ (uv ((W (Fld.mk ab ac ae af aa ag ah ai) (Tree.at_ (Tree.mk n1 s2 b3 l4 u5) q)).length)) ++ (W (Fld.mk ab ac ae af aa ag ah ai) (Tree.at_ (Tree.mk n1 s2 b3 l4 u5) q))).length) aJ)), (11, .v (.int .i64 (IntKind.i64.wrap (((tagsN W l (Tree.mk n1 s2 b3 l4 u5) k2 + cn : Nat) : Int) + 1)))), (14, .v (.int .i64 ((k2 : Nat) : Int))), (51, .v (.int .i64 (((knownI l).toNat : Nat) : Int))), (52, .v (.int .i64 ((k2 : Nat) : Int))), (55, .v (.slice A l.length c)), (56, .v (.int .i64 ((l.length : Nat) : Int))), (57, .v (.int .i64 ((q : Nat) : Int)))] cD fo fun nT fq => ?_
       clear fo
       refine wpOps_nil ?_
       refine block_normal ?_
       refine then_normal ?_
       refine go_region [0, 1] kz ?_
       refine go_rn [0, 1] [] [(0, .v (.slice A l.length c)), (1, .v (.int .i64 v)), (2, .v (.bool flex)), (7, .p 0 0), (9, .v (.slice A_ ((bodyB W l v (Tree.mk n1 s2 b3 l4 u5) 0).length) c_)), (10, .v (.slice aI ((tagsK W l (Tree.mk n1 s2 b3 l4 u5) k2 ++ dm ++ (uv k2) ++ (uv ((W (Fld.mk ab ac ae af aa ag ah ai) (Tree.at_ (Tree.mk n1 s2 b3 l4 u5) q)).length)) ++ (W (Fld.mk ab ac ae af aa ag ah ai) (Tree.at_ (Tree.mk n1 s2 b3 l4 u5) q))).length) aJ)), (11, .v (.int .i64 (IntKind.i64.wrap (((tagsN W l (Tree.mk n1 s2 b3 l4 u5) k2 + cn : Nat) : Int) + 1)))), (14, .v (.int .i64 ((k2 : Nat) : Int))), (51, .v (.int .i64 (((knownI l).toNat : Nat) : Int))), (52, .v (.int .i64 ((k2 : Nat) : Int))), (55, .v (.slice A l.length c)), (56, .v (.int .i64 ((l.length : Nat) : Int))), (57, .v (.int .i64 (IntKind.i64.wrap (((q : Nat) : Int) + 1))))] cD fq fun nU jk => ?_
       clear fq
       refine wpOps_nil (then_normal ?_)
       obtain ⟨cE, jl, jm⟩ := cD.cutB jk 1 [⟨cU, 0, [.int .i64 n1, .slice A6 s2.length c7, .bool b3, .slice A8 l4.length c9, .slice aV u5.length aW], true⟩] [(0, .v (.slice A l.length c)), (1, .v (.int .i64 v)), (2, .v (.bool flex)), (7, .p 0 0), (9, .v (.slice A_ ((bodyB W l v (Tree.mk n1 s2 b3 l4 u5) 0).length) c_)), (10, .v (.slice aI ((tagsK W l (Tree.mk n1 s2 b3 l4 u5) k2 ++ dm ++ (uv k2) ++ (uv ((W (Fld.mk ab ac ae af aa ag ah ai) (Tree.at_ (Tree.mk n1 s2 b3 l4 u5) q)).length)) ++ (W (Fld.mk ab ac ae af aa ag ah ai) (Tree.at_ (Tree.mk n1 s2 b3 l4 u5) q))).length) aJ)), (11, .v (.int .i64 (IntKind.i64.wrap (((tagsN W l (Tree.mk n1 s2 b3 l4 u5) k2 + cn : Nat) : Int) + 1)))), (14, .v (.int .i64 ((k2 : Nat) : Int))), (51, .v (.int .i64 (((knownI l).toNat : Nat) : Int))), (52, .v (.int .i64 ((k2 : Nat) : Int))), (55, .v (.slice A l.length c)), (56, .v (.int .i64 ((l.length : Nat) : Int))), (57, .v (.int .i64 (IntKind.i64.wrap (((q : Nat) : Int) + 1))))]
       obtain ⟨fr, jn⟩ := jl.cutR 2 [brow A_ c_ 5 (bodyB W l v (Tree.mk n1 s2 b3 l4 u5) 0), brow aI aJ 5 (tagsK W l (Tree.mk n1 s2 b3 l4 u5) k2 ++ dm ++ (uv k2) ++ (uv ((W (Fld.mk ab ac ae af aa ag ah ai) (Tree.at_ (Tree.mk n1 s2 b3 l4 u5) q)).length)) ++ (W (Fld.mk ab ac ae af aa ag ah ai) (Tree.at_ (Tree.mk n1 s2 b3 l4 u5) q)))]
       have ft : (tagsK W l (Tree.mk n1 s2 b3 l4 u5) k2 ++ dm ++ (uv k2) ++ (uv ((W (Fld.mk ab ac ae af aa ag ah ai) (Tree.at_ (Tree.mk n1 s2 b3 l4 u5) q)).length)) ++ (W (Fld.mk ab ac ae af aa ag ah ai) (Tree.at_ (Tree.mk n1 s2 b3 l4 u5) q))) = (tagsK W l (Tree.mk n1 s2 b3 l4 u5) k2 ++ (dm ++ (uv k2 ++ uv (W (Fld.mk ab ac ae af aa ag ah ai) (Tree.at_ (Tree.mk n1 s2 b3 l4 u5) q)).length ++ W (Fld.mk ab ac ae af aa ag ah ai) (Tree.at_ (Tree.mk n1 s2 b3 l4 u5) q)))) := by simp only [List.append_assoc]
       have jo := congrArg (brow aI aJ 5) ft
       obtain ⟨jp, jq⟩ := fr.rowEq 1 [brow A_ c_ 5 (bodyB W l v (Tree.mk n1 s2 b3 l4 u5) 0), brow aI aJ 5 (tagsK W l (Tree.mk n1 s2 b3 l4 u5) k2 ++ (dm ++ (uv k2 ++ uv (W (Fld.mk ab ac ae af aa ag ah ai) (Tree.at_ (Tree.mk n1 s2 b3 l4 u5) q)).length ++ W (Fld.mk ab ac ae af aa ag ah ai) (Tree.at_ (Tree.mk n1 s2 b3 l4 u5) q))))] jo
       clear fr
       rw [ft] at cE
       have jr : IntKind.i64.wrap (((q : Nat) : Int) + 1) = ((q + 1 : Nat) : Int) := wrap_succ (by omega)
       rw [jr] at cE
       have js : IntKind.i64.wrap (((tagsN W l (Tree.mk n1 s2 b3 l4 u5) k2 + cn : Nat) : Int) + 1) = ((tagsN W l (Tree.mk n1 s2 b3 l4 u5) k2 + (cn + 1) : Nat) : Int) := by rw [wrap_i64 (by omega) (by omega)]; omega
       rw [js] at cE
       exact ⟨l.length - (q + 1), by omega, q + 1, aI, aJ, (dm ++ (uv k2 ++ uv (W (Fld.mk ab ac ae af aa ag ah ai) (Tree.at_ (Tree.mk n1 s2 b3 l4 u5) q)).length ++ W (Fld.mk ab ac ae af aa ag ah ai) (Tree.at_ (Tree.mk n1 s2 b3 l4 u5) q))), (cn + 1), rfl, by omega, by rw [List.append_assoc, ← tagB_pos ap (by omega) (by simpa using az)]; exact hB2, by rw [Nat.add_assoc, ← tagN_pos ap (by omega) (by simpa using az)]; exact hN2, cE.pk, jp, (((((((((((((((((((cu.trans dl).trans dq).trans dr).trans cA).trans dw).trans iO).trans dz).trans eO).trans iY).trans iZ).trans i7).trans jd).trans je).trans jg).trans jh).trans jj).trans jm).trans jn).trans jq)⟩
      ·
       refine wp_skip ?_
       refine block_normal ?_
       refine then_normal ?_
       refine go_region [0, 1] kz ?_
       refine go_rn [0, 1] [] [(0, .v (.slice A l.length c)), (1, .v (.int .i64 v)), (2, .v (.bool flex)), (7, .p 0 0), (9, .v (.slice A_ ((bodyB W l v (Tree.mk n1 s2 b3 l4 u5) 0).length) c_)), (10, .v (.slice A3_ ((tagsK W l (Tree.mk n1 s2 b3 l4 u5) k2 ++ dm).length) c3_)), (11, .v (.int .i64 ((tagsN W l (Tree.mk n1 s2 b3 l4 u5) k2 + cn : Nat) : Int))), (14, .v (.int .i64 ((k2 : Nat) : Int))), (51, .v (.int .i64 (((knownI l).toNat : Nat) : Int))), (52, .v (.int .i64 ((k2 : Nat) : Int))), (55, .v (.slice A l.length c)), (56, .v (.int .i64 ((l.length : Nat) : Int))), (57, .v (.int .i64 (IntKind.i64.wrap (((q : Nat) : Int) + 1))))] bF bG fun nV jt => ?_
       clear bG
       refine wpOps_nil (then_normal ?_)
       obtain ⟨fu, ju, jv⟩ := bF.cutB jt 1 [⟨cU, 0, [.int .i64 n1, .slice A6 s2.length c7, .bool b3, .slice A8 l4.length c9, .slice aV u5.length aW], true⟩] [(0, .v (.slice A l.length c)), (1, .v (.int .i64 v)), (2, .v (.bool flex)), (7, .p 0 0), (9, .v (.slice A_ ((bodyB W l v (Tree.mk n1 s2 b3 l4 u5) 0).length) c_)), (10, .v (.slice A3_ ((tagsK W l (Tree.mk n1 s2 b3 l4 u5) k2 ++ dm).length) c3_)), (11, .v (.int .i64 ((tagsN W l (Tree.mk n1 s2 b3 l4 u5) k2 + cn : Nat) : Int))), (14, .v (.int .i64 ((k2 : Nat) : Int))), (51, .v (.int .i64 (((knownI l).toNat : Nat) : Int))), (52, .v (.int .i64 ((k2 : Nat) : Int))), (55, .v (.slice A l.length c)), (56, .v (.int .i64 ((l.length : Nat) : Int))), (57, .v (.int .i64 (IntKind.i64.wrap (((q : Nat) : Int) + 1))))]
       have jw : IntKind.i64.wrap (((q : Nat) : Int) + 1) = ((q + 1 : Nat) : Int) := wrap_succ (by omega)
       rw [jw] at fu
       exact ⟨l.length - (q + 1), by omega, q + 1, A3_, c3_, dm, cn, rfl, by omega, by rw [← tagB_neg2 ap (by simpa using az)]; exact hB2, by rw [← tagN_neg2 ap (by simpa using az)]; exact hN2, fu.pk, ju, ((((((cu.trans dl).trans dq).trans dr).trans cA).trans dw).trans jv)⟩
     ·
      have lH : aa ≠ ((k2 : Nat) : Int) := by simpa using bD
      have fv := cz.cast (env' := [(0, .v (.slice A l.length c)), (1, .v (.int .i64 v)), (2, .v (.bool flex)), (7, .p 0 0), (9, .v (.slice A_ ((bodyB W l v (Tree.mk n1 s2 b3 l4 u5) 0).length) c_)), (10, .v (.slice A3_ ((tagsK W l (Tree.mk n1 s2 b3 l4 u5) k2 ++ dm).length) c3_)), (11, .v (.int .i64 ((tagsN W l (Tree.mk n1 s2 b3 l4 u5) k2 + cn : Nat) : Int))), (14, .v (.int .i64 ((k2 : Nat) : Int))), (15, .v (.int .i64 ((q : Nat) : Int))), (16, .p 1 0), (51, .v (.int .i64 (((knownI l).toNat : Nat) : Int))), (52, .v (.int .i64 ((k2 : Nat) : Int))), (55, .v (.slice A l.length c)), (56, .v (.int .i64 ((l.length : Nat) : Int))), (57, .v (.int .i64 ((q : Nat) : Int))), (66, .v (.bool false))]) (by rw [bD])
      clear cz
      refine go_rnD [5, 6, 7, 8, 9, 10, 11] [(0, .v (.slice A l.length c)), (1, .v (.int .i64 v)), (2, .v (.bool flex)), (7, .p 0 0), (9, .v (.slice A_ ((bodyB W l v (Tree.mk n1 s2 b3 l4 u5) 0).length) c_)), (10, .v (.slice A3_ ((tagsK W l (Tree.mk n1 s2 b3 l4 u5) k2 ++ dm).length) c3_)), (11, .v (.int .i64 ((tagsN W l (Tree.mk n1 s2 b3 l4 u5) k2 + cn : Nat) : Int))), (14, .v (.int .i64 ((k2 : Nat) : Int))), (15, .v (.int .i64 ((q : Nat) : Int))), (16, .p 1 0), (51, .v (.int .i64 (((knownI l).toNat : Nat) : Int))), (52, .v (.int .i64 ((k2 : Nat) : Int))), (55, .v (.slice A l.length c)), (56, .v (.int .i64 ((l.length : Nat) : Int))), (57, .v (.int .i64 ((q : Nat) : Int))), (73, .v (.bool false))] 0 (panicFree_then (panicFree_block (panicFree_then (panicFree_then (panicFree_block (panicFree_block (panicFree_then (panicFree_then (panicFree_block (panicFree_then panicFree_body)))))))))) (fun _ h => h.cells) dt fv fun nW dB => ?_
      clear fv
      refine anyC_done kz ?_ _
      refine then_normal ?_
      refine cond_false dB (b := false) kz rfl ?_
      refine wp_skip ?_
      refine block_normal ?_
      refine then_normal ?_
      refine go_region [0, 1] kz ?_
      refine go_rn [0, 1] [] [(0, .v (.slice A l.length c)), (1, .v (.int .i64 v)), (2, .v (.bool flex)), (7, .p 0 0), (9, .v (.slice A_ ((bodyB W l v (Tree.mk n1 s2 b3 l4 u5) 0).length) c_)), (10, .v (.slice A3_ ((tagsK W l (Tree.mk n1 s2 b3 l4 u5) k2 ++ dm).length) c3_)), (11, .v (.int .i64 ((tagsN W l (Tree.mk n1 s2 b3 l4 u5) k2 + cn : Nat) : Int))), (14, .v (.int .i64 ((k2 : Nat) : Int))), (51, .v (.int .i64 (((knownI l).toNat : Nat) : Int))), (52, .v (.int .i64 ((k2 : Nat) : Int))), (55, .v (.slice A l.length c)), (56, .v (.int .i64 ((l.length : Nat) : Int))), (57, .v (.int .i64 (IntKind.i64.wrap (((q : Nat) : Int) + 1))))] aO dB fun nX jx => ?_
      clear dB
      refine wpOps_nil (then_normal ?_)
      obtain ⟨fw, jy, jz⟩ := aO.cutB jx 1 [⟨cU, 0, [.int .i64 n1, .slice A6 s2.length c7, .bool b3, .slice A8 l4.length c9, .slice aV u5.length aW], true⟩] [(0, .v (.slice A l.length c)), (1, .v (.int .i64 v)), (2, .v (.bool flex)), (7, .p 0 0), (9, .v (.slice A_ ((bodyB W l v (Tree.mk n1 s2 b3 l4 u5) 0).length) c_)), (10, .v (.slice A3_ ((tagsK W l (Tree.mk n1 s2 b3 l4 u5) k2 ++ dm).length) c3_)), (11, .v (.int .i64 ((tagsN W l (Tree.mk n1 s2 b3 l4 u5) k2 + cn : Nat) : Int))), (14, .v (.int .i64 ((k2 : Nat) : Int))), (51, .v (.int .i64 (((knownI l).toNat : Nat) : Int))), (52, .v (.int .i64 ((k2 : Nat) : Int))), (55, .v (.slice A l.length c)), (56, .v (.int .i64 ((l.length : Nat) : Int))), (57, .v (.int .i64 (IntKind.i64.wrap (((q : Nat) : Int) + 1))))]
      have jA : IntKind.i64.wrap (((q : Nat) : Int) + 1) = ((q + 1 : Nat) : Int) := wrap_succ (by omega)
      rw [jA] at fw
      exact ⟨l.length - (q + 1), by omega, q + 1, A3_, c3_, dm, cn, rfl, by omega, by rw [← tagB_neg1 ap (by omega)]; exact hB2, by rw [← tagN_neg1 ap (by omega)]; exact hN2, fw.pk, jy, ((((cu.trans dl).trans dq).trans dr).trans jz)⟩
    ·
     have lI := of_decide_eq_false dh
     refine wp_exit ?_
     refine then_exit ?_
     refine then_exit ?_
     refine block_exit ?_
     refine block_normal ?_
     refine then_normal ?_
     refine go_region [0, 1] kz ?_
     refine go_rn [0, 1] [] [(0, .v (.slice A l.length c)), (1, .v (.int .i64 v)), (2, .v (.bool flex)), (7, .p 0 0), (9, .v (.slice A_ ((bodyB W l v (Tree.mk n1 s2 b3 l4 u5) 0).length) c_)), (10, .v (.slice A3_ ((tagsK W l (Tree.mk n1 s2 b3 l4 u5) k2 ++ dm).length) c3_)), (11, .v (.int .i64 ((tagsN W l (Tree.mk n1 s2 b3 l4 u5) k2 + cn : Nat) : Int))), (51, .v (.int .i64 (((knownI l).toNat : Nat) : Int))), (52, .v (.int .i64 (IntKind.i64.wrap (((k2 : Nat) : Int) + 1))))] aM bA fun nY cG => ?_
     clear bA
     refine wpOps_nil (then_normal ?_)
     have fx : (tagsK W l (Tree.mk n1 s2 b3 l4 u5) k2 ++ dm) = (tagsK W l (Tree.mk n1 s2 b3 l4 u5) (k2 + 1)) := by rw [tagsK, ← hB2, tagB_end (by omega), List.append_nil]
     have jB := congrArg (brow A3_ c3_ 5) fx
     obtain ⟨jC, jD⟩ := aM.rowEq 1 [brow A_ c_ 5 (bodyB W l v (Tree.mk n1 s2 b3 l4 u5) 0), brow A3_ c3_ 5 (tagsK W l (Tree.mk n1 s2 b3 l4 u5) (k2 + 1))] jB
     clear aM
     rw [fx] at cG
     have jE : IntKind.i64.wrap (((k2 : Nat) : Int) + 1) = ((k2 + 1 : Nat) : Int) := wrap_succ (by omega)
     rw [jE] at cG
     have jF : ((tagsN W l (Tree.mk n1 s2 b3 l4 u5) k2 + cn : Nat) : Int) = ((tagsN W l (Tree.mk n1 s2 b3 l4 u5) (k2 + 1) : Nat) : Int) := by rw [tagsN, ← hN2, tagN_end (by omega), Nat.add_zero]
     rw [jF] at cG
     exact ⟨(knownI l).toNat - (k2 + 1), by omega, k2 + 1, A3_, c3_, rfl, by omega, cG.pk, jC, (((iI.trans iK).trans cu).trans jD)⟩
   ·
    have lJ := of_decide_eq_false df
    refine wp_exit ?_
    refine then_exit ?_
    refine then_exit ?_
    refine block_exit ?_
    refine then_normal ?_
    refine wp_seq ?_
    refine go_seq_region [0, 1, 2, 3, 4, 5] kz ?_
    refine go_rn [0, 1, 2] [3, 4, 5] [(9, .v (.slice A_ ((bodyB W l v (Tree.mk n1 s2 b3 l4 u5) 0).length) c_)), (10, .v (.slice A2_ ((tagsK W l (Tree.mk n1 s2 b3 l4 u5) k2).length) c2_)), (11, .v (.int .i64 ((tagsN W l (Tree.mk n1 s2 b3 l4 u5) k2 : Nat) : Int))), (97, .v (.slice A l.length c)), (99, .v (.slice aV u5.length aW))] al bz fun nZ fy => ?_
    clear bz
    refine of_op (wpOp_call fy (f := 62) (vs := [.slice A l.length c, .slice aV u5.length aW]) (d := 100) kz Tryz.call62 (sUnknown _ _ l _ _ u5 _ _ ⟨xfs, (h1.move al.step nilM al.imm), (fun i_ x_ h_ => ((h2 i_ x_ h_).move al.step nilM al.imm))⟩ (l3.move al.step nilM al.imm)) ?_)
    rintro e_ n4 ⟨am, ao, rfl, jG, dC⟩
    have jH := jG.move (Step.refl _ Nil) nilM (al.laid (G := F) dC)
    refine ⟨_, rfl, fun n5 fz => ?_⟩
    have dD := al.next_nil dC
    have lK := al.frN dC
    clear fy
    refine go_rn [4, 5] [] [(9, .v (.slice A_ ((bodyB W l v (Tree.mk n1 s2 b3 l4 u5) 0).length) c_)), (10, .v (.slice A2_ ((tagsK W l (Tree.mk n1 s2 b3 l4 u5) k2).length) c2_)), (11, .v (.int .i64 ((tagsN W l (Tree.mk n1 s2 b3 l4 u5) k2 : Nat) : Int))), (100, .v (.slice am ((unknownT l u5).length) ao)), (101, .v (.int .i64 (((unknownT l u5).length : Nat) : Int))), (102, .v (.int .i64 0))] dD fz fun n8 dE => ?_
    clear fz
    refine wpOps_nil (then_normal ?_)
    refine wp_block ?_
    obtain ⟨lL, jI, k5⟩ := jH.ex
    have k6 := jI.small
    have hkk2 : k2 = (knownI l).toNat := by omega
    have hc2 := hcnt k2
    have hm2 := hmono k2 (by omega)
    have fA : (tagsK W l (Tree.mk n1 s2 b3 l4 u5) k2) = (tagsK W l (Tree.mk n1 s2 b3 l4 u5) k2 ++ tagsB ((unknownT l u5).take 0)) := (List.append_nil _).symm
    have jJ := congrArg (brow A2_ c2_ 5) fA
    obtain ⟨fB, aN⟩ := dD.rowEq 1 [brow A_ c_ 5 (bodyB W l v (Tree.mk n1 s2 b3 l4 u5) 0), brow A2_ c2_ 5 (tagsK W l (Tree.mk n1 s2 b3 l4 u5) k2 ++ tagsB ((unknownT l u5).take 0))] jJ
    clear dD
    rw [fA] at dE
    refine wp_loop_ghost (fun n_ a_ w_ => ∃ (k : Nat) (A4_ : Option Addr) (c4_ : Nat), n_ = (unknownT l u5).length - k ∧ k ≤ (unknownT l u5).length ∧ LInv fB 132 [⟨cU, 0, [.int .i64 n1, .slice A6 s2.length c7, .bool b3, .slice A8 l4.length c9, .slice aV u5.length aW], true⟩] [brow A_ c_ 5 (bodyB W l v (Tree.mk n1 s2 b3 l4 u5) 0), brow A4_ c4_ 5 (tagsK W l (Tree.mk n1 s2 b3 l4 u5) k2 ++ tagsB ((unknownT l u5).take k))] [(9, .v (.slice A_ ((bodyB W l v (Tree.mk n1 s2 b3 l4 u5) 0).length) c_)), (10, .v (.slice A4_ ((tagsK W l (Tree.mk n1 s2 b3 l4 u5) k2 ++ tagsB ((unknownT l u5).take k)).length) c4_)), (11, .v (.int .i64 ((tagsN W l (Tree.mk n1 s2 b3 l4 u5) k2 + k : Nat) : Int))), (100, .v (.slice am ((unknownT l u5).length) ao)), (101, .v (.int .i64 (((unknownT l u5).length : Nat) : Int))), (102, .v (.int .i64 ((k : Nat) : Int)))] a_ w_) ((unknownT l u5).length) ⟨0, A2_, c2_, by omega, by omega, dE.pk, fB, Fr.refl _ _ _⟩ ?_
    clear dE
    rintro oa od oe ⟨k, A4_, c4_, lM, lN, fC, ba, aH⟩
    refine go_sp [(9, .v (.slice A_ ((bodyB W l v (Tree.mk n1 s2 b3 l4 u5) 0).length) c_)), (10, .v (.slice A4_ ((tagsK W l (Tree.mk n1 s2 b3 l4 u5) k2 ++ tagsB ((unknownT l u5).take k)).length) c4_)), (11, .v (.int .i64 ((tagsN W l (Tree.mk n1 s2 b3 l4 u5) k2 + k : Nat) : Int))), (100, .v (.slice am ((unknownT l u5).length) ao)), (101, .v (.int .i64 (((unknownT l u5).length : Nat) : Int))), (102, .v (.int .i64 ((k : Nat) : Int))), (103, .v (.bool (decide (((k : Nat) : Int) < (((unknownT l u5).length : Nat) : Int)))))] ba fC fun og bM => ?_
    clear fC
    refine wp_seq ?_
    refine cond_of bM (b := decide (((k : Nat) : Int) < (((unknownT l u5).length : Nat) : Int))) kz (fun dF => ?_) (fun dF => ?_)
    ·
     have lO := of_decide_eq_true dF
     refine wp_skip ?_
     refine then_normal ?_
     refine wp_seq ?_
     refine wp_block ?_
     refine go_seq_region [0, 1, 2, 3] kz ?_
     obtain ⟨k7, k8, jK, lP, dG⟩ := Slots.get jI (i := k) (by omega)
     obtain ⟨⟨ak, aj⟩, bN⟩ : ∃ x, (unknownT l u5)[k]? = some x := ⟨_, List.getElem?_eq_getElem (by omega)⟩
     obtain ⟨⟨ar, au, gR, dH⟩, oh, ol⟩ := k5 k ak aj bN
     rw [gR] at dG
     refine of_op (wpOp_index bM (t := 24) (A := am) (m := ((unknownT l u5).length)) (q := ((k : Nat) : Int)) (d := 104) kz (e := 66) (size := 2) (bytes := 32) kz jK rfl (by omega) fun om fD => ?_)
     clear bM
     refine of_op (wpOp_load fD (t := 66) (b := k7) (o := k8 + k * 2) (d := 105) kz (cs := [.int .u32 ak, .slice ar aj.length au]) (v := .agg #[.int .u32 ak, .slice ar aj.length au]) kz (AtF.move dG (aN.trans aH).step immM (aN.trans aH).to').at_ fun oq fE => ?_)
     clear fD
     refine of_op (wpOp_alloc ba fE (d := 19) (cs := [.int .u32 0, .slice none 0 0]) kz fun ot ou ov lQ lR aR fF fG => ?_)
     clear fE ba
     refine of_op (wpOp_store fF fG (oi := 1) (cs := [.int .u32 ak, .slice ar aj.length au]) kz fun ow aS cH fH => ?_)
     clear fG fF
     refine wpOps_nil (then_normal ?_)
     refine go_seq_region [0, 1, 2, 3] kz ?_
     refine go_rn [0, 1] [2, 3] [(9, .v (.slice A_ ((bodyB W l v (Tree.mk n1 s2 b3 l4 u5) 0).length) c_)), (10, .v (.slice A4_ ((tagsK W l (Tree.mk n1 s2 b3 l4 u5) k2 ++ tagsB ((unknownT l u5).take k)).length) c4_)), (11, .v (.int .i64 ((tagsN W l (Tree.mk n1 s2 b3 l4 u5) k2 + k : Nat) : Int))), (19, .p 1 0), (100, .v (.slice am ((unknownT l u5).length) ao)), (101, .v (.int .i64 (((unknownT l u5).length : Nat) : Int))), (102, .v (.int .i64 ((k : Nat) : Int))), (107, .v (.slice ar aj.length au))] cH fH fun ox fI => ?_
     clear fH
     have k9 := whole_le aj
     refine of_op (wpOp_call fI (f := 64) (vs := [.slice ar aj.length au]) (d := 108) kz Tryz.call64 (sWhole _ _ aj (dH.move (((aN.trans aH).trans aR).trans aS).step immM (((aN.trans aH).trans aR).trans aS).to').le _) ?_)
     rintro e_ oy ⟨rfl, fJ⟩
     refine ⟨_, rfl, fun oz fK => ?_⟩
     have cI := cH.next_nil fJ
     have bO := cH.frN fJ
     clear fI cH
     refine go_rn [3] [] [(9, .v (.slice A_ ((bodyB W l v (Tree.mk n1 s2 b3 l4 u5) 0).length) c_)), (10, .v (.slice A4_ ((tagsK W l (Tree.mk n1 s2 b3 l4 u5) k2 ++ tagsB ((unknownT l u5).take k)).length) c4_)), (11, .v (.int .i64 ((tagsN W l (Tree.mk n1 s2 b3 l4 u5) k2 + k : Nat) : Int))), (19, .p 1 0), (20, .v (.slice ar ((whole aj).length) au)), (100, .v (.slice am ((unknownT l u5).length) ao)), (101, .v (.int .i64 (((unknownT l u5).length : Nat) : Int))), (102, .v (.int .i64 ((k : Nat) : Int)))] cI fK fun oA fL => ?_
     clear fK
     refine wpOps_nil (then_normal ?_)
     refine go_seq_region [0, 1, 2, 3, 4, 5, 6, 7, 8, 9, 10, 11, 12, 13] kz ?_
     refine go_rn [0, 1, 2, 3] [4, 5, 6, 7, 8, 9, 10, 11, 12, 13] [(9, .v (.slice A_ ((bodyB W l v (Tree.mk n1 s2 b3 l4 u5) 0).length) c_)), (11, .v (.int .i64 ((tagsN W l (Tree.mk n1 s2 b3 l4 u5) k2 + k : Nat) : Int))), (20, .v (.slice ar ((whole aj).length) au)), (100, .v (.slice am ((unknownT l u5).length) ao)), (101, .v (.int .i64 (((unknownT l u5).length : Nat) : Int))), (102, .v (.int .i64 ((k : Nat) : Int))), (109, .v (.slice A4_ ((tagsK W l (Tree.mk n1 s2 b3 l4 u5) k2 ++ tagsB ((unknownT l u5).take k)).length) c4_)), (112, .v (.int .u64 (IntKind.u64.wrap ak)))] cI fL fun oB fM => ?_
     clear fL
     have jL : IntKind.u64.wrap ak = ((ak.toNat : Nat) : Int) := by simp only [wrap_u64, wrap_u32, wrap_u16, IntKind.wrap_i64, IntKind.wrap_i32]; omega
     have fN := EnvOk.pick fM (ks := [9, 11, 20, 100, 101, 102, 109, 112]) (env' := [(9, .v (.slice A_ ((bodyB W l v (Tree.mk n1 s2 b3 l4 u5) 0).length) c_)), (11, .v (.int .i64 ((tagsN W l (Tree.mk n1 s2 b3 l4 u5) k2 + k : Nat) : Int))), (20, .v (.slice ar ((whole aj).length) au)), (100, .v (.slice am ((unknownT l u5).length) ao)), (101, .v (.int .i64 (((unknownT l u5).length : Nat) : Int))), (102, .v (.int .i64 ((k : Nat) : Int))), (109, .v (.slice A4_ ((tagsK W l (Tree.mk n1 s2 b3 l4 u5) k2 ++ tagsB ((unknownT l u5).take k)).length) c4_)), (112, .v (.int .u64 (IntKind.u64.wrap ak)))]) kz
     have fO := fN.cast (env' := [(9, .v (.slice A_ ((bodyB W l v (Tree.mk n1 s2 b3 l4 u5) 0).length) c_)), (11, .v (.int .i64 ((tagsN W l (Tree.mk n1 s2 b3 l4 u5) k2 + k : Nat) : Int))), (20, .v (.slice ar ((whole aj).length) au)), (100, .v (.slice am ((unknownT l u5).length) ao)), (101, .v (.int .i64 (((unknownT l u5).length : Nat) : Int))), (102, .v (.int .i64 ((k : Nat) : Int))), (109, .v (.slice A4_ ((tagsK W l (Tree.mk n1 s2 b3 l4 u5) k2 ++ tagsB ((unknownT l u5).take k)).length) c4_)), (112, .v (.int .u64 ((ak.toNat : Nat) : Int)))]) (by rw [jL])
     clear fM fN
     refine of_op (wpOp_call fO (f := 127) (vs := [.int .u64 ((ak.toNat : Nat) : Int)]) (d := 113) kz Tryz.call127 (sUvarint ak.toNat (by omega) _) ?_)
     rintro e_ oC ⟨bZ, b8, rfl, jM, jN⟩
     refine ⟨_, rfl, fun oD fP => ?_⟩
     obtain ⟨cJ, bP⟩ := cI.frFresh jN (brow bZ b8 5 (uv ak.toNat)) (Nat.le_refl _) jM
     clear fO cI
     refine of_op (wpOp_append cJ fP (k := 1) (d := 114) (t := 22) (e := 5) (size := 1) (bytes := 1) (A := A4_) (As := bZ) (m0 := ((tagsK W l (Tree.mk n1 s2 b3 l4 u5) k2 ++ tagsB ((unknownT l u5).take k)).length)) (c := c4_) (m := ((uv ak.toNat).length)) (cs := b8) (xs := (bc (tagsK W l (Tree.mk n1 s2 b3 l4 u5) k2 ++ tagsB ((unknownT l u5).take k)))) (news := bc (uv ak.toNat)) kz kz rfl (own_src (cJ.own 2 _ rfl) (bc_one _)) (own_cap (cJ.own 2 _ rfl)) (by have h_ := tagsB_le (l := (unknownT l u5)) (k + 1); rw [tagsB_succ bN] at h_; simp only [List.length_append] at h_ ⊢; omega) fun aT aU oE oF bQ fQ fR => ?_)
     clear fP cJ
     have jO : (⟨aT, aU, 5, 1, (tagsK W l (Tree.mk n1 s2 b3 l4 u5) k2 ++ tagsB ((unknownT l u5).take k)).length + (uv ak.toNat).length, bc (tagsK W l (Tree.mk n1 s2 b3 l4 u5) k2 ++ tagsB ((unknownT l u5).take k)) ++ bc (uv ak.toNat)⟩ : Rw) = brow aT aU 5 (tagsK W l (Tree.mk n1 s2 b3 l4 u5) k2 ++ tagsB ((unknownT l u5).take k) ++ (uv ak.toNat)) := brow_eq (rfl) rfl
     obtain ⟨dI, bR⟩ := fQ.rowEq 1 [brow A_ c_ 5 (bodyB W l v (Tree.mk n1 s2 b3 l4 u5) 0), brow aT aU 5 (tagsK W l (Tree.mk n1 s2 b3 l4 u5) k2 ++ tagsB ((unknownT l u5).take k) ++ (uv ak.toNat)), brow bZ b8 5 (uv ak.toNat)] jO
     clear fQ
     have fS := EnvOk.pick fR (ks := [9, 11, 20, 100, 101, 102, 109, 112, 113, 114]) (env' := [(9, .v (.slice A_ ((bodyB W l v (Tree.mk n1 s2 b3 l4 u5) 0).length) c_)), (11, .v (.int .i64 ((tagsN W l (Tree.mk n1 s2 b3 l4 u5) k2 + k : Nat) : Int))), (20, .v (.slice ar ((whole aj).length) au)), (100, .v (.slice am ((unknownT l u5).length) ao)), (101, .v (.int .i64 (((unknownT l u5).length : Nat) : Int))), (102, .v (.int .i64 ((k : Nat) : Int))), (109, .v (.slice A4_ ((tagsK W l (Tree.mk n1 s2 b3 l4 u5) k2 ++ tagsB ((unknownT l u5).take k)).length) c4_)), (112, .v (.int .u64 ((ak.toNat : Nat) : Int))), (113, .v (.slice bZ ((uv ak.toNat).length) b8)), (114, .v (.slice aT ((tagsK W l (Tree.mk n1 s2 b3 l4 u5) k2 ++ tagsB ((unknownT l u5).take k)).length + (uv ak.toNat).length) aU))]) kz
     have fT := fS.cast (env' := [(9, .v (.slice A_ ((bodyB W l v (Tree.mk n1 s2 b3 l4 u5) 0).length) c_)), (11, .v (.int .i64 ((tagsN W l (Tree.mk n1 s2 b3 l4 u5) k2 + k : Nat) : Int))), (20, .v (.slice ar ((whole aj).length) au)), (100, .v (.slice am ((unknownT l u5).length) ao)), (101, .v (.int .i64 (((unknownT l u5).length : Nat) : Int))), (102, .v (.int .i64 ((k : Nat) : Int))), (109, .v (.slice A4_ ((tagsK W l (Tree.mk n1 s2 b3 l4 u5) k2 ++ tagsB ((unknownT l u5).take k)).length) c4_)), (112, .v (.int .u64 ((ak.toNat : Nat) : Int))), (113, .v (.slice bZ ((uv ak.toNat).length) b8)), (114, .v (.slice aT ((tagsK W l (Tree.mk n1 s2 b3 l4 u5) k2 ++ tagsB ((unknownT l u5).take k) ++ (uv ak.toNat)).length) aU))]) (by simp only [List.length_append, List.length_cons, List.length_nil, Nat.zero_add])
     clear fR
     clear fS
     refine go_rn [6, 7, 8] [9, 10, 11, 12, 13] [(9, .v (.slice A_ ((bodyB W l v (Tree.mk n1 s2 b3 l4 u5) 0).length) c_)), (11, .v (.int .i64 ((tagsN W l (Tree.mk n1 s2 b3 l4 u5) k2 + k : Nat) : Int))), (20, .v (.slice ar ((whole aj).length) au)), (100, .v (.slice am ((unknownT l u5).length) ao)), (101, .v (.int .i64 (((unknownT l u5).length : Nat) : Int))), (102, .v (.int .i64 ((k : Nat) : Int))), (114, .v (.slice aT ((tagsK W l (Tree.mk n1 s2 b3 l4 u5) k2 ++ tagsB ((unknownT l u5).take k) ++ (uv ak.toNat)).length) aU)), (117, .v (.int .u64 (IntKind.u64.wrap (((whole aj).length : Nat) : Int))))] dI fT fun oG fU => ?_
     clear fT
     have jP : IntKind.u64.wrap (((whole aj).length : Nat) : Int) = (((whole aj).length : Nat) : Int) := by simp only [wrap_u64, wrap_u32, wrap_u16, IntKind.wrap_i64, IntKind.wrap_i32]; omega
     have fV := EnvOk.pick fU (ks := [9, 11, 20, 100, 101, 102, 114, 117]) (env' := [(9, .v (.slice A_ ((bodyB W l v (Tree.mk n1 s2 b3 l4 u5) 0).length) c_)), (11, .v (.int .i64 ((tagsN W l (Tree.mk n1 s2 b3 l4 u5) k2 + k : Nat) : Int))), (20, .v (.slice ar ((whole aj).length) au)), (100, .v (.slice am ((unknownT l u5).length) ao)), (101, .v (.int .i64 (((unknownT l u5).length : Nat) : Int))), (102, .v (.int .i64 ((k : Nat) : Int))), (114, .v (.slice aT ((tagsK W l (Tree.mk n1 s2 b3 l4 u5) k2 ++ tagsB ((unknownT l u5).take k) ++ (uv ak.toNat)).length) aU)), (117, .v (.int .u64 (IntKind.u64.wrap (((whole aj).length : Nat) : Int))))]) kz
     have fW := fV.cast (env' := [(9, .v (.slice A_ ((bodyB W l v (Tree.mk n1 s2 b3 l4 u5) 0).length) c_)), (11, .v (.int .i64 ((tagsN W l (Tree.mk n1 s2 b3 l4 u5) k2 + k : Nat) : Int))), (20, .v (.slice ar ((whole aj).length) au)), (100, .v (.slice am ((unknownT l u5).length) ao)), (101, .v (.int .i64 (((unknownT l u5).length : Nat) : Int))), (102, .v (.int .i64 ((k : Nat) : Int))), (114, .v (.slice aT ((tagsK W l (Tree.mk n1 s2 b3 l4 u5) k2 ++ tagsB ((unknownT l u5).take k) ++ (uv ak.toNat)).length) aU)), (117, .v (.int .u64 (((whole aj).length : Nat) : Int)))]) (by rw [jP])
     clear fU fV
     refine of_op (wpOp_call fW (f := 127) (vs := [.int .u64 (((whole aj).length : Nat) : Int)]) (d := 118) kz Tryz.call127 (sUvarint ((whole aj).length) (by omega) _) ?_)
     rintro e_ oH ⟨cQ, cR, rfl, jQ, jR⟩
     refine ⟨_, rfl, fun oI fX => ?_⟩
     obtain ⟨cK, bS⟩ := dI.frFresh jR (brow cQ cR 5 (uv ((whole aj).length))) (Nat.le_refl _) jQ
     clear fW dI
     refine of_op (wpOp_append cK fX (k := 1) (d := 119) (t := 22) (e := 5) (size := 1) (bytes := 1) (A := aT) (As := cQ) (m0 := ((tagsK W l (Tree.mk n1 s2 b3 l4 u5) k2 ++ tagsB ((unknownT l u5).take k) ++ (uv ak.toNat)).length)) (c := aU) (m := ((uv ((whole aj).length)).length)) (cs := cR) (xs := (bc (tagsK W l (Tree.mk n1 s2 b3 l4 u5) k2 ++ tagsB ((unknownT l u5).take k) ++ (uv ak.toNat)))) (news := bc (uv ((whole aj).length))) kz kz rfl (own_src (cK.own 3 _ rfl) (bc_one _)) (own_cap (cK.own 3 _ rfl)) (by have h_ := tagsB_le (l := (unknownT l u5)) (k + 1); rw [tagsB_succ bN] at h_; simp only [List.length_append] at h_ ⊢; omega) fun bg bh oJ oK bT fY fZ => ?_)
     clear fX cK
     have jS : (⟨bg, bh, 5, 1, (tagsK W l (Tree.mk n1 s2 b3 l4 u5) k2 ++ tagsB ((unknownT l u5).take k) ++ (uv ak.toNat)).length + (uv ((whole aj).length)).length, bc (tagsK W l (Tree.mk n1 s2 b3 l4 u5) k2 ++ tagsB ((unknownT l u5).take k) ++ (uv ak.toNat)) ++ bc (uv ((whole aj).length))⟩ : Rw) = brow bg bh 5 (tagsK W l (Tree.mk n1 s2 b3 l4 u5) k2 ++ tagsB ((unknownT l u5).take k) ++ (uv ak.toNat) ++ (uv ((whole aj).length))) := brow_eq (rfl) rfl
     obtain ⟨dJ, bU⟩ := fY.rowEq 1 [brow A_ c_ 5 (bodyB W l v (Tree.mk n1 s2 b3 l4 u5) 0), brow bg bh 5 (tagsK W l (Tree.mk n1 s2 b3 l4 u5) k2 ++ tagsB ((unknownT l u5).take k) ++ (uv ak.toNat) ++ (uv ((whole aj).length))), brow bZ b8 5 (uv ak.toNat), brow cQ cR 5 (uv ((whole aj).length))] jS
     clear fY
     have f7 := EnvOk.pick fZ (ks := [9, 11, 20, 100, 101, 102, 114, 117, 118, 119]) (env' := [(9, .v (.slice A_ ((bodyB W l v (Tree.mk n1 s2 b3 l4 u5) 0).length) c_)), (11, .v (.int .i64 ((tagsN W l (Tree.mk n1 s2 b3 l4 u5) k2 + k : Nat) : Int))), (20, .v (.slice ar ((whole aj).length) au)), (100, .v (.slice am ((unknownT l u5).length) ao)), (101, .v (.int .i64 (((unknownT l u5).length : Nat) : Int))), (102, .v (.int .i64 ((k : Nat) : Int))), (114, .v (.slice aT ((tagsK W l (Tree.mk n1 s2 b3 l4 u5) k2 ++ tagsB ((unknownT l u5).take k) ++ (uv ak.toNat)).length) aU)), (117, .v (.int .u64 (((whole aj).length : Nat) : Int))), (118, .v (.slice cQ ((uv ((whole aj).length)).length) cR)), (119, .v (.slice bg ((tagsK W l (Tree.mk n1 s2 b3 l4 u5) k2 ++ tagsB ((unknownT l u5).take k) ++ (uv ak.toNat)).length + (uv ((whole aj).length)).length) bh))]) kz
     have f8 := f7.cast (env' := [(9, .v (.slice A_ ((bodyB W l v (Tree.mk n1 s2 b3 l4 u5) 0).length) c_)), (11, .v (.int .i64 ((tagsN W l (Tree.mk n1 s2 b3 l4 u5) k2 + k : Nat) : Int))), (20, .v (.slice ar ((whole aj).length) au)), (100, .v (.slice am ((unknownT l u5).length) ao)), (101, .v (.int .i64 (((unknownT l u5).length : Nat) : Int))), (102, .v (.int .i64 ((k : Nat) : Int))), (114, .v (.slice aT ((tagsK W l (Tree.mk n1 s2 b3 l4 u5) k2 ++ tagsB ((unknownT l u5).take k) ++ (uv ak.toNat)).length) aU)), (117, .v (.int .u64 (((whole aj).length : Nat) : Int))), (118, .v (.slice cQ ((uv ((whole aj).length)).length) cR)), (119, .v (.slice bg ((tagsK W l (Tree.mk n1 s2 b3 l4 u5) k2 ++ tagsB ((unknownT l u5).take k) ++ (uv ak.toNat) ++ (uv ((whole aj).length))).length) bh))]) (by simp only [List.length_append, List.length_cons, List.length_nil, Nat.zero_add])
     clear fZ
     clear f7
     refine go_rn [11] [12, 13] [(9, .v (.slice A_ ((bodyB W l v (Tree.mk n1 s2 b3 l4 u5) 0).length) c_)), (11, .v (.int .i64 ((tagsN W l (Tree.mk n1 s2 b3 l4 u5) k2 + k : Nat) : Int))), (100, .v (.slice am ((unknownT l u5).length) ao)), (101, .v (.int .i64 (((unknownT l u5).length : Nat) : Int))), (102, .v (.int .i64 ((k : Nat) : Int))), (119, .v (.slice bg ((tagsK W l (Tree.mk n1 s2 b3 l4 u5) k2 ++ tagsB ((unknownT l u5).take k) ++ (uv ak.toNat) ++ (uv ((whole aj).length))).length) bh)), (120, .v (.slice ar ((whole aj).length) au))] dJ f8 fun oL f9 => ?_
     clear f8
     refine of_op (wpOp_append dJ f9 (k := 1) (d := 121) (t := 22) (e := 5) (size := 1) (bytes := 1) (A := bg) (As := ar) (m0 := ((tagsK W l (Tree.mk n1 s2 b3 l4 u5) k2 ++ tagsB ((unknownT l u5).take k) ++ (uv ak.toNat) ++ (uv ((whole aj).length))).length)) (c := bh) (m := ((whole aj).length)) (cs := au) (xs := (bc (tagsK W l (Tree.mk n1 s2 b3 l4 u5) k2 ++ tagsB ((unknownT l u5).take k) ++ (uv ak.toNat) ++ (uv ((whole aj).length))))) (news := bc (whole aj)) kz kz rfl ((dH.take 32767).move ((((((((((aN.trans aH).trans aR).trans aS).trans bO).trans bP).trans bQ).trans bR).trans bS).trans bT).trans bU).step immM ((((((((((aN.trans aH).trans aR).trans aS).trans bO).trans bP).trans bQ).trans bR).trans bS).trans bT).trans bU).to').src ((dH.take 32767).move ((((((((((aN.trans aH).trans aR).trans aS).trans bO).trans bP).trans bQ).trans bR).trans bS).trans bT).trans bU).step immM ((((((((((aN.trans aH).trans aR).trans aS).trans bO).trans bP).trans bQ).trans bR).trans bS).trans bT).trans bU).to').cap (by have h_ := tagsB_le (l := (unknownT l u5)) (k + 1); rw [tagsB_succ bN] at h_; simp only [List.length_append] at h_ ⊢; omega) fun aK aL oM oN jT ga gb => ?_)
     clear f9 dJ
     have jU : (⟨aK, aL, 5, 1, (tagsK W l (Tree.mk n1 s2 b3 l4 u5) k2 ++ tagsB ((unknownT l u5).take k) ++ (uv ak.toNat) ++ (uv ((whole aj).length))).length + (whole aj).length, bc (tagsK W l (Tree.mk n1 s2 b3 l4 u5) k2 ++ tagsB ((unknownT l u5).take k) ++ (uv ak.toNat) ++ (uv ((whole aj).length))) ++ bc (whole aj)⟩ : Rw) = brow aK aL 5 (tagsK W l (Tree.mk n1 s2 b3 l4 u5) k2 ++ tagsB ((unknownT l u5).take k) ++ (uv ak.toNat) ++ (uv ((whole aj).length)) ++ (whole aj)) := brow_eq (rfl) rfl
     obtain ⟨cL, jV⟩ := ga.rowEq 1 [brow A_ c_ 5 (bodyB W l v (Tree.mk n1 s2 b3 l4 u5) 0), brow aK aL 5 (tagsK W l (Tree.mk n1 s2 b3 l4 u5) k2 ++ tagsB ((unknownT l u5).take k) ++ (uv ak.toNat) ++ (uv ((whole aj).length)) ++ (whole aj)), brow bZ b8 5 (uv ak.toNat), brow cQ cR 5 (uv ((whole aj).length))] jU
     clear ga
     have gc := EnvOk.pick gb (ks := [9, 11, 100, 101, 102, 119, 120, 121]) (env' := [(9, .v (.slice A_ ((bodyB W l v (Tree.mk n1 s2 b3 l4 u5) 0).length) c_)), (11, .v (.int .i64 ((tagsN W l (Tree.mk n1 s2 b3 l4 u5) k2 + k : Nat) : Int))), (100, .v (.slice am ((unknownT l u5).length) ao)), (101, .v (.int .i64 (((unknownT l u5).length : Nat) : Int))), (102, .v (.int .i64 ((k : Nat) : Int))), (119, .v (.slice bg ((tagsK W l (Tree.mk n1 s2 b3 l4 u5) k2 ++ tagsB ((unknownT l u5).take k) ++ (uv ak.toNat) ++ (uv ((whole aj).length))).length) bh)), (120, .v (.slice ar ((whole aj).length) au)), (121, .v (.slice aK ((tagsK W l (Tree.mk n1 s2 b3 l4 u5) k2 ++ tagsB ((unknownT l u5).take k) ++ (uv ak.toNat) ++ (uv ((whole aj).length))).length + (whole aj).length) aL))]) kz
     have gd := gc.cast (env' := [(9, .v (.slice A_ ((bodyB W l v (Tree.mk n1 s2 b3 l4 u5) 0).length) c_)), (11, .v (.int .i64 ((tagsN W l (Tree.mk n1 s2 b3 l4 u5) k2 + k : Nat) : Int))), (100, .v (.slice am ((unknownT l u5).length) ao)), (101, .v (.int .i64 (((unknownT l u5).length : Nat) : Int))), (102, .v (.int .i64 ((k : Nat) : Int))), (119, .v (.slice bg ((tagsK W l (Tree.mk n1 s2 b3 l4 u5) k2 ++ tagsB ((unknownT l u5).take k) ++ (uv ak.toNat) ++ (uv ((whole aj).length))).length) bh)), (120, .v (.slice ar ((whole aj).length) au)), (121, .v (.slice aK ((tagsK W l (Tree.mk n1 s2 b3 l4 u5) k2 ++ tagsB ((unknownT l u5).take k) ++ (uv ak.toNat) ++ (uv ((whole aj).length)) ++ (whole aj)).length) aL))]) (by simp only [List.length_append, List.length_cons, List.length_nil, Nat.zero_add])
     clear gb
     clear gc
     refine go_rn [13] [] [(9, .v (.slice A_ ((bodyB W l v (Tree.mk n1 s2 b3 l4 u5) 0).length) c_)), (10, .v (.slice aK ((tagsK W l (Tree.mk n1 s2 b3 l4 u5) k2 ++ tagsB ((unknownT l u5).take k) ++ (uv ak.toNat) ++ (uv ((whole aj).length)) ++ (whole aj)).length) aL)), (11, .v (.int .i64 ((tagsN W l (Tree.mk n1 s2 b3 l4 u5) k2 + k : Nat) : Int))), (100, .v (.slice am ((unknownT l u5).length) ao)), (101, .v (.int .i64 (((unknownT l u5).length : Nat) : Int))), (102, .v (.int .i64 ((k : Nat) : Int)))] cL gd fun oO ge => ?_
     clear gd
     refine wpOps_nil (then_normal ?_)
     refine go_region [0, 1, 2] kz ?_
     refine go_rn [0, 1, 2] [] [(9, .v (.slice A_ ((bodyB W l v (Tree.mk n1 s2 b3 l4 u5) 0).length) c_)), (10, .v (.slice aK ((tagsK W l (Tree.mk n1 s2 b3 l4 u5) k2 ++ tagsB ((unknownT l u5).take k) ++ (uv ak.toNat) ++ (uv ((whole aj).length)) ++ (whole aj)).length) aL)), (11, .v (.int .i64 (IntKind.i64.wrap (((tagsN W l (Tree.mk n1 s2 b3 l4 u5) k2 + k : Nat) : Int) + 1)))), (100, .v (.slice am ((unknownT l u5).length) ao)), (101, .v (.int .i64 (((unknownT l u5).length : Nat) : Int))), (102, .v (.int .i64 ((k : Nat) : Int)))] cL ge fun oP gg => ?_
     clear ge
     refine wpOps_nil ?_
     refine block_normal ?_
     refine then_normal ?_
     refine go_region [0, 1] kz ?_
     refine go_rn [0, 1] [] [(9, .v (.slice A_ ((bodyB W l v (Tree.mk n1 s2 b3 l4 u5) 0).length) c_)), (10, .v (.slice aK ((tagsK W l (Tree.mk n1 s2 b3 l4 u5) k2 ++ tagsB ((unknownT l u5).take k) ++ (uv ak.toNat) ++ (uv ((whole aj).length)) ++ (whole aj)).length) aL)), (11, .v (.int .i64 (IntKind.i64.wrap (((tagsN W l (Tree.mk n1 s2 b3 l4 u5) k2 + k : Nat) : Int) + 1)))), (100, .v (.slice am ((unknownT l u5).length) ao)), (101, .v (.int .i64 (((unknownT l u5).length : Nat) : Int))), (102, .v (.int .i64 (IntKind.i64.wrap (((k : Nat) : Int) + 1))))] cL gg fun oQ jW => ?_
     clear gg
     refine wpOps_nil (then_normal ?_)
     obtain ⟨cM, jX, jY⟩ := cL.cutB jW 1 [⟨cU, 0, [.int .i64 n1, .slice A6 s2.length c7, .bool b3, .slice A8 l4.length c9, .slice aV u5.length aW], true⟩] [(9, .v (.slice A_ ((bodyB W l v (Tree.mk n1 s2 b3 l4 u5) 0).length) c_)), (10, .v (.slice aK ((tagsK W l (Tree.mk n1 s2 b3 l4 u5) k2 ++ tagsB ((unknownT l u5).take k) ++ (uv ak.toNat) ++ (uv ((whole aj).length)) ++ (whole aj)).length) aL)), (11, .v (.int .i64 (IntKind.i64.wrap (((tagsN W l (Tree.mk n1 s2 b3 l4 u5) k2 + k : Nat) : Int) + 1)))), (100, .v (.slice am ((unknownT l u5).length) ao)), (101, .v (.int .i64 (((unknownT l u5).length : Nat) : Int))), (102, .v (.int .i64 (IntKind.i64.wrap (((k : Nat) : Int) + 1))))]
     obtain ⟨gh, jZ⟩ := jX.cutR 2 [brow A_ c_ 5 (bodyB W l v (Tree.mk n1 s2 b3 l4 u5) 0), brow aK aL 5 (tagsK W l (Tree.mk n1 s2 b3 l4 u5) k2 ++ tagsB ((unknownT l u5).take k) ++ (uv ak.toNat) ++ (uv ((whole aj).length)) ++ (whole aj))]
     have gi : (tagsK W l (Tree.mk n1 s2 b3 l4 u5) k2 ++ tagsB ((unknownT l u5).take k) ++ (uv ak.toNat) ++ (uv ((whole aj).length)) ++ (whole aj)) = (tagsK W l (Tree.mk n1 s2 b3 l4 u5) k2 ++ tagsB ((unknownT l u5).take (k + 1))) := by rw [tagsB_succ bN]; simp only [List.append_assoc]
     have j0 := congrArg (brow aK aL 5) gi
     obtain ⟨j1, j2⟩ := gh.rowEq 1 [brow A_ c_ 5 (bodyB W l v (Tree.mk n1 s2 b3 l4 u5) 0), brow aK aL 5 (tagsK W l (Tree.mk n1 s2 b3 l4 u5) k2 ++ tagsB ((unknownT l u5).take (k + 1)))] j0
     clear gh
     rw [gi] at cM
     have j3 : IntKind.i64.wrap (((k : Nat) : Int) + 1) = ((k + 1 : Nat) : Int) := wrap_succ (by omega)
     rw [j3] at cM
     have j4 : IntKind.i64.wrap (((tagsN W l (Tree.mk n1 s2 b3 l4 u5) k2 + k : Nat) : Int) + 1) = ((tagsN W l (Tree.mk n1 s2 b3 l4 u5) k2 + (k + 1) : Nat) : Int) := by rw [wrap_i64 (by omega) (by omega)]; omega
     rw [j4] at cM
     exact ⟨(unknownT l u5).length - (k + 1), by omega, k + 1, aK, aL, rfl, by omega, cM.pk, j1, ((((((((((((((aH.trans aR).trans aS).trans bO).trans bP).trans bQ).trans bR).trans bS).trans bT).trans bU).trans jT).trans jV).trans jY).trans jZ).trans j2)⟩
    ·
     have lS := of_decide_eq_false dF
     refine wp_exit ?_
     refine then_exit ?_
     refine then_exit ?_
     refine block_exit ?_
     refine then_normal ?_
     refine go_seq_region [0, 1, 2, 3, 4, 5, 6, 7] kz ?_
     refine go_rn [0, 1, 2] [3, 4, 5, 6, 7] [(10, .v (.slice A4_ ((tagsK W l (Tree.mk n1 s2 b3 l4 u5) k2 ++ tagsB ((unknownT l u5).take k)).length) c4_)), (125, .v (.slice A_ ((bodyB W l v (Tree.mk n1 s2 b3 l4 u5) 0).length) c_)), (127, .v (.int .u64 (IntKind.u64.wrap ((tagsN W l (Tree.mk n1 s2 b3 l4 u5) k2 + k : Nat) : Int))))] ba bM fun oR gj => ?_
     clear bM
     have j5 : IntKind.u64.wrap ((tagsN W l (Tree.mk n1 s2 b3 l4 u5) k2 + k : Nat) : Int) = ((tagsN W l (Tree.mk n1 s2 b3 l4 u5) k2 + k : Nat) : Int) := by simp only [wrap_u64, wrap_u32, wrap_u16, IntKind.wrap_i64, IntKind.wrap_i32]; omega
     have gk := EnvOk.pick gj (ks := [10, 125, 127]) (env' := [(10, .v (.slice A4_ ((tagsK W l (Tree.mk n1 s2 b3 l4 u5) k2 ++ tagsB ((unknownT l u5).take k)).length) c4_)), (125, .v (.slice A_ ((bodyB W l v (Tree.mk n1 s2 b3 l4 u5) 0).length) c_)), (127, .v (.int .u64 (IntKind.u64.wrap ((tagsN W l (Tree.mk n1 s2 b3 l4 u5) k2 + k : Nat) : Int))))]) kz
     have gl := gk.cast (env' := [(10, .v (.slice A4_ ((tagsK W l (Tree.mk n1 s2 b3 l4 u5) k2 ++ tagsB ((unknownT l u5).take k)).length) c4_)), (125, .v (.slice A_ ((bodyB W l v (Tree.mk n1 s2 b3 l4 u5) 0).length) c_)), (127, .v (.int .u64 ((tagsN W l (Tree.mk n1 s2 b3 l4 u5) k2 + k : Nat) : Int)))]) (by rw [j5])
     clear gj gk
     refine of_op (wpOp_call gl (f := 127) (vs := [.int .u64 ((tagsN W l (Tree.mk n1 s2 b3 l4 u5) k2 + k : Nat) : Int)]) (d := 128) kz Tryz.call127 (sUvarint (tagsN W l (Tree.mk n1 s2 b3 l4 u5) k2 + k) (by omega) _) ?_)
     rintro e_ oS ⟨cS, cT, rfl, j6, j7⟩
     refine ⟨_, rfl, fun oT gm => ?_⟩
     obtain ⟨cN, lT⟩ := ba.frFresh j7 (brow cS cT 5 (uv (tagsN W l (Tree.mk n1 s2 b3 l4 u5) k2 + k))) (Nat.le_refl _) j6
     clear gl ba
     refine of_op (wpOp_append cN gm (k := 0) (d := 129) (t := 22) (e := 5) (size := 1) (bytes := 1) (A := A_) (As := cS) (m0 := ((bodyB W l v (Tree.mk n1 s2 b3 l4 u5) 0).length)) (c := c_) (m := ((uv (tagsN W l (Tree.mk n1 s2 b3 l4 u5) k2 + k)).length)) (cs := cT) (xs := (bc (bodyB W l v (Tree.mk n1 s2 b3 l4 u5) 0))) (news := bc (uv (tagsN W l (Tree.mk n1 s2 b3 l4 u5) k2 + k))) kz kz rfl (own_src (cN.own 2 _ rfl) (bc_one _)) (own_cap (cN.own 2 _ rfl)) (by have hkk3 : k = (unknownT l u5).length := (by omega); subst hkk3; subst hkk2; simp only [List.length_append, List.take_length] at *; omega) fun bi bj oU oV lU gn gp => ?_)
     clear gm cN
     have j8 : (⟨bi, bj, 5, 1, (bodyB W l v (Tree.mk n1 s2 b3 l4 u5) 0).length + (uv (tagsN W l (Tree.mk n1 s2 b3 l4 u5) k2 + k)).length, bc (bodyB W l v (Tree.mk n1 s2 b3 l4 u5) 0) ++ bc (uv (tagsN W l (Tree.mk n1 s2 b3 l4 u5) k2 + k))⟩ : Rw) = brow bi bj 5 (bodyB W l v (Tree.mk n1 s2 b3 l4 u5) 0 ++ (uv (tagsN W l (Tree.mk n1 s2 b3 l4 u5) k2 + k))) := brow_eq (rfl) rfl
     obtain ⟨bV, lV⟩ := gn.rowEq 0 [brow bi bj 5 (bodyB W l v (Tree.mk n1 s2 b3 l4 u5) 0 ++ (uv (tagsN W l (Tree.mk n1 s2 b3 l4 u5) k2 + k))), brow A4_ c4_ 5 (tagsK W l (Tree.mk n1 s2 b3 l4 u5) k2 ++ tagsB ((unknownT l u5).take k)), brow cS cT 5 (uv (tagsN W l (Tree.mk n1 s2 b3 l4 u5) k2 + k))] j8
     clear gn
     have gq := EnvOk.pick gp (ks := [10, 125, 127, 128, 129]) (env' := [(10, .v (.slice A4_ ((tagsK W l (Tree.mk n1 s2 b3 l4 u5) k2 ++ tagsB ((unknownT l u5).take k)).length) c4_)), (125, .v (.slice A_ ((bodyB W l v (Tree.mk n1 s2 b3 l4 u5) 0).length) c_)), (127, .v (.int .u64 ((tagsN W l (Tree.mk n1 s2 b3 l4 u5) k2 + k : Nat) : Int))), (128, .v (.slice cS ((uv (tagsN W l (Tree.mk n1 s2 b3 l4 u5) k2 + k)).length) cT)), (129, .v (.slice bi ((bodyB W l v (Tree.mk n1 s2 b3 l4 u5) 0).length + (uv (tagsN W l (Tree.mk n1 s2 b3 l4 u5) k2 + k)).length) bj))]) kz
     have gt := gq.cast (env' := [(10, .v (.slice A4_ ((tagsK W l (Tree.mk n1 s2 b3 l4 u5) k2 ++ tagsB ((unknownT l u5).take k)).length) c4_)), (125, .v (.slice A_ ((bodyB W l v (Tree.mk n1 s2 b3 l4 u5) 0).length) c_)), (127, .v (.int .u64 ((tagsN W l (Tree.mk n1 s2 b3 l4 u5) k2 + k : Nat) : Int))), (128, .v (.slice cS ((uv (tagsN W l (Tree.mk n1 s2 b3 l4 u5) k2 + k)).length) cT)), (129, .v (.slice bi ((bodyB W l v (Tree.mk n1 s2 b3 l4 u5) 0 ++ (uv (tagsN W l (Tree.mk n1 s2 b3 l4 u5) k2 + k))).length) bj))]) (by simp only [List.length_append, List.length_cons, List.length_nil, Nat.zero_add])
     clear gp
     clear gq
     refine go_rn [5] [6, 7] [(129, .v (.slice bi ((bodyB W l v (Tree.mk n1 s2 b3 l4 u5) 0 ++ (uv (tagsN W l (Tree.mk n1 s2 b3 l4 u5) k2 + k))).length) bj)), (130, .v (.slice A4_ ((tagsK W l (Tree.mk n1 s2 b3 l4 u5) k2 ++ tagsB ((unknownT l u5).take k)).length) c4_))] bV gt fun oW gv => ?_
     clear gt
     refine of_op (wpOp_append bV gv (k := 0) (d := 131) (t := 22) (e := 5) (size := 1) (bytes := 1) (A := bi) (As := A4_) (m0 := ((bodyB W l v (Tree.mk n1 s2 b3 l4 u5) 0 ++ (uv (tagsN W l (Tree.mk n1 s2 b3 l4 u5) k2 + k))).length)) (c := bj) (m := ((tagsK W l (Tree.mk n1 s2 b3 l4 u5) k2 ++ tagsB ((unknownT l u5).take k)).length)) (cs := c4_) (xs := (bc (bodyB W l v (Tree.mk n1 s2 b3 l4 u5) 0 ++ (uv (tagsN W l (Tree.mk n1 s2 b3 l4 u5) k2 + k))))) (news := bc (tagsK W l (Tree.mk n1 s2 b3 l4 u5) k2 ++ tagsB ((unknownT l u5).take k))) kz kz rfl (own_src (bV.own 1 _ rfl) (bc_one _)) (own_cap (bV.own 1 _ rfl)) (by have hkk3 : k = (unknownT l u5).length := (by omega); subst hkk3; subst hkk2; simp only [List.length_append, List.take_length] at *; omega) fun cd ce oX oY lW gw gx => ?_)
     clear gv bV
     have j9 : (⟨cd, ce, 5, 1, (bodyB W l v (Tree.mk n1 s2 b3 l4 u5) 0 ++ (uv (tagsN W l (Tree.mk n1 s2 b3 l4 u5) k2 + k))).length + (tagsK W l (Tree.mk n1 s2 b3 l4 u5) k2 ++ tagsB ((unknownT l u5).take k)).length, bc (bodyB W l v (Tree.mk n1 s2 b3 l4 u5) 0 ++ (uv (tagsN W l (Tree.mk n1 s2 b3 l4 u5) k2 + k))) ++ bc (tagsK W l (Tree.mk n1 s2 b3 l4 u5) k2 ++ tagsB ((unknownT l u5).take k))⟩ : Rw) = brow cd ce 5 (bodyB W l v (Tree.mk n1 s2 b3 l4 u5) 0 ++ (uv (tagsN W l (Tree.mk n1 s2 b3 l4 u5) k2 + k)) ++ (tagsK W l (Tree.mk n1 s2 b3 l4 u5) k2 ++ tagsB ((unknownT l u5).take k))) := brow_eq (rfl) rfl
     obtain ⟨dK, lX⟩ := gw.rowEq 0 [brow cd ce 5 (bodyB W l v (Tree.mk n1 s2 b3 l4 u5) 0 ++ (uv (tagsN W l (Tree.mk n1 s2 b3 l4 u5) k2 + k)) ++ (tagsK W l (Tree.mk n1 s2 b3 l4 u5) k2 ++ tagsB ((unknownT l u5).take k))), brow A4_ c4_ 5 (tagsK W l (Tree.mk n1 s2 b3 l4 u5) k2 ++ tagsB ((unknownT l u5).take k)), brow cS cT 5 (uv (tagsN W l (Tree.mk n1 s2 b3 l4 u5) k2 + k))] j9
     clear gw
     have gy := EnvOk.pick gx (ks := [129, 130, 131]) (env' := [(129, .v (.slice bi ((bodyB W l v (Tree.mk n1 s2 b3 l4 u5) 0 ++ (uv (tagsN W l (Tree.mk n1 s2 b3 l4 u5) k2 + k))).length) bj)), (130, .v (.slice A4_ ((tagsK W l (Tree.mk n1 s2 b3 l4 u5) k2 ++ tagsB ((unknownT l u5).take k)).length) c4_)), (131, .v (.slice cd ((bodyB W l v (Tree.mk n1 s2 b3 l4 u5) 0 ++ (uv (tagsN W l (Tree.mk n1 s2 b3 l4 u5) k2 + k))).length + (tagsK W l (Tree.mk n1 s2 b3 l4 u5) k2 ++ tagsB ((unknownT l u5).take k)).length) ce))]) kz
     have gz := gy.cast (env' := [(129, .v (.slice bi ((bodyB W l v (Tree.mk n1 s2 b3 l4 u5) 0 ++ (uv (tagsN W l (Tree.mk n1 s2 b3 l4 u5) k2 + k))).length) bj)), (130, .v (.slice A4_ ((tagsK W l (Tree.mk n1 s2 b3 l4 u5) k2 ++ tagsB ((unknownT l u5).take k)).length) c4_)), (131, .v (.slice cd ((bodyB W l v (Tree.mk n1 s2 b3 l4 u5) 0 ++ (uv (tagsN W l (Tree.mk n1 s2 b3 l4 u5) k2 + k)) ++ (tagsK W l (Tree.mk n1 s2 b3 l4 u5) k2 ++ tagsB ((unknownT l u5).take k))).length) ce))]) (by simp only [List.length_append, List.length_cons, List.length_nil, Nat.zero_add])
     clear gx
     clear gy
     refine go_rn [7] [] [(8, .v (.slice cd ((bodyB W l v (Tree.mk n1 s2 b3 l4 u5) 0 ++ (uv (tagsN W l (Tree.mk n1 s2 b3 l4 u5) k2 + k)) ++ (tagsK W l (Tree.mk n1 s2 b3 l4 u5) k2 ++ tagsB ((unknownT l u5).take k))).length) ce))] dK gz fun oZ ka => ?_
     clear gz
     refine wpOps_nil (then_normal ?_)
     refine wp_ret ?_
     refine leave ka dK.cells (v := .slice cd ((bodyB W l v (Tree.mk n1 s2 b3 l4 u5) 0 ++ (uv (tagsN W l (Tree.mk n1 s2 b3 l4 u5) k2 + k)) ++ (tagsK W l (Tree.mk n1 s2 b3 l4 u5) k2 ++ tagsB ((unknownT l u5).take k))).length) ce) kz ?_
     have hkk3 : k = (unknownT l u5).length := by omega
     exact fresh_end dK (k := 0) rfl (by rw [show flex = true by simpa using cr, partW_flex, hkk3, hkk2, List.take_length])
theorem sPartOK : ∀ d, PartOK d
 | 0 => fun A c l v flex ct t w F hl hd ht hr => sPart (fun _ _ => []) A c l v flex ct t w F (fun cf f ct t w F hm hf ht hr => by
   obtain ⟨i, hi⟩ := List.mem_iff_getElem?.1 hm
   have h := depths_get hi
   obtain ⟨k, x1, x2, x3, x4, x5, x6, l, A, c, xs, rfl, _⟩ := hf.open_
   rw [depth_mk] at h; omega) hl ht hr
 | d + 1 => fun A c l v flex ct t w F hl hd ht hr => sPart (fun f t => fieldD d f v flex t) A c l v flex ct t w F (fun cf f ct t w F hm hf ht hr => sField (sPartOK d) cf f v flex ct t w F hf (by
   obtain ⟨i, hi⟩ := List.mem_iff_getElem?.1 hm
   have h := depths_get hi
   obtain ⟨k, x1, x2, x3, x4, x5, x6, l, A, c, xs, rfl, _⟩ := hf.open_
   rw [depth_mk] at h
   show depths l ≤ d
   omega) ht hr) hl ht hr
theorem sWrite {d : Nat} (A : Option Addr) (c : Nat) (l : List Fld) (x v : Int) (ct : List Value) (t : Tree) (w : World) (F : Nat → Nat → Prop) (hl : FldsR w F A c l) (hd : depths l ≤ d) (ht : TreeR w F ct t) (hroom : (writeB d l x v t).length ≤ 1099511627776) :
  Calls Tryz.prog 18 #[.agg #[.slice A l.length c, .int .i64 x], .int .i64 v, .agg ct.toArray] w (FreshB w 5 (writeB d l x v t)) := by
 obtain ⟨xfs, h1, h2⟩ := hl.ex
 have hsm := h1.small
 obtain ⟨n1, s2, b3, l4, u5, A6, c7, A8, c9, ag, ah, aI, rfl, rfl, aJ, aK, aV, aW⟩ := ht.open_
 have aG := aJ.small
 have aH := aK.small
 refine enter (n := 21) Tryz.func18 rfl Tryz.ntmps18 kz fun a hE => ?_
 have hW := WOk.start w Nil
 refine go_seq_region [0, 1, 2] kz ?_
 refine of_op (wpOp_box hW hE (d := 3) (cs := [.slice A l.length c, .int .i64 x]) kz fun aX aY aZ aL aM aN ai aj => ?_)
 clear hE hW
 refine of_op (wpOp_box ai aj (d := 5) (cs := [.int .i64 n1, .slice A6 s2.length c7, .bool b3, .slice A8 l4.length c9, .slice ag u5.length ah]) kz fun ba bd bf aO aP aQ aa ak => ?_)
 clear aj ai
 refine go_rn [2] [] [(1, .v (.int .i64 v)), (3, .p 0 0), (5, .p 1 0)] aa ak fun bg al => ?_
 clear ak
 refine wpOps_nil (then_normal ?_)
 refine go_seq_region [0, 1, 2, 3, 4, 5, 6, 7, 8, 9, 10, 11, 12, 13, 14] kz ?_
 refine go_rn [0, 1, 2, 3, 4, 5, 6] [7, 8, 9, 10, 11, 12, 13, 14] [(1, .v (.int .i64 v)), (3, .p 0 0), (5, .p 1 0), (8, .v (.slice A l.length c)), (9, .v (.int .i64 v)), (13, .v (.bool (decide (x ≥ 0))))] aa al fun bh ac => ?_
 clear al
 refine (Bool.eq_false_or_eq_true (decide (x ≥ 0))).elim (fun ab => ?_) (fun ab => ?_)
 ·
  have aR := of_decide_eq_true ab
  have am := ac.cast (env' := [(1, .v (.int .i64 v)), (3, .p 0 0), (5, .p 1 0), (8, .v (.slice A l.length c)), (9, .v (.int .i64 v)), (13, .v (.bool true))]) (by rw [ab])
  clear ac
  refine go_rn [7, 8, 9, 10, 11, 12] [13, 14] [(8, .v (.slice A l.length c)), (9, .v (.int .i64 v)), (18, .v (.bool (decide (v ≥ x)))), (19, .v (.agg #[.int .i64 n1, .slice A6 s2.length c7, .bool b3, .slice A8 l4.length c9, .slice ag u5.length ah]))] aa am fun bi ao => ?_
  clear am
  refine of_op (wpOp_call ao (f := 56) (vs := [.slice A l.length c, .int .i64 v, .bool (decide (v ≥ x)), .agg #[.int .i64 n1, .slice A6 s2.length c7, .bool b3, .slice A8 l4.length c9, .slice ag u5.length ah]]) (d := 20) kz Tryz.call56 (sPartOK _ _ _ l v (decide (v ≥ x)) _ (Tree.mk n1 s2 b3 l4 u5) _ _ ⟨xfs, (h1.move aa.step nilM aa.imm), (fun i_ x_ h_ => ((h2 i_ x_ h_).move aa.step nilM aa.imm))⟩ hd (ht.move aa.step nilM aa.imm) (by simpa [writeB, ab] using hroom)) ?_)
  rintro e_ bj ⟨aw, ax, rfl, ay, az⟩
  refine ⟨_, rfl, fun bk ap => ?_⟩
  obtain ⟨ae, aS⟩ := aa.frFresh az (brow aw ax 5 (partB d l v (decide (v ≥ x)) (Tree.mk n1 s2 b3 l4 u5))) (Nat.le_refl _) ay
  clear ao aa
  refine go_rn [14] [] [(6, .v (.slice aw ((partB d l v (decide (v ≥ x)) (Tree.mk n1 s2 b3 l4 u5)).length) ax))] ae ap fun bn aA => ?_
  clear ap
  refine wpOps_nil (then_normal ?_)
  refine wp_ret ?_
  refine leave aA ae.cells (v := .slice aw ((partB d l v (decide (v ≥ x)) (Tree.mk n1 s2 b3 l4 u5)).length) ax) kz ?_
  exact fresh_end ae (k := 0) rfl (by simp [writeB, ab])
 ·
  have aT := of_decide_eq_false ab
  have ar := ac.cast (env' := [(1, .v (.int .i64 v)), (3, .p 0 0), (5, .p 1 0), (8, .v (.slice A l.length c)), (9, .v (.int .i64 v)), (13, .v (.bool false))]) (by rw [ab])
  clear ac
  refine go_rn [7, 8, 9, 10, 11, 12] [13, 14] [(8, .v (.slice A l.length c)), (9, .v (.int .i64 v)), (18, .v (.bool false)), (19, .v (.agg #[.int .i64 n1, .slice A6 s2.length c7, .bool b3, .slice A8 l4.length c9, .slice ag u5.length ah]))] aa ar fun bo au => ?_
  clear ar
  refine of_op (wpOp_call au (f := 56) (vs := [.slice A l.length c, .int .i64 v, .bool false, .agg #[.int .i64 n1, .slice A6 s2.length c7, .bool b3, .slice A8 l4.length c9, .slice ag u5.length ah]]) (d := 20) kz Tryz.call56 (sPartOK _ _ _ l v false _ (Tree.mk n1 s2 b3 l4 u5) _ _ ⟨xfs, (h1.move aa.step nilM aa.imm), (fun i_ x_ h_ => ((h2 i_ x_ h_).move aa.step nilM aa.imm))⟩ hd (ht.move aa.step nilM aa.imm) (by simpa [writeB, ab] using hroom)) ?_)
  rintro e_ bp ⟨aB, aC, rfl, aD, aE⟩
  refine ⟨_, rfl, fun bq av => ?_⟩
  obtain ⟨af, aU⟩ := aa.frFresh aE (brow aB aC 5 (partB d l v false (Tree.mk n1 s2 b3 l4 u5))) (Nat.le_refl _) aD
  clear au aa
  refine go_rn [14] [] [(6, .v (.slice aB ((partB d l v false (Tree.mk n1 s2 b3 l4 u5)).length) aC))] af av fun bt aF => ?_
  clear av
  refine wpOps_nil (then_normal ?_)
  refine wp_ret ?_
  refine leave aF af.cells (v := .slice aB ((partB d l v false (Tree.mk n1 s2 b3 l4 u5)).length) aC) kz ?_
  exact fresh_end af (k := 0) rfl (by simp [writeB, ab])
def sDescribeACLsRequestF : List Fld := [(Fld.mk 1 0 (-1) (-1) (-1) 0 0 []), (Fld.mk 8 0 (-1) 0 (-1) 0 0 []), (Fld.mk 1 1 (-1) (-1) (-1) 3 0 []), (Fld.mk 8 0 (-1) 0 (-1) 0 0 []), (Fld.mk 8 0 (-1) 0 (-1) 0 0 []), (Fld.mk 1 0 (-1) (-1) (-1) 0 0 []), (Fld.mk 1 0 (-1) (-1) (-1) 0 0 [])]
def sDescribeACLsRequestX : Int := 2
theorem sDescribeACLsRequest (w : World) (F : Nat → Nat → Prop) : Calls Tryz.prog 26 #[] w (GivesM w F sDescribeACLsRequestF sDescribeACLsRequestX) := by
 refine enter (n := 10) Tryz.func26 rfl Tryz.ntmps26 kz fun a hE => ?_
 have hW := WOk.start w Nil
 refine go_seq_region [0] kz ?_
 refine of_op (wpOp_alloc hW hE (d := 0) (cs := [.slice none 0 0, .int .i64 0]) kz fun b1 a2 w3 hb4 hz5 hF6 hW7 hE8 => ?_)
 clear hE hW
 refine wpOps_nil (then_normal ?_)
 refine go_seq_region [0, 1, 2, 3, 4, 5, 6, 7, 8, 9] kz ?_
 refine go_rn [0, 1, 2, 3, 4, 5, 6] [7, 8, 9] [(0, .p 0 0), (1, .v (.agg #[.int .i64 1, .int .i64 0, .int .i64 (-1), .int .i64 (-1), .int .i64 (-1), .int .i64 0, .int .i64 0, .slice none 0 0])), (2, .v (.agg #[.int .i64 8, .int .i64 0, .int .i64 (-1), .int .i64 0, .int .i64 (-1), .int .i64 0, .int .i64 0, .slice none 0 0])), (3, .v (.agg #[.int .i64 1, .int .i64 1, .int .i64 (-1), .int .i64 (-1), .int .i64 (-1), .int .i64 3, .int .i64 0, .slice none 0 0])), (4, .v (.agg #[.int .i64 8, .int .i64 0, .int .i64 (-1), .int .i64 0, .int .i64 (-1), .int .i64 0, .int .i64 0, .slice none 0 0])), (5, .v (.agg #[.int .i64 8, .int .i64 0, .int .i64 (-1), .int .i64 0, .int .i64 (-1), .int .i64 0, .int .i64 0, .slice none 0 0])), (6, .v (.agg #[.int .i64 1, .int .i64 0, .int .i64 (-1), .int .i64 (-1), .int .i64 (-1), .int .i64 0, .int .i64 0, .slice none 0 0])), (7, .v (.agg #[.int .i64 1, .int .i64 0, .int .i64 (-1), .int .i64 (-1), .int .i64 (-1), .int .i64 0, .int .i64 0, .slice none 0 0]))] hW7 hE8 fun a9 af => ?_
 clear hE8
 refine of_op (wpOp_lit hW7 af (e := 52) (size := 8) (len := 7) (cs := [.int .i64 1, .int .i64 0, .int .i64 (-1), .int .i64 (-1), .int .i64 (-1), .int .i64 0, .int .i64 0, .slice none 0 0, .int .i64 8, .int .i64 0, .int .i64 (-1), .int .i64 0, .int .i64 (-1), .int .i64 0, .int .i64 0, .slice none 0 0, .int .i64 1, .int .i64 1, .int .i64 (-1), .int .i64 (-1), .int .i64 (-1), .int .i64 3, .int .i64 0, .slice none 0 0, .int .i64 8, .int .i64 0, .int .i64 (-1), .int .i64 0, .int .i64 (-1), .int .i64 0, .int .i64 0, .slice none 0 0, .int .i64 8, .int .i64 0, .int .i64 (-1), .int .i64 0, .int .i64 (-1), .int .i64 0, .int .i64 0, .slice none 0 0, .int .i64 1, .int .i64 0, .int .i64 (-1), .int .i64 (-1), .int .i64 (-1), .int .i64 0, .int .i64 0, .slice none 0 0, .int .i64 1, .int .i64 0, .int .i64 (-1), .int .i64 (-1), .int .i64 (-1), .int .i64 0, .int .i64 0, .slice none 0 0]) (d := 8) kz kz fun ai ap ar ak al am ac ag => ?_)
 clear af hW7
 refine go_rn [8] [9] [(0, .p 0 0), (9, .v (.agg #[.slice (some ⟨ai, 0, none⟩) 7 7, .int .i64 2]))] ac ag fun au ah => ?_
 clear ag
 refine of_op (wpOp_store ac ah (oi := 0) (cs := [.slice (some ⟨ai, 0, none⟩) 7 7, .int .i64 2]) kz fun aa ao ae aj => ?_)
 clear ah ac
 refine wpOps_nil (then_normal ?_)
 refine wp_ret ?_
 refine leave aj ae.cells (v := .agg #[.slice (some ⟨ai, 0, none⟩) 7 7, .int .i64 2]) kz ?_
 have ab := Flds.slots (F := F) ae (k := 0) (n := 7) (xs := [.int .i64 1, .int .i64 0, .int .i64 (-1), .int .i64 (-1), .int .i64 (-1), .int .i64 0, .int .i64 0, .slice none 0 0, .int .i64 8, .int .i64 0, .int .i64 (-1), .int .i64 0, .int .i64 (-1), .int .i64 0, .int .i64 0, .slice none 0 0, .int .i64 1, .int .i64 1, .int .i64 (-1), .int .i64 (-1), .int .i64 (-1), .int .i64 3, .int .i64 0, .slice none 0 0, .int .i64 8, .int .i64 0, .int .i64 (-1), .int .i64 0, .int .i64 (-1), .int .i64 0, .int .i64 0, .slice none 0 0, .int .i64 8, .int .i64 0, .int .i64 (-1), .int .i64 0, .int .i64 (-1), .int .i64 0, .int .i64 0, .slice none 0 0, .int .i64 1, .int .i64 0, .int .i64 (-1), .int .i64 (-1), .int .i64 (-1), .int .i64 0, .int .i64 0, .slice none 0 0, .int .i64 1, .int .i64 0, .int .i64 (-1), .int .i64 (-1), .int .i64 (-1), .int .i64 0, .int .i64 0, .slice none 0 0]) rfl (Flds.snoc (Flds.snoc (Flds.snoc (Flds.snoc (Flds.snoc (Flds.snoc (Flds.snoc (Flds.nil _ _) (c := [.int .i64 1, .int .i64 0, .int .i64 (-1), .int .i64 (-1), .int .i64 (-1), .int .i64 0, .int .i64 0, .slice none 0 0]) (x := (Fld.mk 1 0 (-1) (-1) (-1) 0 0 [])) (FldR.mk (l := []) _ (noFlds aa (Fp F w)).1 (noFlds aa (Fp F w)).2)) (c := [.int .i64 8, .int .i64 0, .int .i64 (-1), .int .i64 0, .int .i64 (-1), .int .i64 0, .int .i64 0, .slice none 0 0]) (x := (Fld.mk 8 0 (-1) 0 (-1) 0 0 [])) (FldR.mk (l := []) _ (noFlds aa (Fp F w)).1 (noFlds aa (Fp F w)).2)) (c := [.int .i64 1, .int .i64 1, .int .i64 (-1), .int .i64 (-1), .int .i64 (-1), .int .i64 3, .int .i64 0, .slice none 0 0]) (x := (Fld.mk 1 1 (-1) (-1) (-1) 3 0 [])) (FldR.mk (l := []) _ (noFlds aa (Fp F w)).1 (noFlds aa (Fp F w)).2)) (c := [.int .i64 8, .int .i64 0, .int .i64 (-1), .int .i64 0, .int .i64 (-1), .int .i64 0, .int .i64 0, .slice none 0 0]) (x := (Fld.mk 8 0 (-1) 0 (-1) 0 0 [])) (FldR.mk (l := []) _ (noFlds aa (Fp F w)).1 (noFlds aa (Fp F w)).2)) (c := [.int .i64 8, .int .i64 0, .int .i64 (-1), .int .i64 0, .int .i64 (-1), .int .i64 0, .int .i64 0, .slice none 0 0]) (x := (Fld.mk 8 0 (-1) 0 (-1) 0 0 [])) (FldR.mk (l := []) _ (noFlds aa (Fp F w)).1 (noFlds aa (Fp F w)).2)) (c := [.int .i64 1, .int .i64 0, .int .i64 (-1), .int .i64 (-1), .int .i64 (-1), .int .i64 0, .int .i64 0, .slice none 0 0]) (x := (Fld.mk 1 0 (-1) (-1) (-1) 0 0 [])) (FldR.mk (l := []) _ (noFlds aa (Fp F w)).1 (noFlds aa (Fp F w)).2)) (c := [.int .i64 1, .int .i64 0, .int .i64 (-1), .int .i64 (-1), .int .i64 (-1), .int .i64 0, .int .i64 0, .slice none 0 0]) (x := (Fld.mk 1 0 (-1) (-1) (-1) 0 0 [])) (FldR.mk (l := []) _ (noFlds aa (Fp F w)).1 (noFlds aa (Fp F w)).2)) rfl (by decide)
 exact ⟨_, _, rfl, ⟨_, ab.1, ab.2⟩, ae.step⟩
end Go.Proofs.YtgolpmkenmedoaaGreatDoor.ME
namespace Go.Proofs.YtgolpmkenmedoaaGreatDoor.ME
open Go
open Go.RowKit
set_option linter.unusedVariables false
set_option linter.unusedSimpArgs false
set_option maxRecDepth 20000
def canDescribeACLsRequest (T : Tree) : Prop := (True) ∧ ((octOf (T.at_ 1)).length ≤ 32767) ∧ (True) ∧ ((octOf (T.at_ 3)).length ≤ 32767) ∧ ((octOf (T.at_ 4)).length ≤ 32767) ∧ (True) ∧ (True) ∧ canU T.U ∧ True
theorem canfitDescribeACLsRequest (v : Int) (t : Tree) : canDescribeACLsRequest (fitT v 8 sDescribeACLsRequestF t) := by
 unfold canDescribeACLsRequest
 exact ⟨(trivial), (octs_le2 (d := 7) (show sDescribeACLsRequestF[1]? = _ from rfl) (by decide)), (trivial), (octs_le2 (d := 7) (show sDescribeACLsRequestF[3]? = _ from rfl) (by decide)), (octs_le2 (d := 7) (show sDescribeACLsRequestF[4]? = _ from rfl) (by decide)), (trivial), (trivial), (canU_fit), (trivial)⟩
set_option maxHeartbeats 4000000 in
theorem pureDescribeACLsRequest (v : Int) (h0 : 0 ≤ v) (h1 : v < 32768) (t : Tree) : tDescribeACLsRequest v (fitT v 8 sDescribeACLsRequestF t) = writeB 8 sDescribeACLsRequestF sDescribeACLsRequestX v t := by
 have ae : ((fitT v 8 sDescribeACLsRequestF t).at_ 0).N = (t.at_ 0).N := fit_N (d := 7) (show sDescribeACLsRequestF[0]? = _ from rfl) (by decide)
 have aa := fit_o (v := v) (d := 7) (t := t) (l := sDescribeACLsRequestF) (i := 1) (show sDescribeACLsRequestF[1]? = _ from rfl) (by decide)
 have af : ((fitT v 8 sDescribeACLsRequestF t).at_ 2).N = (t.at_ 2).N := fit_N (d := 7) (show sDescribeACLsRequestF[2]? = _ from rfl) (by decide)
 have ab := fit_o (v := v) (d := 7) (t := t) (l := sDescribeACLsRequestF) (i := 3) (show sDescribeACLsRequestF[3]? = _ from rfl) (by decide)
 have ac := fit_o (v := v) (d := 7) (t := t) (l := sDescribeACLsRequestF) (i := 4) (show sDescribeACLsRequestF[4]? = _ from rfl) (by decide)
 have ag : ((fitT v 8 sDescribeACLsRequestF t).at_ 5).N = (t.at_ 5).N := fit_N (d := 7) (show sDescribeACLsRequestF[5]? = _ from rfl) (by decide)
 have ah : ((fitT v 8 sDescribeACLsRequestF t).at_ 6).N = (t.at_ 6).N := fit_N (d := 7) (show sDescribeACLsRequestF[6]? = _ from rfl) (by decide)
 unfold tDescribeACLsRequest
 simp only [fit_U, tagsR_whole, wholeU_len, List.flatMap_map, List.length_map, ae, aa.1, aa.2, af, ab.1, ab.2, ac.1, ac.2, ag, ah]
 try simp only [be4_i32', be2_i16, be8_i64, be1_i8, be2_wrap, sixteenB_uuid, bool8, be8_f64]
 by_cases c0 : v ≥ 1 <;> by_cases c1 : v ≥ 2 <;> by_cases n0 : Fld.nul (Fld.mk 8 0 (-1) 0 (-1) 0 0 []) v (t.at_ 1) = true <;> by_cases n1 : Fld.nul (Fld.mk 8 0 (-1) 0 (-1) 0 0 []) v (t.at_ 3) = true <;> by_cases n2 : Fld.nul (Fld.mk 8 0 (-1) 0 (-1) 0 0 []) v (t.at_ 4) = true <;> (try have m0 := nul_ge n0) <;> (try have m1 := nul_ge n1) <;> (try have m2 := nul_ge n2) <;> first | (exfalso; omega) | simp [writeB, sDescribeACLsRequestX, sDescribeACLsRequestF, partB, partW, bodyB, Fld.tag, Fld.has, fieldB, Fld.kind, Fld.null, Fld.of, Fld.sub, valueB, widthI, tagsN, tagsK, knownI, countedB, uv0, nul_no, c0, c1, n0, n1, n2, h0]
end Go.Proofs.YtgolpmkenmedoaaGreatDoor.ME
namespace Go.Proofs.YtgolpmkenmedoaaGreatDoor.ME
open Go
open Go.RowKit
set_option linter.unusedVariables false
set_option linter.unusedSimpArgs false
def Moves (ok : World → (Nat → Nat → Prop) → DV → Prop) : Prop := ∀ {w w' : World} {F F' M : Nat → Nat → Prop} (d : DV), Step w w' M → (∀ b o, F b o → b < w.heap.size → ¬ M b o) → (∀ b o, F b o → b < w.heap.size → F' b o) → ok w F d → ok w' F' d
section
variable {w w' w0 : World} {F F' M : Nat → Nat → Prop} {size : Nat} {cells : DV → List Value} {ok : World → (Nat → Nat → Prop) → DV → Prop} {rel : DV → Tree → Prop} {xs : List Value} {ds : List DV} {ts : List Tree} {A : Option Addr} {c : Nat} {f : Nat → DV} {tb : Tb} {rs rs' : List Rw}
end
theorem wp_join {P : Program} {c : Code} {Mid N : Act → World → Prop} {Q : Exit → Act → World → Prop} {a : Act} {w : World} (h1 : c.wp P (Exit.then Mid Q) a w) (h2 : ∀ a' w', Mid a' w' → N a' w') : c.wp P (Exit.then N Q) a w :=
 wp_mono h1 fun e a' w' h => by
  cases e <;> first | exact h2 a' w' h | exact h
def dvN (n : Int) : DV := .mk n false ByteArray.empty [] none 0 0 none [] (fun _ => .leaf)
def dvT (A : Option Addr) (s : ByteArray) : DV := .mk 0 false s [] A 0 0 none [] (fun _ => .leaf)
def dvP (m : Option Nat) (u : List (Int × Bs)) (fs : List DV) : DV := .mk 0 false ByteArray.empty [] none 0 0 m u (fun i => fs.getD i .leaf)
theorem EnvOk.retable {n : Nat} {env : Env} {a : Act} (tb : Tb) (h : EnvOk n [] env a) : EnvOk n tb env a := h.table fun i hi => absurd hi (Nat.not_lt_zero i)
def cutA (A : Option Addr) (cp j : Nat) : Option Addr := if cp = j then A else A.map (·.add j)
theorem getD_drop (s : Bs) (j i : Nat) : (s.drop j).getD i 0 = s.getD (j + i) 0 := by
 rw [List.getD_eq_getElem?_getD, List.getD_eq_getElem?_getD, List.getElem?_drop]
theorem Octs.drop {w : World} {F : Nat → Nat → Prop} {A : Option Addr} {c : Nat} {s : Bs} (h : Octs w F A c s) {j : Nat} (hj : j ≤ s.length) : Octs w F (cutA A c j) (c - j) (s.drop j) := by
 have hle := h.le
 have hsm := h.small
 unfold Octs
 rw [List.length_drop]
 refine ⟨by omega, by omega, fun hA => ?_, fun ad hA hn => ?_⟩
 ·have hn : A = none := by
   unfold cutA at hA
   split at hA
   ·exact hA
   ·cases A with
    | none => rfl
    | some _ => cases hA
  have := h.none_ hn
  omega
 ·have hA' : A.map (·.add j) = some ad := by
   unfold cutA at hA
   rwa [if_neg (by omega)] at hA
  cases hq : A with
  | none => rw [hq] at hA'; cases hA'
  | some ad0 =>
   rw [hq] at hA'
   obtain ⟨b, o, rfl, h2⟩ := h.some_ ad0 hq (by omega)
   simp only [Option.map_some, Option.some.injEq, add_none] at hA'
   subst hA'
   refine ⟨b, o + j, rfl, fun i hi => ?_⟩
   rw [getD_drop, show o + j + i * 1 = o + (j + i) * 1 by omega]
   exact h2 (j + i) (by omega)
theorem Octs.cutS {w : World} {F : Nat → Nat → Prop} {A : Option Addr} {c : Nat} {s : Bs} (h : Octs w F A c s) {j : Nat} (hj : j ≤ s.length) : Octs w F A j (s.take j) := by
 have h1 := h.take j
 refine ⟨by rw [List.length_take]; omega, h1.small, fun hA => ?_, h1.some_⟩
 have := h.none_ hA
 rw [List.length_take]; omega
section
variable {P : Program} {ops : Array Oper} {Q : Exit → Act → World → Prop} {n : Nat} {tb : Tb} {env : Env} {rs : List Rw} {w0 : World} {M : Nat → Nat → Prop} {a : Act} {w : World}
theorem run_cut_lo {t e : TypeId} {bytes : Nat} (ht : rowTy P t = some (e, 1, bytes)) {A : Option Addr} {m cp : Nat} {k : IntKind} {q : Int} (h0 : 0 ≤ q) (h1 : q ≤ m) :
  (Instr.sliceAt t (.slice A m cp) (some (.int k q)) none none).run P w = .ok (.slice (cutA A cp q.toNat) (m - q.toNat) (cp - q.toNat)) w := by
 obtain ⟨ht', inf, z, hi, hz, hzs, hs1, rfl, hsz, hbp⟩ := rowTy_ok ht
 unfold Instr.sliceAt
 simp only [Sem.run_bind, run_underlying ht', Result.andThen_ok]
 unfold Instr.slice
 have hb : (0 ≤ q ∧ q ≤ (m : Int)) := ⟨h0, h1⟩
 simp only [Sem.run_bind, run_underlying ht', Result.andThen_ok, Instr.sliceBounds, Instr.sliceBound, asIntOf, Sem.run_pure, if_pos hb, run_sizeOf' hi, hs1, Nat.mul_one]
 rfl
theorem run_cut_hm {t e : TypeId} {bytes : Nat} (ht : rowTy P t = some (e, 1, bytes)) {A : Option Addr} {m cp : Nat} {k : IntKind} {q : Int} (h0 : 0 ≤ q) (h1 : q ≤ cp) :
  (Instr.sliceAt t (.slice A m cp) none (some (.int k q)) (some (.int k q))).run P w = .ok (.slice A q.toNat q.toNat) w := by
 obtain ⟨ht', inf, z, hi, hz, hzs, hs1, rfl, hsz, hbp⟩ := rowTy_ok ht
 unfold Instr.sliceAt
 simp only [Sem.run_bind, run_underlying ht', Result.andThen_ok]
 unfold Instr.slice
 have hb : (0 ≤ q ∧ q ≤ (cp : Int)) := ⟨h0, h1⟩
 have hb2 : (0 ≤ q ∧ q ≤ ((q.toNat : Nat) : Int)) := ⟨h0, by omega⟩
 simp only [Sem.run_bind, run_underlying ht', Result.andThen_ok, Instr.sliceBounds, Instr.sliceBound, asIntOf, Sem.run_pure, if_pos hb, if_pos hb2, run_sizeOf' hi]
 cases A with
 | none => simp
 | some ad => simp [Addr.add]
theorem wpOp_cut_lo {i d j : Nat} {N : Act → World → Prop} {t e : TypeId} {bytes m cp : Nat} {A : Option Addr} {q : Int} (hE : EnvOk n tb env a) (h : cutE tb env ops n i = some (t, .slice A m cp, some q, none, d)) (ht : rowTy P t = some (e, 1, bytes)) (hq : q = (j : Int)) (hj : j ≤ m)
  (K : ∀ a', EnvOk n tb ((d, .v (.slice (cutA A cp j) (m - j) (cp - j))) :: env) a' → N a' w) : wpOp P ops Q i N a w := by
 have h0 : 0 ≤ q := by omega
 have h1 : q ≤ m := by omega
 obtain rfl : j = q.toNat := by omega
 unfold cutE at h
 split at h
 ·rename_i t' x lo hi d' ho
  have hd : d' < n := (opAt_ok hE ho).choose_spec.2.2.2.1
  split at h
  ·simp at h
  ·rename_i s l hs
   split at h
   ·rename_i k q' hs2
    simp only [Option.some.injEq, Prod.mk.injEq, true_and] at h
    obtain ⟨rfl, hsv, rfl, rfl⟩ := h
    have e1 := (opd_ok hE hs).1
    have e2 := (opd_ok hE hs2).1
    refine wpOp_value hE ho (v := .slice (cutA A cp q'.toNat) (m - q'.toNat) (cp - q'.toNat)) (w' := w) (fun o' hop => ?_) (K _ (hE.put hd (.v _) trivial))
    unfold execOp
    rw [hop]
    rw [hsv] at e1
    simp only [SV.val] at e2
    simp only [e1, e2, Option.map_none, Option.map_some, Sem.run_bind, run_cut_lo ht h0 h1, Result.andThen_ok, Sem.run_pure]
   ·cases h
  ·split at h <;> simp at h
  ·split at h <;> simp at h
  ·cases h
 ·cases h
def cutmE (tb : Tb) (env : Env) (ops : Array Oper) (n i : Nat) : Option (TypeId × Value × IntKind × Int × IntKind × Int × Nat) :=
 match opAt env ops n i with
 | some (.slice t x none (some h) (some m), d) => match opd env x, opd env h, opd env m with
  | some s, some (.v (.int k p)), some (.v (.int k' q)) => some (t, s.val tb, k, p, k', q, d)
  | _, _, _ => none
 | _ => none
theorem wpOp_cutm {i d j : Nat} {N : Act → World → Prop} {t e : TypeId} {bytes m cp : Nat} {A : Option Addr} {k : IntKind} {q : Int} (hE : EnvOk n tb env a) (h : cutmE tb env ops n i = some (t, .slice A m cp, k, q, k, q, d)) (ht : rowTy P t = some (e, 1, bytes)) (hq : q = (j : Int)) (hj : j ≤ cp)
  (K : ∀ a', EnvOk n tb ((d, .v (.slice A j j)) :: env) a' → N a' w) : wpOp P ops Q i N a w := by
 have h0 : 0 ≤ q := by omega
 have h1 : q ≤ cp := by omega
 obtain rfl : j = q.toNat := by omega
 unfold cutmE at h
 split at h
 ·rename_i t' x hh mm d' ho
  have hd : d' < n := (opAt_ok hE ho).choose_spec.2.2.2.1
  split at h
  ·rename_i s k1 p1 k2 q2 g1 g2 g3
   simp only [Option.some.injEq, Prod.mk.injEq] at h
   obtain ⟨rfl, hsv, rfl, rfl, rfl, rfl, rfl⟩ := h
   have f1 := (opd_ok hE g1).1
   have f2 := (opd_ok hE g2).1
   have f3 := (opd_ok hE g3).1
   rw [hsv] at f1
   simp only [SV.val] at f2 f3
   refine wpOp_value hE ho (v := .slice A q2.toNat q2.toNat) (w' := w) (fun o' hop => ?_) (K _ (hE.put hd (.v _) trivial))
   unfold execOp
   rw [hop]
   simp only [f1, f2, f3, Option.map_none, Option.map_some, Sem.run_bind, run_cut_hm ht h0 h1, Result.andThen_ok, Sem.run_pure]
  ·cases h
 ·cases h
end
structure RdS (w : World) (F : Nat → Nat → Prop) (A : Option Addr) (n c : Nat) (s : Bs) : Prop where
 len : n = s.length
 oct : Octs w F A c s
theorem RdS.move {w w' : World} {F F' M : Nat → Nat → Prop} {A : Option Addr} {n c : Nat} {s : Bs} (h : RdS w F A n c s) (hs : Step w w' M) (hM : ∀ b o, F b o → b < w.heap.size → ¬ M b o) (hF : ∀ b o, F b o → b < w.heap.size → F' b o) : RdS w' F' A n c s := ⟨h.len, Octs.move h.oct hs hM hF⟩
theorem RdS.cast {w : World} {F : Nat → Nat → Prop} {A : Option Addr} {n c : Nat} {s t : Bs} (h : RdS w F A n c s) (e : s = t) : RdS w F A n c t := e ▸ h
theorem RdS.drop {w : World} {F : Nat → Nat → Prop} {A : Option Addr} {n c j : Nat} {s t : Bs} (h : RdS w F A n c (s ++ t)) (hj : j = s.length) : RdS w F (cutA A c j) (n - j) (c - j) t := by
 subst hj
 have h1 := h.oct.drop (j := s.length) (by rw [List.length_append]; omega)
 rw [List.drop_left] at h1
 exact ⟨by rw [h.len, List.length_append]; omega, h1⟩
theorem RdS.front {w : World} {F : Nat → Nat → Prop} {A : Option Addr} {n c j : Nat} {s t : Bs} (h : RdS w F A n c (s ++ t)) (hj : j = s.length) : Octs w F A j s := by
 subst hj
 have h1 := h.oct.cutS (j := s.length) (by rw [List.length_append]; omega)
 rwa [List.take_left] at h1
def RdM (br : Nat) : Nat → Nat → Prop := fun b o => b = br ∧ o < 2
def RdPost (w : World) (br : Nat) (F : Nat → Nat → Prop) (rest : Bs) (Q : Value → World → Prop) : Ending → World → Prop := fun e w' =>
 ∃ v A' n' c', e = .returned v ∧ Str w' br [.slice A' n' c', .bool false] ∧ RdS w' F A' n' c' rest ∧ Step w w' (RdM br) ∧ Q v w'
theorem WOk.startStr {w : World} {p : Nat} {cs : List Value} (h : Str w p cs) (hn : Nat.blt 0 cs.length = true := by kernel_rfl) : WOk w (fun b o => b = p ∧ o < cs.length) w [⟨p, 0, cs, true⟩] [] := by
 have hn' : 0 < cs.length := by simpa [Nat.blt_eq] using hn
 exact (WOk.start w _).add ⟨p, 0, cs, true⟩ (World.lt_of_cell (h.at_ 0 _ (List.getElem?_eq_getElem hn'))) (fun j v hj => by rw [Nat.zero_add]; exact h.at_ j v hj) (fun _ j hj => ⟨.inr ⟨rfl, by rw [Nat.zero_add]; exact hj⟩, by rw [Nat.zero_add]; exact h.frz j hj⟩) (fun i o hi => by simp at hi) (fun i r hi => by simp at hi)
theorem WOk.wrote {w0 w w' : World} {M : Nat → Nat → Prop} {tb : Tb} {rs : List Rw} {p : Nat} {cs cs' : List Value} (hW : WOk w0 M w tb rs) (i : Nat) (tb' : Tb) (hi : tb[i]? = some ⟨p, 0, cs, true⟩) (hst : Step w w' (fun b o => b = p ∧ o < cs.length)) (hs : Str w' p cs') (ht : tb.set i ⟨p, 0, cs', true⟩ = tb' := by rfl) (hl : cs'.length = cs.length := by rfl) :
  WOk w0 M w' tb' rs ∧ Fr w tb rs w' tb' rs ∧ ∀ {G : Nat → Nat → Prop} (b o : Nat), Fp (Imm G w0 w tb rs) w b o → b < w'.heap.size → Imm G w0 w' tb' rs b o := by
 subst ht
 have key : ∀ (j : Nat) (o : Ob), (tb.set i ⟨p, 0, cs', true⟩)[j]? = some o → (j = i ∧ o = ⟨p, 0, cs', true⟩) ∨ (j ≠ i ∧ tb[j]? = some o) := fun j o hj => by
  rcases set_get hj with ⟨h1, h2, _⟩ | ⟨h1, h2⟩
  ·exact .inl ⟨h1, h2⟩
  ·exact .inr ⟨h1, h2⟩
 have far : ∀ (j : Nat) (o : Ob), j ≠ i → tb[j]? = some o → ∀ q, q < o.cells.length → ¬ (o.blk = p ∧ o.off + q < cs.length) := fun j o hne hj q hq e => by
  rcases hW.apart j i o _ hne hj hi (.inr rfl) with h1 | h1 | h1
  ·exact h1 e.1
  ·simp only [Nat.le_zero] at h1; omega
  ·simp only [Nat.zero_add] at h1; omega
 have act : ∀ b o, Act_ (tb.set i ⟨p, 0, cs', true⟩) rs b o → Act_ tb rs b o := fun b o ha => by
  rcases ha with ⟨j, ob, hj, h1, h2, h3, h4⟩ | ha
  ·rcases key j ob hj with ⟨rfl, rfl⟩ | ⟨_, hj⟩
   ·exact .inl ⟨j, _, hi, rfl, h2, h3, by simpa [hl] using h4⟩
   ·exact .inl ⟨j, ob, hj, h1, h2, h3, h4⟩
  ·exact .inr ha
 refine ⟨⟨hW.step.trans hst fun b o hb e => ?_, ?_, ?_, ?_, ?_, ?_, hW.ownM, ?_, hW.rr⟩, ⟨fun b o _ hn ha => hn (act b o ha), hst.mono fun b o _ e => .inl ⟨i, _, hi, rfl, e.1.symm, Nat.zero_le _, by simpa using e.2⟩⟩, fun b o hf hb => ?_⟩
 rotate_right
 ·rcases hf with hf | hf
  ·exact ⟨hf.1, hb, fun ha => hf.2.2 (act b o ha)⟩
  ·exact ⟨.inr (Nat.le_trans hW.step.size hf), hb, fun ha => by have := hW.act_live (act b o ha); omega⟩
 ·have h1 := (hW.rw_ i _ hi rfl o e.2).1
  simp only [Nat.zero_add] at h1
  rcases h1 with h1 | h1
  ·have := e.1; omega
  ·rw [e.1]; exact h1
 ·intro j o hj q v hv
  rcases key j o hj with ⟨rfl, rfl⟩ | ⟨hne, hj⟩
  ·dsimp only
   rw [Nat.zero_add]
   exact hs.at_ q v hv
  ·exact hst.cell (far j o hne hj q (List.getElem?_eq_some_iff.1 hv).1) (hW.cells j o hj q v hv)
 ·intro j o hj
  rcases key j o hj with ⟨rfl, rfl⟩ | ⟨_, hj⟩
  ·have h1 := hW.live j _ hi
   exact Nat.lt_of_lt_of_le h1 hst.size
  ·exact Nat.lt_of_lt_of_le (hW.live j o hj) hst.size
 ·intro j o hj hr q hq
  rcases key j o hj with ⟨rfl, rfl⟩ | ⟨hne, hj⟩
  ·dsimp only at hq ⊢
   refine ⟨(hW.rw_ j _ hi rfl q (by simpa [hl] using hq)).1, ?_⟩
   rw [Nat.zero_add]
   exact hs.frz q hq
  ·obtain ⟨h1, h2⟩ := hW.rw_ j o hj hr q hq
   exact ⟨h1, hst.frozen (far j o hne hj q hq) (hW.cells j o hj q _ (List.getElem?_eq_getElem hq)) h2⟩
 ·intro j k o o' hjk hj hk hw
  rcases key j o hj with ⟨rfl, rfl⟩ | ⟨hne, hj'⟩
  ·rcases key k o' hk with ⟨rfl, rfl⟩ | ⟨hne', hk'⟩
   ·exact absurd rfl hjk
   ·have := hW.apart j k _ o' hjk hi hk' (.inl rfl)
    simpa [hl] using this
  ·rcases key k o' hk with ⟨rfl, rfl⟩ | ⟨hne', hk'⟩
   ·have := hW.apart j k o _ hjk hj' hi (.inr rfl)
    simpa [hl] using this
   ·exact hW.apart j k o o' hjk hj' hk' hw
 ·intro j r hj
  refine own_keep (hW.own j r hj) fun g hg => (hst.keeps g (own_live (hW.own j r hj) hg)).1 fun o e => ?_
  exact hW.rtb j r hj g hg i _ hi e.1.symm
 ·intro j r hj g hg k o hk
  rcases key k o hk with ⟨rfl, rfl⟩ | ⟨_, hk⟩
  ·have h1 := hW.rtb j r hj g hg k _ hi
   exact h1
  ·exact hW.rtb j r hj g hg k o hk
theorem WOk.giveUp {G : Nat → Nat → Prop} {w0 w : World} {tb : Tb} {rs : List Rw} {A : Option Addr} {c e : Nat} {s : Bs} (hW : WOk w0 Nil w tb rs) (k : Nat) (rs' : List Rw) (hk : rs[k]? = some (brow A c e s)) (hsm : s.length ≤ 1099511627776) (hr : rs.take k = rs' := by rfl) : Octs w (Imm G w0 w tb rs') A c s := by
 subst hr
 refine octs_own (hW.own k _ hk) hsm fun g hg o => ?_
 have hb := own_live (hW.own k _ hk) (r := brow A c e s) hg
 refine ⟨?_, hb, fun ha => ?_⟩
 ·rcases hW.ownM k _ hk g hg with h2 | h2
  ·exact .inr h2
  ·exact (h2 0).elim
 ·rcases ha with ⟨i, ob, h2, _, h3, _⟩ | ⟨i, r, h2, h3⟩
  ·exact hW.rtb k _ hk g hg i ob h2 h3
  ·rw [List.getElem?_take] at h2
   split at h2
   ·rename_i hlt
    exact hW.rr k i _ r (by omega) hk h2 g hg h3
   ·cases h2
theorem imm_not {G : Nat → Nat → Prop} {w0 w : World} {tb : Tb} {rs : List Rw} {p : Nat} {cs : List Value} (i : Nat) (hi : tb[i]? = some ⟨p, 0, cs, true⟩) : ∀ b o, Imm G w0 w tb rs b o → ¬ (b = p ∧ o < cs.length) := fun b o h e => by
 obtain ⟨rfl, h2⟩ := e
 exact h.2.2 (.inl ⟨i, _, hi, rfl, rfl, Nat.zero_le _, by simpa using h2⟩)
end Go.Proofs.YtgolpmkenmedoaaGreatDoor.ME
namespace Go.Proofs.YtgolpmkenmedoaaGreatDoor.ME
open Go
set_option linter.unusedVariables false
set_option linter.unusedSimpArgs false
theorem scope_ret {Q : Exit → Act → World → Prop} {a : Act} {w : World} (h : Q .ret a w) : Exit.noGoto Q .ret a w := h
theorem or_join (k : IntKind) (n : Nat) (hn : n = k.bits) (hk : ∀ z : Int, 0 ≤ z → z < 2 ^ n → k.wrap z = z) (i : Nat) (y x : Int) (h0 : 0 ≤ y) (h1 : y < 2 ^ i) (h2 : y < 2 ^ n) (h3 : 0 ≤ x) (h4 : x % 2 ^ i = 0) (h5 : x < 2 ^ n) :
  k.wrap (BitVec.ofInt n y ||| BitVec.ofInt n x).toNat = y + x := by
 subst hn
 exact bits_join_low k k.bits (Nat.le_refl _) hk i y x h0 h1 h2 h3 h4 h5
theorem or16 (i : Nat) (y x : Int) (h0 : 0 ≤ y) (h1 : y < 2 ^ i) (h2 : y < 2 ^ 16) (h3 : 0 ≤ x) (h4 : x % 2 ^ i = 0) (h5 : x < 2 ^ 16) : IntKind.u16.wrap (BitVec.ofInt 16 y ||| BitVec.ofInt 16 x).toNat = y + x :=
 or_join .u16 16 rfl (fun z a b => by rw [wrap_u16]; omega) i y x h0 h1 h2 h3 h4 h5
theorem or32 (i : Nat) (y x : Int) (h0 : 0 ≤ y) (h1 : y < 2 ^ i) (h2 : y < 2 ^ 32) (h3 : 0 ≤ x) (h4 : x % 2 ^ i = 0) (h5 : x < 2 ^ 32) : IntKind.u32.wrap (BitVec.ofInt 32 y ||| BitVec.ofInt 32 x).toNat = y + x :=
 or_join .u32 32 rfl (fun z a b => by rw [wrap_u32]; omega) i y x h0 h1 h2 h3 h4 h5
theorem and128 (n : Nat) (h : n < 256) : (IntKind.u8.wrap (BitVec.ofInt 8 ((n : Nat) : Int) &&& BitVec.ofInt 8 128).toNat == 0) = decide (n < 128) := by
 have : ∀ m : Fin 256, (IntKind.u8.wrap (BitVec.ofInt 8 ((m.val : Nat) : Int) &&& BitVec.ofInt 8 128).toNat == 0) = decide (m.val < 128) := by decide +kernel
 exact this ⟨n, h⟩
theorem and127b (n : Nat) (h : n < 256) : IntKind.u8.wrap (BitVec.ofInt 8 ((n : Nat) : Int) &&& BitVec.ofInt 8 127).toNat = ((n % 128 : Nat) : Int) := by
 have : ∀ m : Fin 256, IntKind.u8.wrap (BitVec.ofInt 8 ((m.val : Nat) : Int) &&& BitVec.ofInt 8 127).toNat = ((m.val % 128 : Nat) : Int) := by decide +kernel
 exact this ⟨n, h⟩
def oc (s : Bs) (i : Nat) : Nat := (s.getD i 0).toNat
theorem oc_lt (s : Bs) (i : Nat) : oc s i < 256 := (s.getD i 0).toNat_lt
theorem oc_cons (b : UInt8) (s : Bs) (i : Nat) : oc (b :: s) (i + 1) = oc s i := rfl
theorem oc_zero (b : UInt8) (s : Bs) : oc (b :: s) 0 = b.toNat := rfl
theorem oc_by8 (x : Int) (s : Bs) : ((oc (by8 x :: s) 0 : Nat) : Int) = x % 256 := by rw [oc_zero, by8_toNat]
def be16 (s : Bs) : Int := ((oc s 0 : Nat) : Int) * 256 + oc s 1
theorem be16_be (x : Int) (s : Bs) : be16 (be 2 x ++ s) = IntKind.u16.wrap x := by
 rw [wrap_u16]
 simp only [be, List.cons_append, List.nil_append, be16, oc_cons, oc_by8, Int.reducePow]
 omega
theorem oc1_be (x : Int) (s : Bs) : (((be 1 x ++ s).getD 0 0).toNat : Int) = x % 256 := by
 have e : be 1 x = [by8 x] := by simp [be]
 rw [e]
 exact oc_by8 x s
theorem i8w (x : Int) : IntKind.i8.wrap x = (x + 128) % 256 - 128 := by simp [IntKind.wrap, IntKind.signed, IntKind.bits]; omega
theorem i16w (x : Int) : IntKind.i16.wrap x = (x + 32768) % 65536 - 32768 := by simp [IntKind.wrap, IntKind.signed, IntKind.bits]; omega
theorem i32w (x : Int) : IntKind.i32.wrap x = (x + 2147483648) % 4294967296 - 2147483648 := by simp [IntKind.wrap, IntKind.signed, IntKind.bits]; omega
theorem i64w (x : Int) : IntKind.i64.wrap x = (x + 9223372036854775808) % 18446744073709551616 - 9223372036854775808 := by simp [IntKind.wrap, IntKind.signed, IntKind.bits]; omega
theorem i16_u16 (x : Int) : IntKind.i16.wrap (IntKind.u16.wrap x) = IntKind.i16.wrap x := by rw [i16w, i16w, wrap_u16]; omega
theorem i8_by8 (x : Int) : IntKind.i8.wrap (x % 256) = IntKind.i8.wrap x := by rw [i8w, i8w]; omega
theorem ww8 (x : Int) : IntKind.i8.wrap (IntKind.i8.wrap x) = IntKind.i8.wrap x := by rw [i8w, i8w]; omega
theorem uv_oc {x : Nat} (s : Bs) : oc (uv x ++ s) 0 = if x < 128 then x else x % 128 + 128 := by
 by_cases h : x < 128
 ·rw [uv_small h, if_pos h]
  show (UInt8.ofNat x).toNat = x
  rw [UInt8.toNat_ofNat']; omega
 ·rw [uv_big (by omega), if_neg h]
  show (UInt8.ofNat (x % 128 + 128)).toNat = _
  rw [UInt8.toNat_ofNat']; omega
theorem uv_oc1 {x : Nat} (h : 128 ≤ x) (s : Bs) (i : Nat) : oc (uv x ++ s) (i + 1) = oc (uv (x / 128) ++ s) i := by
 rw [uv_big h]; rfl
theorem u16_le (b0 b1 : Nat) (h0 : b0 < 256) (h1 : b1 < 256) : IntKind.u16.wrap (BitVec.ofInt 16 (IntKind.u16.wrap (((b1 : Nat) : Int))) ||| BitVec.ofInt 16 (IntKind.u16.wrap (IntKind.u16.wrap (((b0 : Nat) : Int)) * 256))).toNat = ((b0 : Nat) : Int) * 256 + ((b1 : Nat) : Int) := by
 have e1 : IntKind.u16.wrap (BitVec.ofInt 16 (IntKind.u16.wrap (((b1 : Nat) : Int))) ||| BitVec.ofInt 16 (IntKind.u16.wrap (IntKind.u16.wrap (((b0 : Nat) : Int)) * 256))).toNat = ((b1 : Nat) : Int) + ((b0 : Nat) : Int) * 256 := by
  rw [or16 8 _ _ (by first | omega | (simp only [wrap_u16]; omega)) (by first | omega | (simp only [wrap_u16]; omega)) (by first | omega | (simp only [wrap_u16]; omega)) (by first | omega | (simp only [wrap_u16]; omega)) (by first | omega | (simp only [wrap_u16]; omega)) (by first | omega | (simp only [wrap_u16]; omega))]; first | omega | (simp only [wrap_u16]; omega)
 rw [e1]
 omega
theorem uv_1 (b0 : Nat) (h0 : b0 < 256) : IntKind.u32.wrap (IntKind.u8.wrap (BitVec.ofInt 8 ((b0 : Nat) : Int) &&& BitVec.ofInt 8 127).toNat) = ((b0 % 128 : Nat) : Int) := by
 rw [and127b b0 h0, wrap_u32]; omega
theorem uv_2 (b0 b1 : Nat) (h0 : b0 < 256) (h1 : b1 < 256) : IntKind.u32.wrap (BitVec.ofInt 32 (IntKind.u32.wrap (IntKind.u8.wrap (BitVec.ofInt 8 ((b0 : Nat) : Int) &&& BitVec.ofInt 8 127).toNat)) ||| BitVec.ofInt 32 (IntKind.u32.wrap (IntKind.u32.wrap (IntKind.u8.wrap (BitVec.ofInt 8 ((b1 : Nat) : Int) &&& BitVec.ofInt 8 127).toNat) * 128))).toNat = ((b0 % 128 : Nat) : Int) + ((b1 % 128 : Nat) : Int) * 128 := by
 have e1 : IntKind.u32.wrap (BitVec.ofInt 32 (IntKind.u32.wrap (IntKind.u8.wrap (BitVec.ofInt 8 ((b0 : Nat) : Int) &&& BitVec.ofInt 8 127).toNat)) ||| BitVec.ofInt 32 (IntKind.u32.wrap (IntKind.u32.wrap (IntKind.u8.wrap (BitVec.ofInt 8 ((b1 : Nat) : Int) &&& BitVec.ofInt 8 127).toNat) * 128))).toNat = ((b0 % 128 : Nat) : Int) + ((b1 % 128 : Nat) : Int) * 128 := by
  rw [and127b b1 h1, and127b b0 h0]; rw [or32 7 _ _ (by first | omega | (simp only [wrap_u32]; omega)) (by first | omega | (simp only [wrap_u32]; omega)) (by first | omega | (simp only [wrap_u32]; omega)) (by first | omega | (simp only [wrap_u32]; omega)) (by first | omega | (simp only [wrap_u32]; omega)) (by first | omega | (simp only [wrap_u32]; omega))]; first | omega | (simp only [wrap_u32]; omega)
 rw [e1]
theorem uv_3 (b0 b1 b2 : Nat) (h0 : b0 < 256) (h1 : b1 < 256) (h2 : b2 < 256) : IntKind.u32.wrap (BitVec.ofInt 32 (IntKind.u32.wrap (BitVec.ofInt 32 (IntKind.u32.wrap (IntKind.u8.wrap (BitVec.ofInt 8 ((b0 : Nat) : Int) &&& BitVec.ofInt 8 127).toNat)) ||| BitVec.ofInt 32 (IntKind.u32.wrap (IntKind.u32.wrap (IntKind.u8.wrap (BitVec.ofInt 8 ((b1 : Nat) : Int) &&& BitVec.ofInt 8 127).toNat) * 128))).toNat) ||| BitVec.ofInt 32 (IntKind.u32.wrap (IntKind.u32.wrap (IntKind.u8.wrap (BitVec.ofInt 8 ((b2 : Nat) : Int) &&& BitVec.ofInt 8 127).toNat) * 16384))).toNat = ((b0 % 128 : Nat) : Int) + ((b1 % 128 : Nat) : Int) * 128 + ((b2 % 128 : Nat) : Int) * 16384 := by
 have e1 : IntKind.u32.wrap (BitVec.ofInt 32 (IntKind.u32.wrap (IntKind.u8.wrap (BitVec.ofInt 8 ((b0 : Nat) : Int) &&& BitVec.ofInt 8 127).toNat)) ||| BitVec.ofInt 32 (IntKind.u32.wrap (IntKind.u32.wrap (IntKind.u8.wrap (BitVec.ofInt 8 ((b1 : Nat) : Int) &&& BitVec.ofInt 8 127).toNat) * 128))).toNat = ((b0 % 128 : Nat) : Int) + ((b1 % 128 : Nat) : Int) * 128 := by
  rw [and127b b1 h1, and127b b0 h0]; rw [or32 7 _ _ (by first | omega | (simp only [wrap_u32]; omega)) (by first | omega | (simp only [wrap_u32]; omega)) (by first | omega | (simp only [wrap_u32]; omega)) (by first | omega | (simp only [wrap_u32]; omega)) (by first | omega | (simp only [wrap_u32]; omega)) (by first | omega | (simp only [wrap_u32]; omega))]; first | omega | (simp only [wrap_u32]; omega)
 have e2 : IntKind.u32.wrap (BitVec.ofInt 32 (((b0 % 128 : Nat) : Int) + ((b1 % 128 : Nat) : Int) * 128) ||| BitVec.ofInt 32 (IntKind.u32.wrap (IntKind.u32.wrap (IntKind.u8.wrap (BitVec.ofInt 8 ((b2 : Nat) : Int) &&& BitVec.ofInt 8 127).toNat) * 16384))).toNat = ((b0 % 128 : Nat) : Int) + ((b1 % 128 : Nat) : Int) * 128 + ((b2 % 128 : Nat) : Int) * 16384 := by
  rw [and127b b2 h2]; rw [or32 14 _ _ (by first | omega | (simp only [wrap_u32]; omega)) (by first | omega | (simp only [wrap_u32]; omega)) (by first | omega | (simp only [wrap_u32]; omega)) (by first | omega | (simp only [wrap_u32]; omega)) (by first | omega | (simp only [wrap_u32]; omega)) (by first | omega | (simp only [wrap_u32]; omega))]; first | omega | (simp only [wrap_u32]; omega)
 rw [e1, e2]
theorem uv_4 (b0 b1 b2 b3 : Nat) (h0 : b0 < 256) (h1 : b1 < 256) (h2 : b2 < 256) (h3 : b3 < 256) : IntKind.u32.wrap (BitVec.ofInt 32 (IntKind.u32.wrap (BitVec.ofInt 32 (IntKind.u32.wrap (BitVec.ofInt 32 (IntKind.u32.wrap (IntKind.u8.wrap (BitVec.ofInt 8 ((b0 : Nat) : Int) &&& BitVec.ofInt 8 127).toNat)) ||| BitVec.ofInt 32 (IntKind.u32.wrap (IntKind.u32.wrap (IntKind.u8.wrap (BitVec.ofInt 8 ((b1 : Nat) : Int) &&& BitVec.ofInt 8 127).toNat) * 128))).toNat) ||| BitVec.ofInt 32 (IntKind.u32.wrap (IntKind.u32.wrap (IntKind.u8.wrap (BitVec.ofInt 8 ((b2 : Nat) : Int) &&& BitVec.ofInt 8 127).toNat) * 16384))).toNat) ||| BitVec.ofInt 32 (IntKind.u32.wrap (IntKind.u32.wrap (IntKind.u8.wrap (BitVec.ofInt 8 ((b3 : Nat) : Int) &&& BitVec.ofInt 8 127).toNat) * 2097152))).toNat = ((b0 % 128 : Nat) : Int) + ((b1 % 128 : Nat) : Int) * 128 + ((b2 % 128 : Nat) : Int) * 16384 + ((b3 % 128 : Nat) : Int) * 2097152 := by
 have e1 : IntKind.u32.wrap (BitVec.ofInt 32 (IntKind.u32.wrap (IntKind.u8.wrap (BitVec.ofInt 8 ((b0 : Nat) : Int) &&& BitVec.ofInt 8 127).toNat)) ||| BitVec.ofInt 32 (IntKind.u32.wrap (IntKind.u32.wrap (IntKind.u8.wrap (BitVec.ofInt 8 ((b1 : Nat) : Int) &&& BitVec.ofInt 8 127).toNat) * 128))).toNat = ((b0 % 128 : Nat) : Int) + ((b1 % 128 : Nat) : Int) * 128 := by
  rw [and127b b1 h1, and127b b0 h0]; rw [or32 7 _ _ (by first | omega | (simp only [wrap_u32]; omega)) (by first | omega | (simp only [wrap_u32]; omega)) (by first | omega | (simp only [wrap_u32]; omega)) (by first | omega | (simp only [wrap_u32]; omega)) (by first | omega | (simp only [wrap_u32]; omega)) (by first | omega | (simp only [wrap_u32]; omega))]; first | omega | (simp only [wrap_u32]; omega)
 have e2 : IntKind.u32.wrap (BitVec.ofInt 32 (((b0 % 128 : Nat) : Int) + ((b1 % 128 : Nat) : Int) * 128) ||| BitVec.ofInt 32 (IntKind.u32.wrap (IntKind.u32.wrap (IntKind.u8.wrap (BitVec.ofInt 8 ((b2 : Nat) : Int) &&& BitVec.ofInt 8 127).toNat) * 16384))).toNat = ((b0 % 128 : Nat) : Int) + ((b1 % 128 : Nat) : Int) * 128 + ((b2 % 128 : Nat) : Int) * 16384 := by
  rw [and127b b2 h2]; rw [or32 14 _ _ (by first | omega | (simp only [wrap_u32]; omega)) (by first | omega | (simp only [wrap_u32]; omega)) (by first | omega | (simp only [wrap_u32]; omega)) (by first | omega | (simp only [wrap_u32]; omega)) (by first | omega | (simp only [wrap_u32]; omega)) (by first | omega | (simp only [wrap_u32]; omega))]; first | omega | (simp only [wrap_u32]; omega)
 have e3 : IntKind.u32.wrap (BitVec.ofInt 32 (((b0 % 128 : Nat) : Int) + ((b1 % 128 : Nat) : Int) * 128 + ((b2 % 128 : Nat) : Int) * 16384) ||| BitVec.ofInt 32 (IntKind.u32.wrap (IntKind.u32.wrap (IntKind.u8.wrap (BitVec.ofInt 8 ((b3 : Nat) : Int) &&& BitVec.ofInt 8 127).toNat) * 2097152))).toNat = ((b0 % 128 : Nat) : Int) + ((b1 % 128 : Nat) : Int) * 128 + ((b2 % 128 : Nat) : Int) * 16384 + ((b3 % 128 : Nat) : Int) * 2097152 := by
  rw [and127b b3 h3]; rw [or32 21 _ _ (by first | omega | (simp only [wrap_u32]; omega)) (by first | omega | (simp only [wrap_u32]; omega)) (by first | omega | (simp only [wrap_u32]; omega)) (by first | omega | (simp only [wrap_u32]; omega)) (by first | omega | (simp only [wrap_u32]; omega)) (by first | omega | (simp only [wrap_u32]; omega))]; first | omega | (simp only [wrap_u32]; omega)
 rw [e1, e2, e3]
theorem uv_5 (b0 b1 b2 b3 b4 : Nat) (h0 : b0 < 256) (h1 : b1 < 256) (h2 : b2 < 256) (h3 : b3 < 256) (h4 : b4 < 16) : IntKind.u32.wrap (BitVec.ofInt 32 (IntKind.u32.wrap (BitVec.ofInt 32 (IntKind.u32.wrap (BitVec.ofInt 32 (IntKind.u32.wrap (BitVec.ofInt 32 (IntKind.u32.wrap (IntKind.u8.wrap (BitVec.ofInt 8 ((b0 : Nat) : Int) &&& BitVec.ofInt 8 127).toNat)) ||| BitVec.ofInt 32 (IntKind.u32.wrap (IntKind.u32.wrap (IntKind.u8.wrap (BitVec.ofInt 8 ((b1 : Nat) : Int) &&& BitVec.ofInt 8 127).toNat) * 128))).toNat) ||| BitVec.ofInt 32 (IntKind.u32.wrap (IntKind.u32.wrap (IntKind.u8.wrap (BitVec.ofInt 8 ((b2 : Nat) : Int) &&& BitVec.ofInt 8 127).toNat) * 16384))).toNat) ||| BitVec.ofInt 32 (IntKind.u32.wrap (IntKind.u32.wrap (IntKind.u8.wrap (BitVec.ofInt 8 ((b3 : Nat) : Int) &&& BitVec.ofInt 8 127).toNat) * 2097152))).toNat) ||| BitVec.ofInt 32 (IntKind.u32.wrap (IntKind.u32.wrap (((b4 : Nat) : Int)) * 268435456))).toNat = ((b0 % 128 : Nat) : Int) + ((b1 % 128 : Nat) : Int) * 128 + ((b2 % 128 : Nat) : Int) * 16384 + ((b3 % 128 : Nat) : Int) * 2097152 + ((b4 : Nat) : Int) * 268435456 := by
 have e1 : IntKind.u32.wrap (BitVec.ofInt 32 (IntKind.u32.wrap (IntKind.u8.wrap (BitVec.ofInt 8 ((b0 : Nat) : Int) &&& BitVec.ofInt 8 127).toNat)) ||| BitVec.ofInt 32 (IntKind.u32.wrap (IntKind.u32.wrap (IntKind.u8.wrap (BitVec.ofInt 8 ((b1 : Nat) : Int) &&& BitVec.ofInt 8 127).toNat) * 128))).toNat = ((b0 % 128 : Nat) : Int) + ((b1 % 128 : Nat) : Int) * 128 := by
  rw [and127b b1 h1, and127b b0 h0]; rw [or32 7 _ _ (by first | omega | (simp only [wrap_u32]; omega)) (by first | omega | (simp only [wrap_u32]; omega)) (by first | omega | (simp only [wrap_u32]; omega)) (by first | omega | (simp only [wrap_u32]; omega)) (by first | omega | (simp only [wrap_u32]; omega)) (by first | omega | (simp only [wrap_u32]; omega))]; first | omega | (simp only [wrap_u32]; omega)
 have e2 : IntKind.u32.wrap (BitVec.ofInt 32 (((b0 % 128 : Nat) : Int) + ((b1 % 128 : Nat) : Int) * 128) ||| BitVec.ofInt 32 (IntKind.u32.wrap (IntKind.u32.wrap (IntKind.u8.wrap (BitVec.ofInt 8 ((b2 : Nat) : Int) &&& BitVec.ofInt 8 127).toNat) * 16384))).toNat = ((b0 % 128 : Nat) : Int) + ((b1 % 128 : Nat) : Int) * 128 + ((b2 % 128 : Nat) : Int) * 16384 := by
  rw [and127b b2 h2]; rw [or32 14 _ _ (by first | omega | (simp only [wrap_u32]; omega)) (by first | omega | (simp only [wrap_u32]; omega)) (by first | omega | (simp only [wrap_u32]; omega)) (by first | omega | (simp only [wrap_u32]; omega)) (by first | omega | (simp only [wrap_u32]; omega)) (by first | omega | (simp only [wrap_u32]; omega))]; first | omega | (simp only [wrap_u32]; omega)
 have e3 : IntKind.u32.wrap (BitVec.ofInt 32 (((b0 % 128 : Nat) : Int) + ((b1 % 128 : Nat) : Int) * 128 + ((b2 % 128 : Nat) : Int) * 16384) ||| BitVec.ofInt 32 (IntKind.u32.wrap (IntKind.u32.wrap (IntKind.u8.wrap (BitVec.ofInt 8 ((b3 : Nat) : Int) &&& BitVec.ofInt 8 127).toNat) * 2097152))).toNat = ((b0 % 128 : Nat) : Int) + ((b1 % 128 : Nat) : Int) * 128 + ((b2 % 128 : Nat) : Int) * 16384 + ((b3 % 128 : Nat) : Int) * 2097152 := by
  rw [and127b b3 h3]; rw [or32 21 _ _ (by first | omega | (simp only [wrap_u32]; omega)) (by first | omega | (simp only [wrap_u32]; omega)) (by first | omega | (simp only [wrap_u32]; omega)) (by first | omega | (simp only [wrap_u32]; omega)) (by first | omega | (simp only [wrap_u32]; omega)) (by first | omega | (simp only [wrap_u32]; omega))]; first | omega | (simp only [wrap_u32]; omega)
 have e4 : IntKind.u32.wrap (BitVec.ofInt 32 (((b0 % 128 : Nat) : Int) + ((b1 % 128 : Nat) : Int) * 128 + ((b2 % 128 : Nat) : Int) * 16384 + ((b3 % 128 : Nat) : Int) * 2097152) ||| BitVec.ofInt 32 (IntKind.u32.wrap (IntKind.u32.wrap (((b4 : Nat) : Int)) * 268435456))).toNat = ((b0 % 128 : Nat) : Int) + ((b1 % 128 : Nat) : Int) * 128 + ((b2 % 128 : Nat) : Int) * 16384 + ((b3 % 128 : Nat) : Int) * 2097152 + ((b4 : Nat) : Int) * 268435456 := by
  rw [or32 28 _ _ (by first | omega | (simp only [wrap_u32]; omega)) (by first | omega | (simp only [wrap_u32]; omega)) (by first | omega | (simp only [wrap_u32]; omega)) (by first | omega | (simp only [wrap_u32]; omega)) (by first | omega | (simp only [wrap_u32]; omega)) (by first | omega | (simp only [wrap_u32]; omega))]; first | omega | (simp only [wrap_u32]; omega)
 rw [e1, e2, e3, e4]
theorem imm_n {G : Nat → Nat → Prop} {w0 w : World} {tb : Tb} {rs : List Rw} {p n : Nat} {cs : List Value} (i : Nat) (hi : tb[i]? = some ⟨p, 0, cs, true⟩) (hn : cs.length = n := by rfl) : ∀ b o, Imm G w0 w tb rs b o → ¬ (b = p ∧ o < n) := by
 subst hn
 exact imm_not i hi
theorem imm_rd {G : Nat → Nat → Prop} {w0 w : World} {tb : Tb} {rs : List Rw} {p : Nat} {x y : Value} (i : Nat) (hi : tb[i]? = some ⟨p, 0, [x, y], true⟩) : ∀ b o, Imm G w0 w tb rs b o → ¬ RdM p b o := imm_not i hi
theorem WOk.immM {G : Nat → Nat → Prop} {w0 w : World} {M : Nat → Nat → Prop} {tb : Tb} {rs : List Rw} (h : WOk w0 M w tb rs) (hd : ∀ b o, G b o → ¬ M b o) : ∀ b o, G b o → b < w0.heap.size → Imm G w0 w tb rs b o := by
 refine fun b o hg hb => ⟨.inl hg, Nat.lt_of_lt_of_le hb h.step.size, fun ha => hd b o hg ?_⟩
 rcases ha with ⟨i, ob, hi, hr, rfl, h1, h2⟩ | ⟨i, r, hi, hr⟩
 ·have := (h.rw_ i ob hi hr (o - ob.off) (by omega)).1
  rw [show ob.off + (o - ob.off) = o by omega] at this
  rcases this with h3 | h3
  ·omega
  ·exact h3
 ·rcases h.ownM i r hi b hr with h3 | h3
  ·omega
  ·exact h3 o
end Go.Proofs.YtgolpmkenmedoaaGreatDoor.ME
namespace Go.Proofs.YtgolpmkenmedoaaGreatDoor.ME
open Go
open Go.RowKit
set_option linter.unusedVariables false
set_option linter.unusedSimpArgs false
abbrev FactW := World → (Nat → Nat → Prop) → Prop
structure MvF (P : FactW) : Prop where
 move : ∀ {w w' : World} {F F' M : Nat → Nat → Prop}, Step w w' M → (∀ b o, F b o → b < w.heap.size → ¬ M b o) → (∀ b o, F b o → b < w.heap.size → F' b o) → P w F → P w' F'
def noF : FactW := fun _ _ => True
def andF (P Q : FactW) : FactW := fun w F => P w F ∧ Q w F
def isF (p : Prop) : FactW := fun _ _ => p
theorem MvF.no : MvF noF := ⟨fun _ _ _ _ => trivial⟩
theorem MvF.and {P Q : FactW} (h : MvF P) (h' : MvF Q) : MvF (andF P Q) := ⟨fun hs hM hF g => ⟨h.move hs hM hF g.1, h'.move hs hM hF g.2⟩⟩
theorem MvF.is (p : Prop) : MvF (isF p) := ⟨fun _ _ _ g => g⟩
theorem MvF.mono {P : FactW} (h : MvF P) {w : World} {F F' : Nat → Nat → Prop} (hF : ∀ b o, F b o → b < w.heap.size → F' b o) (g : P w F) : P w F' := h.move (Step.refl w Nil) nilM hF g
def textF (A : Option Addr) (X : Bs) : FactW := fun w F => ∀ ad, A = some ad → ∃ b o, ad = ⟨b, o, none⟩ ∧ AtF w F b o [.string (bs X)]
theorem MvF.text (A : Option Addr) (X : Bs) : MvF (textF A X) := ⟨fun hs hM hF g ad hA => by
 obtain ⟨b, o, h1, h2⟩ := g ad hA
 exact ⟨b, o, h1, h2.move hs hM hF⟩⟩
def tagsF (m : Option Nat) (u : List (Int × Bs)) : FactW := fun w F => MapR w F m u
theorem MvF.tags (m : Option Nat) (u : List (Int × Bs)) : MvF (tagsF m u) := ⟨fun hs hM hF g => MapR.move g hs hM hF⟩
abbrev rdo (br : Nat) (A : Option Addr) (m c : Nat) : Ob := ⟨br, 0, [.slice A m c, .bool false], true⟩
theorem act_rdo {br : Nat} {A A' : Option Addr} {m c m' c' : Nat} {tb : Tb} {rs : List Rw} {b o : Nat} (h : Act_ (rdo br A m c :: tb) rs b o) : Act_ (rdo br A' m' c' :: tb) rs b o := by
 rcases h with ⟨i, ob, hi, h1⟩ | h
 ·cases i with
  | zero =>
   simp only [List.getElem?_cons_zero, Option.some.injEq] at hi
   subst hi
   exact .inl ⟨0, _, rfl, h1⟩
  | succ i => exact .inl ⟨i + 1, ob, hi, h1⟩
 ·exact .inr h
theorem imm_rdo {G : Nat → Nat → Prop} {w0 w : World} {br : Nat} {A A' : Option Addr} {m c m' c' : Nat} {tb : Tb} {rs : List Rw} {b o : Nat} (h : Imm G w0 w (rdo br A m c :: tb) rs b o) : Imm G w0 w (rdo br A' m' c' :: tb) rs b o :=
 ⟨h.1, h.2.1, fun ha => h.2.2 (act_rdo ha)⟩
theorem EnvOk.rdo {n br : Nat} {A A' : Option Addr} {m c m' c' : Nat} {tb : Tb} {env : Env} {a : Act} (h : EnvOk n (rdo br A m c :: tb) env a) : EnvOk n (rdo br A' m' c' :: tb) env a := by
 refine h.table fun i hi => ?_
 cases i with
 | zero => exact ⟨by simp, rfl, rfl⟩
 | succ i => exact ⟨by simpa using hi, rfl, rfl⟩
structure RS (w0 : World) (M F : Nat → Nat → Prop) (n br : Nat) (tb : Tb) (env : Env) (P : FactW) (s : Bs) (a : Act) (w : World) : Prop where
 mv : MvF P
 ex : ∃ A m c, WOk w0 M w (rdo br A m c :: tb) [] ∧ RdS w (Imm F w0 w (rdo br none 0 0 :: tb) []) A m c s
 env_ : EnvOk n (rdo br none 0 0 :: tb) env a
 fact : P w (Imm F w0 w (rdo br none 0 0 :: tb) [])
section
variable {Pr : Program} {ops opsA opsB opsC : Array Oper} {Q : Exit → Act → World → Prop} {w0 : World} {M F : Nat → Nat → Prop} {n br : Nat} {tb : Tb} {env : Env} {P : FactW} {s : Bs} {a : Act} {w : World}
theorem RS.mk' {A : Option Addr} {m c : Nat} (hW : WOk w0 M w (rdo br A m c :: tb) []) (hr : RdS w (Imm F w0 w (rdo br A m c :: tb) []) A m c s) (hE : EnvOk n (rdo br A m c :: tb) env a) (mv : MvF P) (hP : P w (Imm F w0 w (rdo br A m c :: tb) [])) : RS w0 M F n br tb env P s a w :=
 ⟨mv, ⟨A, m, c, hW, hr.move (Step.refl w Nil) nilM fun b o h _ => imm_rdo h⟩, hE.rdo, mv.mono (fun b o h _ => imm_rdo h) hP⟩
theorem RS.open_ (h : RS w0 M F n br tb env P s a w) : ∃ A m c, WOk w0 M w (rdo br A m c :: tb) [] ∧ RdS w (Imm F w0 w (rdo br A m c :: tb) []) A m c s ∧ EnvOk n (rdo br A m c :: tb) env a ∧ P w (Imm F w0 w (rdo br A m c :: tb) []) := by
 obtain ⟨A, m, c, hW, hr⟩ := h.ex
 exact ⟨A, m, c, hW, hr.move (Step.refl w Nil) nilM fun b o h _ => imm_rdo h, h.env_.rdo, h.mv.mono (fun b o h _ => imm_rdo h) h.fact⟩
theorem RS.cast {t : Bs} (h : RS w0 M F n br tb env P s a w) (e : s = t) : RS w0 M F n br tb env P t a w := e ▸ h
theorem RS.pk {env' : Env} (h : RS w0 M F n br tb env P s a w) (e : ME.pick env (keysOf env') = some env' := by kernel_rfl) : RS w0 M F n br tb env' P s a w := ⟨h.mv, h.ex, h.env_.pk e, h.fact⟩
theorem rs_rn {L : List Nat} (idxs rest : List Nat) (env' : Env) (h : RS w0 M F n br tb env P s a w) (k : ∀ a', RS w0 M F n br tb env' P s a' w → wpOps Pr ops Q rest a' w) (e : ∀ A m c, runsP Pr ops n (rdo br A m c :: tb) idxs (keysOf env') env = some env' := by intro _ _ _; kernel_rfl) (hl : L = idxs ++ rest := by rfl) : wpOps Pr ops Q L a w := by
 obtain ⟨A, m, c, hW, hr, hE, hP⟩ := h.open_
 exact go_runs idxs rest (keysOf env') hW hE (e A m c) hl fun a' hE' => k a' (RS.mk' hW hr hE' h.mv hP)
theorem rs_sr {id : Nat} (env' : Env) (h : RS w0 M F n br tb env P s a w) (k : ∀ a', RS w0 M F n br tb env' P s a' w → Q .normal a' w) (e : ∀ A m c, runsP Pr ops n (rdo br A m c :: tb) (List.range ops.size) (keysOf env') env = some env' := by intro _ _ _; kernel_rfl) : (Code.region id ops false).wp Pr Q a w :=
 go_region (List.range ops.size) rfl (rs_rn (List.range ops.size) [] env' h (fun a' h' => wpOps_nil (k a' h')) e (List.append_nil _).symm)
def RPrim (Pr : Program) (f : FuncId) {τ : Type} (X rest : Bs) (val : τ → Value) (fact : τ → FactW) : Prop :=
 ∀ {br : Nat} {A : Option Addr} {m c : Nat} {w : World} {F : Nat → Nat → Prop}, Str w br [.slice A m c, .bool false] → RdS w F A m c (X ++ rest) → (∀ b o, F b o → ¬ RdM br b o) →
  Calls Pr f #[.pointer (some ⟨br, 0, none⟩)] w (RdPost w br (Fp F w) rest fun v w' => ∃ x, v = val x ∧ fact x w' (Fp F w))
def RPrim0 (Pr : Program) (f : FuncId) (X rest : Bs) (v0 : Value) : Prop :=
 ∀ {br : Nat} {A : Option Addr} {m c : Nat} {w : World} {F : Nat → Nat → Prop}, Str w br [.slice A m c, .bool false] → RdS w F A m c (X ++ rest) → (∀ b o, F b o → ¬ RdM br b o) →
  Calls Pr f #[.pointer (some ⟨br, 0, none⟩)] w (RdPost w br (Fp F w) rest fun v w' => v = v0)
theorem RdPost.fp {w : World} {br : Nat} {F : Nat → Nat → Prop} {rest : Bs} {Q Q' : Value → World → Prop} {e : Ending} {w' : World} (hq : ∀ v w', Q v w' → Q' v w') (h : RdPost w br F rest Q e w') : RdPost w br (Fp F w) rest Q' e w' := by
 obtain ⟨v, A', n', c', h1, h2, h3, h4, h5⟩ := h
 exact ⟨v, A', n', c', h1, h2, h3.move (Step.refl _ Nil) nilM fun b o g _ => .inl g, h4, hq _ _ h5⟩
theorem RdPost.q {w : World} {br : Nat} {F : Nat → Nat → Prop} {rest : Bs} {Q Q' : Value → World → Prop} {e : Ending} {w' : World} (hq : ∀ v w', Q v w' → Q' v w') (h : RdPost w br F rest Q e w') : RdPost w br F rest Q' e w' := by
 obtain ⟨v, A', n', c', h1, h2, h3, h4, h5⟩ := h
 exact ⟨v, A', n', c', h1, h2, h3, h4, hq _ _ h5⟩
theorem rs_call {i d : Nat} {f : FuncId} {τ : Type} {X rest : Bs} {val : τ → Value} {fact : τ → FactW} {N : Act → World → Prop} (h : RS w0 M F n br tb env P (X ++ rest) a w) (hc : RPrim Pr f X rest val fact) (hm : ∀ x, MvF (fact x))
  (hf : ∀ args w, (callFunc f args).run Pr w = .ok (.enter f args) w) (K : ∀ x P' a' w', (∀ w F, P' w F → P w F ∧ fact x w F) → RS w0 M F n br tb ((d, .v (val x)) :: env) P' rest a' w' → N a' w')
  (he : ∀ A m c, callE (rdo br A m c :: tb) env ops n i = some (f, [.pointer (some ⟨br, 0, none⟩)], d) := by intro _ _ _; kernel_rfl) : wpOp Pr ops Q i N a w := by
 obtain ⟨A, m, c, hW, hr, hE, hP⟩ := h.open_
 refine wpOp_call hE (he A m c) hf (hc (Str.of hW 0 rfl) hr (imm_rd 0 rfl)) ?_
 rintro e_ w1 ⟨_, A1, n1, c1, rfl, hs, hr1, hst, x, rfl, hx⟩
 refine ⟨_, rfl, fun a1 hE1 => ?_⟩
 obtain ⟨hW2, hF2, hL⟩ := hW.wrote 0 (rdo br A1 n1 c1 :: tb) rfl hst hs
 exact K x (andF P (fact x)) a1 w1 (fun _ _ g => g) (RS.mk' hW2 (hr1.move (Step.refl _ Nil) nilM hL) hE1.rdo (h.mv.and (hm x)) ⟨h.mv.move hF2.step immM hF2.to' hP, (hm x).mono hL hx⟩)
theorem rs_call0 {i d : Nat} {f : FuncId} {X rest : Bs} {v0 : Value} {N : Act → World → Prop} (h : RS w0 M F n br tb env P (X ++ rest) a w) (hc : RPrim0 Pr f X rest v0)
  (hf : ∀ args w, (callFunc f args).run Pr w = .ok (.enter f args) w) (K : ∀ a' w', RS w0 M F n br tb ((d, .v v0) :: env) P rest a' w' → N a' w')
  (he : ∀ A m c, callE (rdo br A m c :: tb) env ops n i = some (f, [.pointer (some ⟨br, 0, none⟩)], d) := by intro _ _ _; kernel_rfl) : wpOp Pr ops Q i N a w := by
 obtain ⟨A, m, c, hW, hr, hE, hP⟩ := h.open_
 refine wpOp_call hE (he A m c) hf (hc (Str.of hW 0 rfl) hr (imm_rd 0 rfl)) ?_
 rintro e_ w1 ⟨_, A1, n1, c1, rfl, hs, hr1, hst, rfl⟩
 refine ⟨_, rfl, fun a1 hE1 => ?_⟩
 obtain ⟨hW2, hF2, hL⟩ := hW.wrote 0 (rdo br A1 n1 c1 :: tb) rfl hst hs
 exact K a1 w1 (RS.mk' hW2 (hr1.move (Step.refl _ Nil) nilM hL) hE1.rdo h.mv (h.mv.move hF2.step immM hF2.to' hP))
theorem rs_complete {i d : Nat} {f : FuncId} {v0 : Value} {N : Act → World → Prop} (h : RS w0 M F n br tb env P s a w) (hc : ∀ {br : Nat} {A : Option Addr} {m c : Nat} {w : World}, Str w br [.slice A m c, .bool false] → Calls Pr f #[.pointer (some ⟨br, 0, none⟩)] w (fun e w' => e = .returned v0 ∧ w' = w))
  (hf : ∀ args w, (callFunc f args).run Pr w = .ok (.enter f args) w) (K : ∀ a', RS w0 M F n br tb ((d, .v v0) :: env) P s a' w → N a' w)
  (he : ∀ A m c, callE (rdo br A m c :: tb) env ops n i = some (f, [.pointer (some ⟨br, 0, none⟩)], d) := by intro _ _ _; kernel_rfl) : wpOp Pr ops Q i N a w := by
 obtain ⟨A, m, c, hW, hr, hE, hP⟩ := h.open_
 refine wpOp_call hE (he A m c) hf (hc (Str.of hW 0 rfl)) ?_
 rintro e_ _ ⟨rfl, rfl⟩
 exact ⟨_, rfl, fun a1 hE1 => K a1 (RS.mk' hW hr hE1 h.mv hP)⟩
theorem rs_store {i : Nat} (tb' : Tb) (j : Nat) {N : Act → World → Prop} (h : RS w0 M F n br tb env P s a w) (K : ∀ w', RS w0 M F n br tb' env P s a w' → N a w')
  (he : ∀ A m c, storeE Pr (rdo br A m c :: tb) env ops i = some (j + 1, (obAt tb' j).cells) := by intro _ _ _; kernel_rfl) (ht : Tb.put tb j (obAt tb' j).cells = tb' := by rfl) : wpOp Pr ops Q i N a w := by
 obtain ⟨A, m, c, hW, hr, hE, hP⟩ := h.open_
 refine wpOp_store hW hE (he A m c) fun w1 hF1 hW1 hE1 => K w1 ?_
 have e : Tb.put (rdo br A m c :: tb) (j + 1) (obAt tb' j).cells = rdo br A m c :: tb' := by
  show rdo br A m c :: Tb.put tb j (obAt tb' j).cells = _
  rw [ht]
 rw [e] at hF1 hW1 hE1
 exact RS.mk' hW1 (hr.move hF1.step immM hF1.to') hE1 h.mv (h.mv.move hF1.step immM hF1.to' hP)
theorem range_cons {k : Nat} (h : Nat.blt 0 k = true) : List.range k = [0] ++ (List.range k).drop 1 := by
 cases k with
 | zero => cases h
 | succ k => rw [List.range_succ_eq_map]; rfl
theorem rs_ca {id d : Nat} {f : FuncId} {τ : Type} {X rest : Bs} {val : τ → Value} {fact : τ → FactW} (env' : τ → Env) (h : RS w0 M F n br tb env P (X ++ rest) a w) (hc : RPrim Pr f X rest val fact) (hm : ∀ x, MvF (fact x))
  (hf : ∀ args w, (callFunc f args).run Pr w = .ok (.enter f args) w) (K : ∀ x P' a' w', (∀ w F, P' w F → P w F ∧ fact x w F) → RS w0 M F n br tb (env' x) P' rest a' w' → Q .normal a' w')
  (he : ∀ A m c, callE (rdo br A m c :: tb) env ops n 0 = some (f, [.pointer (some ⟨br, 0, none⟩)], d) := by intro _ _ _; kernel_rfl)
  (e : ∀ x A m c, runsP Pr ops n (rdo br A m c :: tb) ((List.range ops.size).drop 1) (keysOf (env' x)) ((d, .v (val x)) :: env) = some (env' x) := by intro _ _ _ _; kernel_rfl) (hs : Nat.blt 0 ops.size = true := by kernel_rfl) : (Code.region id ops false).wp Pr Q a w := by
 refine go_region _ (range_cons hs) (of_op (rs_call h hc hm hf (fun x P' a' w' hP hS => ?_) he))
 exact rs_rn ((List.range ops.size).drop 1) [] (env' x) hS (fun a2 h2 => wpOps_nil (K x P' a2 w' hP h2)) (e x) (List.append_nil _).symm
theorem rs_ca0 {id d : Nat} {f : FuncId} {X rest : Bs} {v0 : Value} (env' : Env) (h : RS w0 M F n br tb env P (X ++ rest) a w) (hc : RPrim0 Pr f X rest v0)
  (hf : ∀ args w, (callFunc f args).run Pr w = .ok (.enter f args) w) (K : ∀ a' w', RS w0 M F n br tb env' P rest a' w' → Q .normal a' w')
  (he : ∀ A m c, callE (rdo br A m c :: tb) env ops n 0 = some (f, [.pointer (some ⟨br, 0, none⟩)], d) := by intro _ _ _; kernel_rfl)
  (e : ∀ A m c, runsP Pr ops n (rdo br A m c :: tb) ((List.range ops.size).drop 1) (keysOf env') ((d, .v v0) :: env) = some env' := by intro _ _ _; kernel_rfl) (hs : Nat.blt 0 ops.size = true := by kernel_rfl) : (Code.region id ops false).wp Pr Q a w := by
 refine go_region _ (range_cons hs) (of_op (rs_call0 h hc hf (fun a' w' hS => ?_) he))
 exact rs_rn ((List.range ops.size).drop 1) [] env' hS (fun a2 h2 => wpOps_nil (K a2 w' h2)) e (List.append_nil _).symm
def stoE (P : Program) (ops : Array Oper) (n : Nat) (tb : Tb) (env : Env) (keys : List Nat) : Option (Nat × List Value × Env) :=
 match runs P ops n tb (List.range (ops.size - 1)) env with
 | some e => match storeE P tb e ops (ops.size - 1), pick e keys with
  | some (i, cs), some e' => some (i, cs, e')
  | _, _ => none
 | none => none
theorem rs_sto {id : Nat} (tb' : Tb) (j : Nat) (env' : Env) (h : RS w0 M F n br tb env P s a w) (K : ∀ a' w', RS w0 M F n br tb' env' P s a' w' → Q .normal a' w')
  (he : ∀ A m c, stoE Pr ops n (rdo br A m c :: tb) env (keysOf env') = some (j + 1, (obAt tb' j).cells, env') := by intro _ _ _; kernel_rfl) (ht : Tb.put tb j (obAt tb' j).cells = tb' := by rfl) (hs : Nat.blt 0 ops.size = true := by kernel_rfl) : (Code.region id ops false).wp Pr Q a w := by
 obtain ⟨A, m, c, hW, hr, hE, hP⟩ := h.open_
 have h1 := he A m c
 unfold stoE at h1
 split at h1
 ·rename_i e he'
  split at h1
  ·rename_i i cs e' g1 g2
   simp only [Option.some.injEq, Prod.mk.injEq] at h1
   obtain ⟨rfl, rfl, rfl⟩ := h1
   have hr0 : List.range ops.size = List.range (ops.size - 1) ++ [ops.size - 1] := by
    have : 0 < ops.size := by simpa [Nat.blt_eq] using hs
    rw [← List.range_succ]; congr 1; omega
   refine go_region _ hr0 (wpOps_runs hW.cells hE he' fun a1 hE1 => of_op (wpOp_store hW hE1 g1 fun w1 hF1 hW1 hE2 => wpOps_nil (K a1 w1 ?_)))
   have e : Tb.put (rdo br A m c :: tb) (j + 1) (obAt tb' j).cells = rdo br A m c :: tb' := by
    show rdo br A m c :: Tb.put tb j (obAt tb' j).cells = _
    rw [ht]
   rw [e] at hF1 hW1 hE2
   exact RS.mk' hW1 (hr.move hF1.step immM hF1.to') (hE2.pick g2) h.mv (h.mv.move hF1.step immM hF1.to' hP)
  ·cases h1
 ·cases h1
end
def swapE : Env → Env
 | [] => []
 | (k, .v x) :: r => (k, .v x) :: swapE r
 | (k, .p i j) :: r => (k, .p (match i with | 0 => 1 | 1 => 0 | i => i) j) :: swapE r
theorem swap_ok {n : Nat} {o1 o2 : Ob} {env : Env} {a : Act} (h : EnvOk n [o1, o2] env a) : EnvOk n [o2, o1] (swapE env) a := by
 have key : ∀ (env : Env) (k : Nat) (x : SV), lk (swapE env) k = some x → ∃ y, lk env k = some y ∧ (y.ok [o1, o2] → x.val [o2, o1] = y.val [o1, o2] ∧ x.ok [o2, o1]) := by
  intro env
  induction env with
  | nil => intro k x hx; cases hx
  | cons e r ih =>
   obtain ⟨k', sv⟩ := e
   intro k x hx
   cases sv with
   | v y =>
    simp only [swapE, lk] at hx ⊢
    split at hx
    ·rename_i hb
     simp only [Option.some.injEq] at hx
     subst hx
     exact ⟨_, rfl, fun _ => ⟨rfl, trivial⟩⟩
    ·exact ih k x hx
   | p i j =>
    simp only [swapE, lk] at hx ⊢
    split at hx
    ·rename_i hb
     simp only [Option.some.injEq] at hx
     subst hx
     refine ⟨_, rfl, fun hok => ?_⟩
     have hok' : i < 2 := hok
     match i, hok' with
     | 0, _ => exact ⟨rfl, show 1 < 2 by omega⟩
     | 1, _ => exact ⟨rfl, show 0 < 2 by omega⟩
    ·exact ih k x hx
 refine ⟨h.defers, h.size, fun k x hx => ?_⟩
 obtain ⟨y, hy, hv⟩ := key env k x hx
 obtain ⟨h1, h2⟩ := h.at_ k y hy
 obtain ⟨h3, h4⟩ := hv h2
 exact ⟨by rw [h3]; exact h1, h4⟩
theorem swap_get {α : Type} {x y o : α} {i : Nat} (h : [y, x][i]? = some o) : [x, y][1 - i]? = some o ∧ i < 2 := by
 match i, h with
 | 0, h => exact ⟨h, by omega⟩
 | 1, h => exact ⟨h, by omega⟩
 | i + 2, h => simp at h
theorem WOk.swap2 {w0 w : World} {M : Nat → Nat → Prop} {o1 o2 : Ob} (h : WOk w0 M w [o1, o2] []) : WOk w0 M w [o2, o1] [] :=
 ⟨h.step, fun i o hi => h.cells _ o (swap_get hi).1, fun i o hi => h.live _ o (swap_get hi).1, fun i o hi => h.rw_ _ o (swap_get hi).1, fun i j o o' hij hi hj hw => h.apart _ _ o o' (by have := (swap_get hi).2; have := (swap_get hj).2; omega) (swap_get hi).1 (swap_get hj).1 hw, h.own, h.ownM, fun i r hi => by simp at hi, h.rr⟩
theorem act_swap {o1 o2 : Ob} {b o : Nat} (h : Act_ [o2, o1] [] b o) : Act_ [o1, o2] [] b o := by
 rcases h with ⟨i, ob, hi, h1⟩ | ⟨i, r, hi, _⟩
 ·exact .inl ⟨_, ob, (swap_get hi).1, h1⟩
 ·simp at hi
theorem RS.start {w0 w : World} {M F : Nat → Nat → Prop} {n br c : Nat} {A : Option Addr} {o1 : Ob} {env : Env} {s : Bs} {a : Act} (hW : WOk w0 M w [o1, rdo br A s.length c] []) (hE : EnvOk n [o1, rdo br A s.length c] env a) (ho : Octs w (Imm F w0 w [o1, rdo br A s.length c] []) A c s) (env' : Env) (he : pick (swapE env) (keysOf env') = some env' := by kernel_rfl) : RS w0 M F n br [o1] env' noF s a w :=
 RS.mk' hW.swap2 ⟨rfl, ho.move (Step.refl w Nil) nilM fun b o h _ => ⟨h.1, h.2.1, fun ha => h.2.2 (act_swap ha)⟩⟩ ((swap_ok hE).pick he) MvF.no trivial
section
variable {w0 w : World} {M : Nat → Nat → Prop} {tb : Tb} {rs : List Rw}
end
section
variable {Pr : Program} {ops : Array Oper} {Q : Exit → Act → World → Prop} {w0 : World} {M F : Nat → Nat → Prop} {n br : Nat} {tb : Tb} {env : Env} {P : FactW} {s : Bs} {a : Act} {w : World}
 {g size : Nat} {cl : DV → List Value} {ok : World → (Nat → Nat → Prop) → DV → Prop} {rel : DV → Tree → Prop} {L : List Tree} {z : Value}
theorem loop_out {c : Code} (h : c.wp Pr (Exit.then (fun _ _ => False) Q) a w) : (Code.loop c).wp Pr Q a w := by
 refine wp_loop_ghost (fun _ a_ w_ => a_ = a ∧ w_ = w) 0 ⟨rfl, rfl⟩ ?_
 rintro q _ _ ⟨rfl, rfl⟩
 refine wp_mono h fun e a' w' hq => ?_
 cases e <;> first | exact hq | exact hq.elim
end
end Go.Proofs.YtgolpmkenmedoaaGreatDoor.ME
namespace Go.Proofs.YtgolpmkenmedoaaGreatDoor.ME
open Go
open Go.RowKit
set_option linter.unusedVariables false
set_option linter.unusedSimpArgs false
set_option maxRecDepth 20000
theorem rBE16 {A : Option Addr} {c : Nat} (s : Bs) {w : World} {F : Nat → Nat → Prop} (ho : Octs w F A c s) (hl : 2 ≤ s.length) :
  Calls Tryz.prog 232 #[.agg #[], .slice A s.length c] w (Gives w (.int .u16 (be16 s))) := by
 refine enter (n := 18) Tryz.func232 rfl Tryz.ntmps232 kz fun a hE => ?_
 have hW := WOk.start w Nil
 have ob0 := oc_lt s 0
 have ob1 := oc_lt s 1
 refine go_seq_region [0, 1] kz ?_
 refine of_op (wpOp_box hW hE (d := 2) (cs := []) kz fun b1 a2 w3 hb4 hz5 hF6 hW7 hE8 => ?_)
 clear hE hW
 refine go_rn [1] [] [(1, .v (.slice A s.length c))] hW7 hE8 fun a9 ac => ?_
 clear hE8
 refine wpOps_nil (then_normal ?_)
 refine go_seq_region [0, 1, 2] kz ?_
 refine go_rn [0] [1, 2] [(1, .v (.slice A s.length c)), (5, .v (.slice A s.length c))] hW7 ac fun aC ae => ?_
 clear ac
 obtain ⟨av, aw, af, ax, ab⟩ := Slots.get ho (i := 1) (by omega)
 refine of_op (wpOp_index ae (t := 22) (A := A) (m := s.length) (q := 1) (d := 6) kz (e := 5) (size := 1) (bytes := 1) (j := 1) kz af rfl (by omega) fun aD ag => ?_)
 clear ae
 refine of_op (wpOp_load ag (t := 5) (b := av) (o := aw + 1 * 1) (d := 7) kz (cs := [.int .u8 ((s.getD 1 0).toNat : Int)]) (v := .int .u8 ((s.getD 1 0).toNat : Int)) kz (AtF.move ab hW7.step nilM keepF).at_ fun aE ah => ?_)
 clear ag
 refine wpOps_nil (then_normal ?_)
 refine go_seq_drawQ kz hW7 fun aF ay aa => ?_
 clear hW7
 refine go_rnD [0, 4] [(8, .v (.slice A s.length c)), (12, .v (.slice A s.length c))] 9 (panicFree_then panicFree_body) (fun _ h => h ▸ aa.cells) rfl ah fun aG ai => ?_
 clear ah
 refine takeC_index ai (i := 1) (t := 22) (A := A) (m := s.length) (q := 1) (d := 9) kz (e := 5) (size := 1) (bytes := 1) (j := 1) kz af rfl (by omega) kz kz (panicFree_then panicFree_body) rfl fun aH aj => ?_
 clear ai
 refine takeC_load aj (i := 2) (t := 5) (b := av) (o := aw + 1 * 1) (d := 10) kz (cs := [.int .u8 ((s.getD 1 0).toNat : Int)]) (v := .int .u8 ((s.getD 1 0).toNat : Int)) kz (fun w' h' => h' ▸ (AtF.move ab aa.step nilM keepF).at_) kz kz (panicFree_then panicFree_body) rfl fun aI ak => ?_
 clear aj
 refine go_rnD [3] [(11, .v (.int .u16 (IntKind.u16.wrap ((s.getD 1 0).toNat : Int)))), (12, .v (.slice A s.length c))] 6 (panicFree_then panicFree_body) (fun _ h => h ▸ aa.cells) rfl ak fun aJ al => ?_
 clear ak
 obtain ⟨az, aA, ar, aB, am⟩ := Slots.get ho (i := 0) (by omega)
 refine takeC_index al (i := 5) (t := 22) (A := A) (m := s.length) (q := 0) (d := 13) kz (e := 5) (size := 1) (bytes := 1) (j := 0) kz ar rfl (by omega) kz kz (panicFree_then panicFree_body) rfl fun aK ao => ?_
 clear al
 refine takeC_load ao (i := 6) (t := 5) (b := az) (o := aA + 0 * 1) (d := 14) kz (cs := [.int .u8 ((s.getD 0 0).toNat : Int)]) (v := .int .u8 ((s.getD 0 0).toNat : Int)) kz (fun w' h' => h' ▸ (AtF.move am aa.step nilM keepF).at_) kz kz (panicFree_then panicFree_body) rfl fun aL ap => ?_
 clear ao
 refine go_rnD [7, 8, 9, 10] [(4, .v (.int .u16 (IntKind.u16.wrap (BitVec.ofInt 16 (IntKind.u16.wrap ((s.getD 1 0).toNat : Int)) ||| BitVec.ofInt 16 (IntKind.u16.wrap ((IntKind.u16.wrap ((s.getD 0 0).toNat : Int)) * 256))).toNat)))] 0 (panicFree_then panicFree_body) (fun _ h => h ▸ aa.cells) rfl ap fun aM au => ?_
 clear ap
 refine anyC_done kz ?_ _
 refine then_normal ?_
 refine wp_ret ?_
 refine leave au aa.cells (v := .int .u16 (IntKind.u16.wrap (BitVec.ofInt 16 (IntKind.u16.wrap ((s.getD 1 0).toNat : Int)) ||| BitVec.ofInt 16 (IntKind.u16.wrap ((IntKind.u16.wrap ((s.getD 0 0).toNat : Int)) * 256))).toNat)) kz ?_
 exact ⟨congrArg Ending.returned (congrArg (Value.int IntKind.u16) (u16_le (oc s 0) (oc s 1) ob0 ob1)), aa.step⟩
theorem rInt16 (x : Int) (rest : Bs)  {br : Nat} {A : Option Addr} {m c : Nat} {w : World} {F : Nat → Nat → Prop} (hst : Str w br [.slice A m c, .bool false]) (hr : RdS w F A m c (be 2 x ++ rest)) (hFd : ∀ b o, F b o → ¬ RdM br b o) :
  Calls Tryz.prog 197 #[.pointer (some ⟨br, 0, none⟩)] w (RdPost w br F rest fun v w' => v = .int .i16 (IntKind.i16.wrap x)) := by
 obtain ⟨hm, ho⟩ := hr
 subst hm
 have hle := ho.le
 refine enter (n := 32) Tryz.func197 rfl Tryz.ntmps197 kz fun a hE => ?_
 have hW : WOk w (RdM br) w [⟨br, 0, [.slice A ((be 2 x ++ rest).length) c, .bool false], true⟩] [] := WOk.startStr hst
 have hE1 := (hE.grow ⟨br, 0, [.slice A ((be 2 x ++ rest).length) c, .bool false], true⟩).recast 0 (.v (.pointer (some ⟨br, 0, none⟩))) (.p 0 0) rfl rfl (Nat.le_of_ble_eq_true (n := 1) rfl)
 refine go_sp [(0, .p 0 0)] hW hE1 fun a1 hE2 => ?_
 clear hE1
 refine wp_seq ?_
 refine go_sp [(0, .p 0 0), (9, .v (.bool (decide ((((be 2 x ++ rest).length : Nat) : Int) < 2))))] hW hE2 fun a3 hE4 => ?_
 clear hE2
 refine cond_false hE4 (b := decide ((((be 2 x ++ rest).length : Nat) : Int) < 2)) kz (decide_eq_false (by first | omega | (simp only [List.length_append, be_length, List.length_cons, List.length_nil] at *; omega))) ?_
 refine wp_skip ?_
 refine then_normal ?_
 refine go_seq_drawK 7 kz hW fun w5 hF6 hW7 hT8 => ?_
 clear hW
 refine go_rnD [1, 2, 3, 4] [(0, .p 0 0), (20, .v (.slice A ((be 2 x ++ rest).length) c))] 4 (panicFree_then panicFree_body) (fun _ h => h.cells) hT8 hE4 fun a9 ac => ?_
 clear hE4
 refine takeC_load ac (i := 0) (t := 246) (b := 1) (o := 0) (d := 16) kz (cs := []) (v := .agg #[]) kz (fun w' h' => (fun j_ v_ h_ => by simp at h_)) kz kz (panicFree_then panicFree_body) hT8 fun av ae => ?_
 clear ac
 refine anyC_op (i := 5) kz (wpOp_call ae (f := 232) (vs := [.agg #[], .slice A ((be 2 x ++ rest).length) c]) (d := 21) kz Tryz.call232 (rBE16 _ (ho.move hW7.step (fun b_ o_ h_ _ => hFd b_ o_ h_) (hW7.immM hFd)) (by first | omega | (simp only [List.length_append, be_length, List.length_cons, List.length_nil] at *; omega))) ?_)
 rintro e_ aw ⟨rfl, af⟩
 refine ⟨_, rfl, fun ax ag => ?_⟩
 have aa := hW7.next_nil af
 have ap := hW7.frN af
 clear ae
 have ah := TT.ofW ap aa
 refine ⟨fun _ => ah, ?_⟩
 refine go_rnD [6] [(0, .p 0 0), (22, .v (.int .i16 (IntKind.i16.wrap (be16 (be 2 x ++ rest)))))] 1 (panicFree_then panicFree_body) (fun _ h => h.cells) ah ag fun ay ai => ?_
 clear ag
 refine anyC_op (i := 7) kz (wpOp_pure [0, 3] aa.cells ai (env' := [(0, .p 0 0), (3, .v (.int .i16 (IntKind.i16.wrap (be16 (be 2 x ++ rest)))))]) kz fun az aj => ?_)
 clear ai
 refine ⟨fun h => absurd rfl h, ?_⟩
 refine anyC_done kz ?_ _
 refine then_normal ?_
 refine go_seq_region [0, 1, 2, 3, 4, 5, 6, 7, 8] kz ?_
 refine go_rn [0, 1, 2, 3, 4] [5, 6, 7, 8] [(3, .v (.int .i16 (IntKind.i16.wrap (be16 (be 2 x ++ rest))))), (23, .p 0 0), (27, .v (.slice A ((be 2 x ++ rest).length) c))] aa aj fun aA ak => ?_
 clear aj
 refine of_op (wpOp_cut_lo ak (t := 22) (A := A) (m := ((be 2 x ++ rest).length)) (cp := c) (q := 2) (d := 28) (j := 2) kz (e := 5) (bytes := 1) kz (rfl) (by first | omega | (simp only [List.length_append, be_length, List.length_cons, List.length_nil] at *; omega)) fun aB al => ?_)
 clear ak
 refine go_rn [6, 7] [8] [(3, .v (.int .i16 (IntKind.i16.wrap (be16 (be 2 x ++ rest))))), (28, .v (.slice (cutA A c 2) (((be 2 x ++ rest).length) - 2) (c - 2))), (30, .p 0 0)] aa al fun aC am => ?_
 clear al
 refine of_op (wpOp_store aa am (oi := 0) (cs := [.slice (cutA A c 2) (((be 2 x ++ rest).length) - 2) (c - 2), .bool false]) kz fun aD au ab ao => ?_)
 clear am aa
 refine wpOps_nil (then_normal ?_)
 refine go_sp [(2, .v (.int .i16 (IntKind.i16.wrap (be16 (be 2 x ++ rest)))))] ab ao fun aE ar => ?_
 clear ao
 refine wp_ret ?_
 refine leave ar ab.cells (v := .int .i16 (IntKind.i16.wrap (be16 (be 2 x ++ rest)))) kz ?_
 exact ⟨_, _, _, _, rfl, Str.of ab 0 rfl, RdS.drop (s := be 2 x) ⟨rfl, ho.move ab.step (fun b_ o_ h_ _ => hFd b_ o_ h_) keepF⟩ (by simp only [be_length, List.length_cons, List.length_nil]), ab.step, by rw [be16_be, i16_u16]⟩
theorem rInt8 (x : Int) (rest : Bs)  {br : Nat} {A : Option Addr} {m c : Nat} {w : World} {F : Nat → Nat → Prop} (hst : Str w br [.slice A m c, .bool false]) (hr : RdS w F A m c (be 1 x ++ rest)) (hFd : ∀ b o, F b o → ¬ RdM br b o) :
  Calls Tryz.prog 190 #[.pointer (some ⟨br, 0, none⟩)] w (RdPost w br F rest fun v w' => v = .int .i8 (IntKind.i8.wrap x)) := by
 obtain ⟨hm, ho⟩ := hr
 subst hm
 have hle := ho.le
 refine enter (n := 32) Tryz.func190 rfl Tryz.ntmps190 kz fun a hE => ?_
 have hW : WOk w (RdM br) w [⟨br, 0, [.slice A ((be 1 x ++ rest).length) c, .bool false], true⟩] [] := WOk.startStr hst
 have hE1 := (hE.grow ⟨br, 0, [.slice A ((be 1 x ++ rest).length) c, .bool false], true⟩).recast 0 (.v (.pointer (some ⟨br, 0, none⟩))) (.p 0 0) rfl rfl (Nat.le_of_ble_eq_true (n := 1) rfl)
 refine go_sp [(0, .p 0 0)] hW hE1 fun a1 hE2 => ?_
 clear hE1
 refine wp_seq ?_
 refine go_sp [(0, .p 0 0), (9, .v (.bool (decide ((((be 1 x ++ rest).length : Nat) : Int) < 1))))] hW hE2 fun a3 hE4 => ?_
 clear hE2
 refine cond_false hE4 (b := decide ((((be 1 x ++ rest).length : Nat) : Int) < 1)) kz (decide_eq_false (by first | omega | (simp only [List.length_append, be_length, List.length_cons, List.length_nil] at *; omega))) ?_
 refine wp_skip ?_
 refine then_normal ?_
 refine go_seq_region [0, 1, 2, 3, 4, 5, 6] kz ?_
 refine go_rn [0, 1, 2, 3] [4, 5, 6] [(0, .p 0 0), (19, .v (.slice A ((be 1 x ++ rest).length) c))] hW hE4 fun a5 hE6 => ?_
 clear hE4
 obtain ⟨b7, o8, hA9, al, ab⟩ := Slots.get ho (i := 0) (by first | omega | (simp only [List.length_append, be_length, List.length_cons, List.length_nil] at *; omega))
 refine of_op (wpOp_index hE6 (t := 22) (A := A) (m := ((be 1 x ++ rest).length)) (q := 0) (d := 20) kz (e := 5) (size := 1) (bytes := 1) (j := 0) kz hA9 rfl (by first | omega | (simp only [List.length_append, be_length, List.length_cons, List.length_nil] at *; omega)) fun ao ac => ?_)
 clear hE6
 refine of_op (wpOp_load ac (t := 5) (b := b7) (o := o8 + 0 * 1) (d := 21) kz (cs := [.int .u8 (((be 1 x ++ rest).getD 0 0).toNat : Int)]) (v := .int .u8 (((be 1 x ++ rest).getD 0 0).toNat : Int)) kz (AtF.move ab hW.step (fun b_ o_ h_ _ => hFd b_ o_ h_) keepF).at_ fun ap ae => ?_)
 clear ac
 refine go_rn [6] [] [(0, .p 0 0), (3, .v (.int .u8 (((be 1 x ++ rest).getD 0 0).toNat : Int)))] hW ae fun ar af => ?_
 clear ae
 refine wpOps_nil (then_normal ?_)
 refine go_seq_region [0, 1, 2, 3, 4, 5, 6, 7, 8] kz ?_
 refine go_rn [0, 1, 2, 3, 4] [5, 6, 7, 8] [(3, .v (.int .u8 (((be 1 x ++ rest).getD 0 0).toNat : Int))), (22, .p 0 0), (26, .v (.slice A ((be 1 x ++ rest).length) c))] hW af fun au ag => ?_
 clear af
 refine of_op (wpOp_cut_lo ag (t := 22) (A := A) (m := ((be 1 x ++ rest).length)) (cp := c) (q := 1) (d := 27) (j := 1) kz (e := 5) (bytes := 1) kz (rfl) (by first | omega | (simp only [List.length_append, be_length, List.length_cons, List.length_nil] at *; omega)) fun av ah => ?_)
 clear ag
 refine go_rn [6, 7] [8] [(3, .v (.int .u8 (((be 1 x ++ rest).getD 0 0).toNat : Int))), (27, .v (.slice (cutA A c 1) (((be 1 x ++ rest).length) - 1) (c - 1))), (29, .p 0 0)] hW ah fun aw ai => ?_
 clear ah
 refine of_op (wpOp_store hW ai (oi := 0) (cs := [.slice (cutA A c 1) (((be 1 x ++ rest).length) - 1) (c - 1), .bool false]) kz fun ax am aa aj => ?_)
 clear ai hW
 refine wpOps_nil (then_normal ?_)
 refine go_sp [(2, .v (.int .i8 (IntKind.i8.wrap (((be 1 x ++ rest).getD 0 0).toNat : Int))))] aa aj fun ay ak => ?_
 clear aj
 refine wp_ret ?_
 refine leave ak aa.cells (v := .int .i8 (IntKind.i8.wrap (((be 1 x ++ rest).getD 0 0).toNat : Int))) kz ?_
 exact ⟨_, _, _, _, rfl, Str.of aa 0 rfl, RdS.drop (s := be 1 x) ⟨rfl, ho.move aa.step (fun b_ o_ h_ _ => hFd b_ o_ h_) keepF⟩ (by simp only [be_length, List.length_cons, List.length_nil]), aa.step, by rw [oc1_be, i8_by8]⟩
theorem rUv1 {A : Option Addr} {c : Nat} (s : Bs) {w : World} {F : Nat → Nat → Prop} (ho : Octs w F A c s) (hl : 1 ≤ s.length) (d0 : Nat) (h0 : oc s 0 = d0) (g0 : d0 < 128) :
  Calls Tryz.prog 238 #[.slice A s.length c] w (Gives w (.tuple #[.int .u32 ((d0 : Nat) : Int), .int .i64 1])) := by
 refine enter (n := 87) Tryz.func238 rfl Tryz.ntmps238 kz fun a hE => ?_
 have hW := WOk.start w Nil
 refine go_sp [(0, .v (.slice A s.length c))] hW hE fun a1 hE2 => ?_
 clear hE
 refine wp_scope_straight ?_
 refine go_sp [(0, .v (.slice A s.length c))] hW hE2 fun a3 hE4 => ?_
 clear hE2
 refine go_sp [(0, .v (.slice A s.length c))] hW hE4 fun a5 hE6 => ?_
 clear hE4
 refine wp_seq ?_
 refine go_sp [(0, .v (.slice A s.length c)), (8, .v (.bool (decide (((s.length : Nat) : Int) < 1))))] hW hE6 fun a7 hE8 => ?_
 clear hE6
 refine cond_false hE8 (b := decide (((s.length : Nat) : Int) < 1)) kz (decide_eq_false (by omega)) ?_
 refine wp_skip ?_
 refine then_normal ?_
 refine go_seq_region [0, 1, 2, 3, 4, 5] kz ?_
 refine go_rn [0] [1, 2, 3, 4, 5] [(0, .v (.slice A s.length c)), (9, .v (.slice A s.length c))] hW hE8 fun a9 ac => ?_
 clear hE8
 obtain ⟨am, ao, ae, ap, aa⟩ := Slots.get ho (i := 0) (by first | omega | (simp only [List.length_append, be_length, List.length_cons, List.length_nil] at *; omega))
 refine of_op (wpOp_index ac (t := 22) (A := A) (m := s.length) (q := 0) (d := 10) kz (e := 5) (size := 1) (bytes := 1) (j := 0) kz ae rfl (by first | omega | (simp only [List.length_append, be_length, List.length_cons, List.length_nil] at *; omega)) fun ar af => ?_)
 clear ac
 refine of_op (wpOp_load af (t := 5) (b := am) (o := ao + 0 * 1) (d := 11) kz (cs := [.int .u8 ((s.getD 0 0).toNat : Int)]) (v := .int .u8 ((s.getD 0 0).toNat : Int)) kz (AtF.move aa hW.step nilM keepF).at_ fun au ag => ?_)
 clear af
 refine go_rn [3, 4, 5] [] [(0, .v (.slice A s.length c)), (4, .v (.int .u32 (IntKind.u32.wrap (IntKind.u8.wrap (BitVec.ofInt 8 ((s.getD 0 0).toNat : Int) &&& BitVec.ofInt 8 127).toNat))))] hW ag fun av ah => ?_
 clear ag
 refine wpOps_nil (then_normal ?_)
 refine wp_seq ?_
 refine go_seq_region [0, 1, 2, 3, 4] kz ?_
 refine go_rn [0] [1, 2, 3, 4] [(0, .v (.slice A s.length c)), (4, .v (.int .u32 (IntKind.u32.wrap (IntKind.u8.wrap (BitVec.ofInt 8 ((s.getD 0 0).toNat : Int) &&& BitVec.ofInt 8 127).toNat)))), (14, .v (.slice A s.length c))] hW ah fun aw ai => ?_
 clear ah
 refine of_op (wpOp_index ai (t := 22) (A := A) (m := s.length) (q := 0) (d := 15) kz (e := 5) (size := 1) (bytes := 1) (j := 0) kz ae rfl (by first | omega | (simp only [List.length_append, be_length, List.length_cons, List.length_nil] at *; omega)) fun ax aj => ?_)
 clear ai
 refine of_op (wpOp_load aj (t := 5) (b := am) (o := ao + 0 * 1) (d := 16) kz (cs := [.int .u8 ((s.getD 0 0).toNat : Int)]) (v := .int .u8 ((s.getD 0 0).toNat : Int)) kz (AtF.move aa hW.step nilM keepF).at_ fun ay ak => ?_)
 clear aj
 refine go_rn [3, 4] [] [(0, .v (.slice A s.length c)), (4, .v (.int .u32 (IntKind.u32.wrap (IntKind.u8.wrap (BitVec.ofInt 8 ((s.getD 0 0).toNat : Int) &&& BitVec.ofInt 8 127).toNat)))), (18, .v (.bool ((IntKind.u8.wrap (BitVec.ofInt 8 ((s.getD 0 0).toNat : Int) &&& BitVec.ofInt 8 128).toNat) == 0)))] hW ak fun az ab => ?_
 clear ak
 refine wpOps_nil (then_normal ?_)
 refine cond_true ab (b := (IntKind.u8.wrap (BitVec.ofInt 8 ((s.getD 0 0).toNat : Int) &&& BitVec.ofInt 8 128).toNat) == 0) kz ((and128 _ (oc_lt s 0)).trans (decide_eq_true (by have := h0; unfold oc at this; omega))) ?_
 refine go_sp [(2, .v (.int .u32 (IntKind.u32.wrap (IntKind.u8.wrap (BitVec.ofInt 8 ((s.getD 0 0).toNat : Int) &&& BitVec.ofInt 8 127).toNat)))), (3, .v (.int .i64 1))] hW ab fun aA al => ?_
 clear ab
 refine wp_ret ?_
 refine then_ret ?_
 refine scope_ret ?_
 refine leave al hW.cells (v := .tuple #[.int .u32 (IntKind.u32.wrap (IntKind.u8.wrap (BitVec.ofInt 8 ((s.getD 0 0).toNat : Int) &&& BitVec.ofInt 8 127).toNat)), .int .i64 1]) kz ?_
 have e_ := uv_1 (oc s 0) (oc_lt s 0)
 refine ⟨congrArg (fun z_ : Int => Ending.returned (.tuple #[.int .u32 z_, .int .i64 1])) (Eq.trans e_ ?_), hW.step⟩
 omega
theorem rUv2 {A : Option Addr} {c : Nat} (s : Bs) {w : World} {F : Nat → Nat → Prop} (ho : Octs w F A c s) (hl : 2 ≤ s.length) (d0 d1 : Nat) (h0 : oc s 0 = d0 + 128) (h1 : oc s 1 = d1) (g0 : d0 < 128) (g1 : d1 < 128) :
  Calls Tryz.prog 238 #[.slice A s.length c] w (Gives w (.tuple #[.int .u32 ((d0 + d1 * 128 : Nat) : Int), .int .i64 2])) := by
 refine enter (n := 87) Tryz.func238 rfl Tryz.ntmps238 kz fun a hE => ?_
 have hW := WOk.start w Nil
 refine go_sp [(0, .v (.slice A s.length c))] hW hE fun a1 hE2 => ?_
 clear hE
 refine wp_scope_straight ?_
 refine go_sp [(0, .v (.slice A s.length c))] hW hE2 fun a3 hE4 => ?_
 clear hE2
 refine go_sp [(0, .v (.slice A s.length c))] hW hE4 fun a5 hE6 => ?_
 clear hE4
 refine wp_seq ?_
 refine go_sp [(0, .v (.slice A s.length c)), (8, .v (.bool (decide (((s.length : Nat) : Int) < 1))))] hW hE6 fun a7 hE8 => ?_
 clear hE6
 refine cond_false hE8 (b := decide (((s.length : Nat) : Int) < 1)) kz (decide_eq_false (by omega)) ?_
 refine wp_skip ?_
 refine then_normal ?_
 refine go_seq_region [0, 1, 2, 3, 4, 5] kz ?_
 refine go_rn [0] [1, 2, 3, 4, 5] [(0, .v (.slice A s.length c)), (9, .v (.slice A s.length c))] hW hE8 fun a9 ag => ?_
 clear hE8
 obtain ⟨aB, aC, ah, aF, aa⟩ := Slots.get ho (i := 0) (by first | omega | (simp only [List.length_append, be_length, List.length_cons, List.length_nil] at *; omega))
 refine of_op (wpOp_index ag (t := 22) (A := A) (m := s.length) (q := 0) (d := 10) kz (e := 5) (size := 1) (bytes := 1) (j := 0) kz ah rfl (by first | omega | (simp only [List.length_append, be_length, List.length_cons, List.length_nil] at *; omega)) fun aH ai => ?_)
 clear ag
 refine of_op (wpOp_load ai (t := 5) (b := aB) (o := aC + 0 * 1) (d := 11) kz (cs := [.int .u8 ((s.getD 0 0).toNat : Int)]) (v := .int .u8 ((s.getD 0 0).toNat : Int)) kz (AtF.move aa hW.step nilM keepF).at_ fun aI aj => ?_)
 clear ai
 refine go_rn [3, 4, 5] [] [(0, .v (.slice A s.length c)), (4, .v (.int .u32 (IntKind.u32.wrap (IntKind.u8.wrap (BitVec.ofInt 8 ((s.getD 0 0).toNat : Int) &&& BitVec.ofInt 8 127).toNat))))] hW aj fun aJ ak => ?_
 clear aj
 refine wpOps_nil (then_normal ?_)
 refine wp_seq ?_
 refine go_seq_region [0, 1, 2, 3, 4] kz ?_
 refine go_rn [0] [1, 2, 3, 4] [(0, .v (.slice A s.length c)), (4, .v (.int .u32 (IntKind.u32.wrap (IntKind.u8.wrap (BitVec.ofInt 8 ((s.getD 0 0).toNat : Int) &&& BitVec.ofInt 8 127).toNat)))), (14, .v (.slice A s.length c))] hW ak fun aK al => ?_
 clear ak
 refine of_op (wpOp_index al (t := 22) (A := A) (m := s.length) (q := 0) (d := 15) kz (e := 5) (size := 1) (bytes := 1) (j := 0) kz ah rfl (by first | omega | (simp only [List.length_append, be_length, List.length_cons, List.length_nil] at *; omega)) fun aL am => ?_)
 clear al
 refine of_op (wpOp_load am (t := 5) (b := aB) (o := aC + 0 * 1) (d := 16) kz (cs := [.int .u8 ((s.getD 0 0).toNat : Int)]) (v := .int .u8 ((s.getD 0 0).toNat : Int)) kz (AtF.move aa hW.step nilM keepF).at_ fun aM ao => ?_)
 clear am
 refine go_rn [3, 4] [] [(0, .v (.slice A s.length c)), (4, .v (.int .u32 (IntKind.u32.wrap (IntKind.u8.wrap (BitVec.ofInt 8 ((s.getD 0 0).toNat : Int) &&& BitVec.ofInt 8 127).toNat)))), (18, .v (.bool ((IntKind.u8.wrap (BitVec.ofInt 8 ((s.getD 0 0).toNat : Int) &&& BitVec.ofInt 8 128).toNat) == 0)))] hW ao fun aN ac => ?_
 clear ao
 refine wpOps_nil (then_normal ?_)
 refine cond_false ac (b := (IntKind.u8.wrap (BitVec.ofInt 8 ((s.getD 0 0).toNat : Int) &&& BitVec.ofInt 8 128).toNat) == 0) kz ((and128 _ (oc_lt s 0)).trans (decide_eq_false (by have := h0; unfold oc at this; omega))) ?_
 refine go_sp [(0, .v (.slice A s.length c)), (4, .v (.int .u32 (IntKind.u32.wrap (IntKind.u8.wrap (BitVec.ofInt 8 ((s.getD 0 0).toNat : Int) &&& BitVec.ofInt 8 127).toNat)))), (22, .v (.bool (decide (((s.length : Nat) : Int) < 2))))] hW ac fun aO ae => ?_
 clear ac
 refine cond_false ae (b := decide (((s.length : Nat) : Int) < 2)) kz (decide_eq_false (by omega)) ?_
 refine wp_skip ?_
 refine then_normal ?_
 refine go_seq_region [0, 1, 2, 3, 4, 5, 6, 7, 8] kz ?_
 refine go_rn [0, 1] [2, 3, 4, 5, 6, 7, 8] [(0, .v (.slice A s.length c)), (23, .v (.int .u32 (IntKind.u32.wrap (IntKind.u8.wrap (BitVec.ofInt 8 ((s.getD 0 0).toNat : Int) &&& BitVec.ofInt 8 127).toNat)))), (24, .v (.slice A s.length c))] hW ae fun aP ap => ?_
 clear ae
 obtain ⟨aD, aE, ar, aG, ab⟩ := Slots.get ho (i := 1) (by first | omega | (simp only [List.length_append, be_length, List.length_cons, List.length_nil] at *; omega))
 refine of_op (wpOp_index ap (t := 22) (A := A) (m := s.length) (q := 1) (d := 25) kz (e := 5) (size := 1) (bytes := 1) (j := 1) kz ar rfl (by first | omega | (simp only [List.length_append, be_length, List.length_cons, List.length_nil] at *; omega)) fun aQ au => ?_)
 clear ap
 refine of_op (wpOp_load au (t := 5) (b := aD) (o := aE + 1 * 1) (d := 26) kz (cs := [.int .u8 ((s.getD 1 0).toNat : Int)]) (v := .int .u8 ((s.getD 1 0).toNat : Int)) kz (AtF.move ab hW.step nilM keepF).at_ fun aR av => ?_)
 clear au
 refine go_rn [4, 5, 6, 7, 8] [] [(0, .v (.slice A s.length c)), (4, .v (.int .u32 (IntKind.u32.wrap (BitVec.ofInt 32 (IntKind.u32.wrap (IntKind.u8.wrap (BitVec.ofInt 8 ((s.getD 0 0).toNat : Int) &&& BitVec.ofInt 8 127).toNat)) ||| BitVec.ofInt 32 (IntKind.u32.wrap ((IntKind.u32.wrap (IntKind.u8.wrap (BitVec.ofInt 8 ((s.getD 1 0).toNat : Int) &&& BitVec.ofInt 8 127).toNat)) * 128))).toNat)))] hW av fun aS aw => ?_
 clear av
 refine wpOps_nil (then_normal ?_)
 refine wp_seq ?_
 refine go_seq_region [0, 1, 2, 3, 4] kz ?_
 refine go_rn [0] [1, 2, 3, 4] [(0, .v (.slice A s.length c)), (4, .v (.int .u32 (IntKind.u32.wrap (BitVec.ofInt 32 (IntKind.u32.wrap (IntKind.u8.wrap (BitVec.ofInt 8 ((s.getD 0 0).toNat : Int) &&& BitVec.ofInt 8 127).toNat)) ||| BitVec.ofInt 32 (IntKind.u32.wrap ((IntKind.u32.wrap (IntKind.u8.wrap (BitVec.ofInt 8 ((s.getD 1 0).toNat : Int) &&& BitVec.ofInt 8 127).toNat)) * 128))).toNat))), (31, .v (.slice A s.length c))] hW aw fun aT ax => ?_
 clear aw
 refine of_op (wpOp_index ax (t := 22) (A := A) (m := s.length) (q := 1) (d := 32) kz (e := 5) (size := 1) (bytes := 1) (j := 1) kz ar rfl (by first | omega | (simp only [List.length_append, be_length, List.length_cons, List.length_nil] at *; omega)) fun aU ay => ?_)
 clear ax
 refine of_op (wpOp_load ay (t := 5) (b := aD) (o := aE + 1 * 1) (d := 33) kz (cs := [.int .u8 ((s.getD 1 0).toNat : Int)]) (v := .int .u8 ((s.getD 1 0).toNat : Int)) kz (AtF.move ab hW.step nilM keepF).at_ fun aV az => ?_)
 clear ay
 refine go_rn [3, 4] [] [(0, .v (.slice A s.length c)), (4, .v (.int .u32 (IntKind.u32.wrap (BitVec.ofInt 32 (IntKind.u32.wrap (IntKind.u8.wrap (BitVec.ofInt 8 ((s.getD 0 0).toNat : Int) &&& BitVec.ofInt 8 127).toNat)) ||| BitVec.ofInt 32 (IntKind.u32.wrap ((IntKind.u32.wrap (IntKind.u8.wrap (BitVec.ofInt 8 ((s.getD 1 0).toNat : Int) &&& BitVec.ofInt 8 127).toNat)) * 128))).toNat))), (35, .v (.bool ((IntKind.u8.wrap (BitVec.ofInt 8 ((s.getD 1 0).toNat : Int) &&& BitVec.ofInt 8 128).toNat) == 0)))] hW az fun aW af => ?_
 clear az
 refine wpOps_nil (then_normal ?_)
 refine cond_true af (b := (IntKind.u8.wrap (BitVec.ofInt 8 ((s.getD 1 0).toNat : Int) &&& BitVec.ofInt 8 128).toNat) == 0) kz ((and128 _ (oc_lt s 1)).trans (decide_eq_true (by have := h1; unfold oc at this; omega))) ?_
 refine go_sp [(2, .v (.int .u32 (IntKind.u32.wrap (BitVec.ofInt 32 (IntKind.u32.wrap (IntKind.u8.wrap (BitVec.ofInt 8 ((s.getD 0 0).toNat : Int) &&& BitVec.ofInt 8 127).toNat)) ||| BitVec.ofInt 32 (IntKind.u32.wrap ((IntKind.u32.wrap (IntKind.u8.wrap (BitVec.ofInt 8 ((s.getD 1 0).toNat : Int) &&& BitVec.ofInt 8 127).toNat)) * 128))).toNat))), (3, .v (.int .i64 2))] hW af fun aX aA => ?_
 clear af
 refine wp_ret ?_
 refine then_ret ?_
 refine scope_ret ?_
 refine leave aA hW.cells (v := .tuple #[.int .u32 (IntKind.u32.wrap (BitVec.ofInt 32 (IntKind.u32.wrap (IntKind.u8.wrap (BitVec.ofInt 8 ((s.getD 0 0).toNat : Int) &&& BitVec.ofInt 8 127).toNat)) ||| BitVec.ofInt 32 (IntKind.u32.wrap ((IntKind.u32.wrap (IntKind.u8.wrap (BitVec.ofInt 8 ((s.getD 1 0).toNat : Int) &&& BitVec.ofInt 8 127).toNat)) * 128))).toNat), .int .i64 2]) kz ?_
 have e_ := uv_2 (oc s 0) (oc s 1) (oc_lt s 0) (oc_lt s 1)
 refine ⟨congrArg (fun z_ : Int => Ending.returned (.tuple #[.int .u32 z_, .int .i64 2])) (Eq.trans e_ ?_), hW.step⟩
 omega
theorem rUv3 {A : Option Addr} {c : Nat} (s : Bs) {w : World} {F : Nat → Nat → Prop} (ho : Octs w F A c s) (hl : 3 ≤ s.length) (d0 d1 d2 : Nat) (h0 : oc s 0 = d0 + 128) (h1 : oc s 1 = d1 + 128) (h2 : oc s 2 = d2) (g0 : d0 < 128) (g1 : d1 < 128) (g2 : d2 < 128) :
  Calls Tryz.prog 238 #[.slice A s.length c] w (Gives w (.tuple #[.int .u32 ((d0 + d1 * 128 + d2 * 16384 : Nat) : Int), .int .i64 3])) := by
 refine enter (n := 87) Tryz.func238 rfl Tryz.ntmps238 kz fun a hE => ?_
 have hW := WOk.start w Nil
 refine go_sp [(0, .v (.slice A s.length c))] hW hE fun a1 hE2 => ?_
 clear hE
 refine wp_scope_straight ?_
 refine go_sp [(0, .v (.slice A s.length c))] hW hE2 fun a3 hE4 => ?_
 clear hE2
 refine go_sp [(0, .v (.slice A s.length c))] hW hE4 fun a5 hE6 => ?_
 clear hE4
 refine wp_seq ?_
 refine go_sp [(0, .v (.slice A s.length c)), (8, .v (.bool (decide (((s.length : Nat) : Int) < 1))))] hW hE6 fun a7 hE8 => ?_
 clear hE6
 refine cond_false hE8 (b := decide (((s.length : Nat) : Int) < 1)) kz (decide_eq_false (by omega)) ?_
 refine wp_skip ?_
 refine then_normal ?_
 refine go_seq_region [0, 1, 2, 3, 4, 5] kz ?_
 refine go_rn [0] [1, 2, 3, 4, 5] [(0, .v (.slice A s.length c)), (9, .v (.slice A s.length c))] hW hE8 fun a9 aj => ?_
 clear hE8
 obtain ⟨aM, aN, ak, aS, aa⟩ := Slots.get ho (i := 0) (by first | omega | (simp only [List.length_append, be_length, List.length_cons, List.length_nil] at *; omega))
 refine of_op (wpOp_index aj (t := 22) (A := A) (m := s.length) (q := 0) (d := 10) kz (e := 5) (size := 1) (bytes := 1) (j := 0) kz ak rfl (by first | omega | (simp only [List.length_append, be_length, List.length_cons, List.length_nil] at *; omega)) fun aV al => ?_)
 clear aj
 refine of_op (wpOp_load al (t := 5) (b := aM) (o := aN + 0 * 1) (d := 11) kz (cs := [.int .u8 ((s.getD 0 0).toNat : Int)]) (v := .int .u8 ((s.getD 0 0).toNat : Int)) kz (AtF.move aa hW.step nilM keepF).at_ fun aW am => ?_)
 clear al
 refine go_rn [3, 4, 5] [] [(0, .v (.slice A s.length c)), (4, .v (.int .u32 (IntKind.u32.wrap (IntKind.u8.wrap (BitVec.ofInt 8 ((s.getD 0 0).toNat : Int) &&& BitVec.ofInt 8 127).toNat))))] hW am fun aX ao => ?_
 clear am
 refine wpOps_nil (then_normal ?_)
 refine wp_seq ?_
 refine go_seq_region [0, 1, 2, 3, 4] kz ?_
 refine go_rn [0] [1, 2, 3, 4] [(0, .v (.slice A s.length c)), (4, .v (.int .u32 (IntKind.u32.wrap (IntKind.u8.wrap (BitVec.ofInt 8 ((s.getD 0 0).toNat : Int) &&& BitVec.ofInt 8 127).toNat)))), (14, .v (.slice A s.length c))] hW ao fun aY ap => ?_
 clear ao
 refine of_op (wpOp_index ap (t := 22) (A := A) (m := s.length) (q := 0) (d := 15) kz (e := 5) (size := 1) (bytes := 1) (j := 0) kz ak rfl (by first | omega | (simp only [List.length_append, be_length, List.length_cons, List.length_nil] at *; omega)) fun aZ ar => ?_)
 clear ap
 refine of_op (wpOp_load ar (t := 5) (b := aM) (o := aN + 0 * 1) (d := 16) kz (cs := [.int .u8 ((s.getD 0 0).toNat : Int)]) (v := .int .u8 ((s.getD 0 0).toNat : Int)) kz (AtF.move aa hW.step nilM keepF).at_ fun ba au => ?_)
 clear ar
 refine go_rn [3, 4] [] [(0, .v (.slice A s.length c)), (4, .v (.int .u32 (IntKind.u32.wrap (IntKind.u8.wrap (BitVec.ofInt 8 ((s.getD 0 0).toNat : Int) &&& BitVec.ofInt 8 127).toNat)))), (18, .v (.bool ((IntKind.u8.wrap (BitVec.ofInt 8 ((s.getD 0 0).toNat : Int) &&& BitVec.ofInt 8 128).toNat) == 0)))] hW au fun bd ae => ?_
 clear au
 refine wpOps_nil (then_normal ?_)
 refine cond_false ae (b := (IntKind.u8.wrap (BitVec.ofInt 8 ((s.getD 0 0).toNat : Int) &&& BitVec.ofInt 8 128).toNat) == 0) kz ((and128 _ (oc_lt s 0)).trans (decide_eq_false (by have := h0; unfold oc at this; omega))) ?_
 refine go_sp [(0, .v (.slice A s.length c)), (4, .v (.int .u32 (IntKind.u32.wrap (IntKind.u8.wrap (BitVec.ofInt 8 ((s.getD 0 0).toNat : Int) &&& BitVec.ofInt 8 127).toNat)))), (22, .v (.bool (decide (((s.length : Nat) : Int) < 2))))] hW ae fun bf af => ?_
 clear ae
 refine cond_false af (b := decide (((s.length : Nat) : Int) < 2)) kz (decide_eq_false (by omega)) ?_
 refine wp_skip ?_
 refine then_normal ?_
 refine go_seq_region [0, 1, 2, 3, 4, 5, 6, 7, 8] kz ?_
 refine go_rn [0, 1] [2, 3, 4, 5, 6, 7, 8] [(0, .v (.slice A s.length c)), (23, .v (.int .u32 (IntKind.u32.wrap (IntKind.u8.wrap (BitVec.ofInt 8 ((s.getD 0 0).toNat : Int) &&& BitVec.ofInt 8 127).toNat)))), (24, .v (.slice A s.length c))] hW af fun bg av => ?_
 clear af
 obtain ⟨aO, aP, aw, aT, ab⟩ := Slots.get ho (i := 1) (by first | omega | (simp only [List.length_append, be_length, List.length_cons, List.length_nil] at *; omega))
 refine of_op (wpOp_index av (t := 22) (A := A) (m := s.length) (q := 1) (d := 25) kz (e := 5) (size := 1) (bytes := 1) (j := 1) kz aw rfl (by first | omega | (simp only [List.length_append, be_length, List.length_cons, List.length_nil] at *; omega)) fun bh ax => ?_)
 clear av
 refine of_op (wpOp_load ax (t := 5) (b := aO) (o := aP + 1 * 1) (d := 26) kz (cs := [.int .u8 ((s.getD 1 0).toNat : Int)]) (v := .int .u8 ((s.getD 1 0).toNat : Int)) kz (AtF.move ab hW.step nilM keepF).at_ fun bi ay => ?_)
 clear ax
 refine go_rn [4, 5, 6, 7, 8] [] [(0, .v (.slice A s.length c)), (4, .v (.int .u32 (IntKind.u32.wrap (BitVec.ofInt 32 (IntKind.u32.wrap (IntKind.u8.wrap (BitVec.ofInt 8 ((s.getD 0 0).toNat : Int) &&& BitVec.ofInt 8 127).toNat)) ||| BitVec.ofInt 32 (IntKind.u32.wrap ((IntKind.u32.wrap (IntKind.u8.wrap (BitVec.ofInt 8 ((s.getD 1 0).toNat : Int) &&& BitVec.ofInt 8 127).toNat)) * 128))).toNat)))] hW ay fun bj az => ?_
 clear ay
 refine wpOps_nil (then_normal ?_)
 refine wp_seq ?_
 refine go_seq_region [0, 1, 2, 3, 4] kz ?_
 refine go_rn [0] [1, 2, 3, 4] [(0, .v (.slice A s.length c)), (4, .v (.int .u32 (IntKind.u32.wrap (BitVec.ofInt 32 (IntKind.u32.wrap (IntKind.u8.wrap (BitVec.ofInt 8 ((s.getD 0 0).toNat : Int) &&& BitVec.ofInt 8 127).toNat)) ||| BitVec.ofInt 32 (IntKind.u32.wrap ((IntKind.u32.wrap (IntKind.u8.wrap (BitVec.ofInt 8 ((s.getD 1 0).toNat : Int) &&& BitVec.ofInt 8 127).toNat)) * 128))).toNat))), (31, .v (.slice A s.length c))] hW az fun bk aA => ?_
 clear az
 refine of_op (wpOp_index aA (t := 22) (A := A) (m := s.length) (q := 1) (d := 32) kz (e := 5) (size := 1) (bytes := 1) (j := 1) kz aw rfl (by first | omega | (simp only [List.length_append, be_length, List.length_cons, List.length_nil] at *; omega)) fun bn aB => ?_)
 clear aA
 refine of_op (wpOp_load aB (t := 5) (b := aO) (o := aP + 1 * 1) (d := 33) kz (cs := [.int .u8 ((s.getD 1 0).toNat : Int)]) (v := .int .u8 ((s.getD 1 0).toNat : Int)) kz (AtF.move ab hW.step nilM keepF).at_ fun bo aC => ?_)
 clear aB
 refine go_rn [3, 4] [] [(0, .v (.slice A s.length c)), (4, .v (.int .u32 (IntKind.u32.wrap (BitVec.ofInt 32 (IntKind.u32.wrap (IntKind.u8.wrap (BitVec.ofInt 8 ((s.getD 0 0).toNat : Int) &&& BitVec.ofInt 8 127).toNat)) ||| BitVec.ofInt 32 (IntKind.u32.wrap ((IntKind.u32.wrap (IntKind.u8.wrap (BitVec.ofInt 8 ((s.getD 1 0).toNat : Int) &&& BitVec.ofInt 8 127).toNat)) * 128))).toNat))), (35, .v (.bool ((IntKind.u8.wrap (BitVec.ofInt 8 ((s.getD 1 0).toNat : Int) &&& BitVec.ofInt 8 128).toNat) == 0)))] hW aC fun bp ag => ?_
 clear aC
 refine wpOps_nil (then_normal ?_)
 refine cond_false ag (b := (IntKind.u8.wrap (BitVec.ofInt 8 ((s.getD 1 0).toNat : Int) &&& BitVec.ofInt 8 128).toNat) == 0) kz ((and128 _ (oc_lt s 1)).trans (decide_eq_false (by have := h1; unfold oc at this; omega))) ?_
 refine go_sp [(0, .v (.slice A s.length c)), (4, .v (.int .u32 (IntKind.u32.wrap (BitVec.ofInt 32 (IntKind.u32.wrap (IntKind.u8.wrap (BitVec.ofInt 8 ((s.getD 0 0).toNat : Int) &&& BitVec.ofInt 8 127).toNat)) ||| BitVec.ofInt 32 (IntKind.u32.wrap ((IntKind.u32.wrap (IntKind.u8.wrap (BitVec.ofInt 8 ((s.getD 1 0).toNat : Int) &&& BitVec.ofInt 8 127).toNat)) * 128))).toNat))), (39, .v (.bool (decide (((s.length : Nat) : Int) < 3))))] hW ag fun bq ah => ?_
 clear ag
 refine cond_false ah (b := decide (((s.length : Nat) : Int) < 3)) kz (decide_eq_false (by omega)) ?_
 refine wp_skip ?_
 refine then_normal ?_
 refine go_seq_region [0, 1, 2, 3, 4, 5, 6, 7, 8] kz ?_
 refine go_rn [0, 1] [2, 3, 4, 5, 6, 7, 8] [(0, .v (.slice A s.length c)), (40, .v (.int .u32 (IntKind.u32.wrap (BitVec.ofInt 32 (IntKind.u32.wrap (IntKind.u8.wrap (BitVec.ofInt 8 ((s.getD 0 0).toNat : Int) &&& BitVec.ofInt 8 127).toNat)) ||| BitVec.ofInt 32 (IntKind.u32.wrap ((IntKind.u32.wrap (IntKind.u8.wrap (BitVec.ofInt 8 ((s.getD 1 0).toNat : Int) &&& BitVec.ofInt 8 127).toNat)) * 128))).toNat))), (41, .v (.slice A s.length c))] hW ah fun bt aD => ?_
 clear ah
 obtain ⟨aQ, aR, aE, aU, ac⟩ := Slots.get ho (i := 2) (by first | omega | (simp only [List.length_append, be_length, List.length_cons, List.length_nil] at *; omega))
 refine of_op (wpOp_index aD (t := 22) (A := A) (m := s.length) (q := 2) (d := 42) kz (e := 5) (size := 1) (bytes := 1) (j := 2) kz aE rfl (by first | omega | (simp only [List.length_append, be_length, List.length_cons, List.length_nil] at *; omega)) fun bu aF => ?_)
 clear aD
 refine of_op (wpOp_load aF (t := 5) (b := aQ) (o := aR + 2 * 1) (d := 43) kz (cs := [.int .u8 ((s.getD 2 0).toNat : Int)]) (v := .int .u8 ((s.getD 2 0).toNat : Int)) kz (AtF.move ac hW.step nilM keepF).at_ fun bw aG => ?_)
 clear aF
 refine go_rn [4, 5, 6, 7, 8] [] [(0, .v (.slice A s.length c)), (4, .v (.int .u32 (IntKind.u32.wrap (BitVec.ofInt 32 (IntKind.u32.wrap (BitVec.ofInt 32 (IntKind.u32.wrap (IntKind.u8.wrap (BitVec.ofInt 8 ((s.getD 0 0).toNat : Int) &&& BitVec.ofInt 8 127).toNat)) ||| BitVec.ofInt 32 (IntKind.u32.wrap ((IntKind.u32.wrap (IntKind.u8.wrap (BitVec.ofInt 8 ((s.getD 1 0).toNat : Int) &&& BitVec.ofInt 8 127).toNat)) * 128))).toNat) ||| BitVec.ofInt 32 (IntKind.u32.wrap ((IntKind.u32.wrap (IntKind.u8.wrap (BitVec.ofInt 8 ((s.getD 2 0).toNat : Int) &&& BitVec.ofInt 8 127).toNat)) * 16384))).toNat)))] hW aG fun bx aH => ?_
 clear aG
 refine wpOps_nil (then_normal ?_)
 refine wp_seq ?_
 refine go_seq_region [0, 1, 2, 3, 4] kz ?_
 refine go_rn [0] [1, 2, 3, 4] [(0, .v (.slice A s.length c)), (4, .v (.int .u32 (IntKind.u32.wrap (BitVec.ofInt 32 (IntKind.u32.wrap (BitVec.ofInt 32 (IntKind.u32.wrap (IntKind.u8.wrap (BitVec.ofInt 8 ((s.getD 0 0).toNat : Int) &&& BitVec.ofInt 8 127).toNat)) ||| BitVec.ofInt 32 (IntKind.u32.wrap ((IntKind.u32.wrap (IntKind.u8.wrap (BitVec.ofInt 8 ((s.getD 1 0).toNat : Int) &&& BitVec.ofInt 8 127).toNat)) * 128))).toNat) ||| BitVec.ofInt 32 (IntKind.u32.wrap ((IntKind.u32.wrap (IntKind.u8.wrap (BitVec.ofInt 8 ((s.getD 2 0).toNat : Int) &&& BitVec.ofInt 8 127).toNat)) * 16384))).toNat))), (48, .v (.slice A s.length c))] hW aH fun bz aI => ?_
 clear aH
 refine of_op (wpOp_index aI (t := 22) (A := A) (m := s.length) (q := 2) (d := 49) kz (e := 5) (size := 1) (bytes := 1) (j := 2) kz aE rfl (by first | omega | (simp only [List.length_append, be_length, List.length_cons, List.length_nil] at *; omega)) fun bA aJ => ?_)
 clear aI
 refine of_op (wpOp_load aJ (t := 5) (b := aQ) (o := aR + 2 * 1) (d := 50) kz (cs := [.int .u8 ((s.getD 2 0).toNat : Int)]) (v := .int .u8 ((s.getD 2 0).toNat : Int)) kz (AtF.move ac hW.step nilM keepF).at_ fun bB aK => ?_)
 clear aJ
 refine go_rn [3, 4] [] [(0, .v (.slice A s.length c)), (4, .v (.int .u32 (IntKind.u32.wrap (BitVec.ofInt 32 (IntKind.u32.wrap (BitVec.ofInt 32 (IntKind.u32.wrap (IntKind.u8.wrap (BitVec.ofInt 8 ((s.getD 0 0).toNat : Int) &&& BitVec.ofInt 8 127).toNat)) ||| BitVec.ofInt 32 (IntKind.u32.wrap ((IntKind.u32.wrap (IntKind.u8.wrap (BitVec.ofInt 8 ((s.getD 1 0).toNat : Int) &&& BitVec.ofInt 8 127).toNat)) * 128))).toNat) ||| BitVec.ofInt 32 (IntKind.u32.wrap ((IntKind.u32.wrap (IntKind.u8.wrap (BitVec.ofInt 8 ((s.getD 2 0).toNat : Int) &&& BitVec.ofInt 8 127).toNat)) * 16384))).toNat))), (52, .v (.bool ((IntKind.u8.wrap (BitVec.ofInt 8 ((s.getD 2 0).toNat : Int) &&& BitVec.ofInt 8 128).toNat) == 0)))] hW aK fun bC ai => ?_
 clear aK
 refine wpOps_nil (then_normal ?_)
 refine cond_true ai (b := (IntKind.u8.wrap (BitVec.ofInt 8 ((s.getD 2 0).toNat : Int) &&& BitVec.ofInt 8 128).toNat) == 0) kz ((and128 _ (oc_lt s 2)).trans (decide_eq_true (by have := h2; unfold oc at this; omega))) ?_
 refine go_sp [(2, .v (.int .u32 (IntKind.u32.wrap (BitVec.ofInt 32 (IntKind.u32.wrap (BitVec.ofInt 32 (IntKind.u32.wrap (IntKind.u8.wrap (BitVec.ofInt 8 ((s.getD 0 0).toNat : Int) &&& BitVec.ofInt 8 127).toNat)) ||| BitVec.ofInt 32 (IntKind.u32.wrap ((IntKind.u32.wrap (IntKind.u8.wrap (BitVec.ofInt 8 ((s.getD 1 0).toNat : Int) &&& BitVec.ofInt 8 127).toNat)) * 128))).toNat) ||| BitVec.ofInt 32 (IntKind.u32.wrap ((IntKind.u32.wrap (IntKind.u8.wrap (BitVec.ofInt 8 ((s.getD 2 0).toNat : Int) &&& BitVec.ofInt 8 127).toNat)) * 16384))).toNat))), (3, .v (.int .i64 3))] hW ai fun bD aL => ?_
 clear ai
 refine wp_ret ?_
 refine then_ret ?_
 refine scope_ret ?_
 refine leave aL hW.cells (v := .tuple #[.int .u32 (IntKind.u32.wrap (BitVec.ofInt 32 (IntKind.u32.wrap (BitVec.ofInt 32 (IntKind.u32.wrap (IntKind.u8.wrap (BitVec.ofInt 8 ((s.getD 0 0).toNat : Int) &&& BitVec.ofInt 8 127).toNat)) ||| BitVec.ofInt 32 (IntKind.u32.wrap ((IntKind.u32.wrap (IntKind.u8.wrap (BitVec.ofInt 8 ((s.getD 1 0).toNat : Int) &&& BitVec.ofInt 8 127).toNat)) * 128))).toNat) ||| BitVec.ofInt 32 (IntKind.u32.wrap ((IntKind.u32.wrap (IntKind.u8.wrap (BitVec.ofInt 8 ((s.getD 2 0).toNat : Int) &&& BitVec.ofInt 8 127).toNat)) * 16384))).toNat), .int .i64 3]) kz ?_
 have e_ := uv_3 (oc s 0) (oc s 1) (oc s 2) (oc_lt s 0) (oc_lt s 1) (oc_lt s 2)
 refine ⟨congrArg (fun z_ : Int => Ending.returned (.tuple #[.int .u32 z_, .int .i64 3])) (Eq.trans e_ ?_), hW.step⟩
 omega
theorem rUv4 {A : Option Addr} {c : Nat} (s : Bs) {w : World} {F : Nat → Nat → Prop} (ho : Octs w F A c s) (hl : 4 ≤ s.length) (d0 d1 d2 d3 : Nat) (h0 : oc s 0 = d0 + 128) (h1 : oc s 1 = d1 + 128) (h2 : oc s 2 = d2 + 128) (h3 : oc s 3 = d3) (g0 : d0 < 128) (g1 : d1 < 128) (g2 : d2 < 128) (g3 : d3 < 128) :
  Calls Tryz.prog 238 #[.slice A s.length c] w (Gives w (.tuple #[.int .u32 ((d0 + d1 * 128 + d2 * 16384 + d3 * 2097152 : Nat) : Int), .int .i64 4])) := by
 refine enter (n := 87) Tryz.func238 rfl Tryz.ntmps238 kz fun a hE => ?_
 have hW := WOk.start w Nil
 refine go_sp [(0, .v (.slice A s.length c))] hW hE fun a1 hE2 => ?_
 clear hE
 refine wp_scope_straight ?_
 refine go_sp [(0, .v (.slice A s.length c))] hW hE2 fun a3 hE4 => ?_
 clear hE2
 refine go_sp [(0, .v (.slice A s.length c))] hW hE4 fun a5 hE6 => ?_
 clear hE4
 refine wp_seq ?_
 refine go_sp [(0, .v (.slice A s.length c)), (8, .v (.bool (decide (((s.length : Nat) : Int) < 1))))] hW hE6 fun a7 hE8 => ?_
 clear hE6
 refine cond_false hE8 (b := decide (((s.length : Nat) : Int) < 1)) kz (decide_eq_false (by omega)) ?_
 refine wp_skip ?_
 refine then_normal ?_
 refine go_seq_region [0, 1, 2, 3, 4, 5] kz ?_
 refine go_rn [0] [1, 2, 3, 4, 5] [(0, .v (.slice A s.length c)), (9, .v (.slice A s.length c))] hW hE8 fun a9 am => ?_
 clear hE8
 obtain ⟨aX, aY, ao, bi, aa⟩ := Slots.get ho (i := 0) (by first | omega | (simp only [List.length_append, be_length, List.length_cons, List.length_nil] at *; omega))
 refine of_op (wpOp_index am (t := 22) (A := A) (m := s.length) (q := 0) (d := 10) kz (e := 5) (size := 1) (bytes := 1) (j := 0) kz ao rfl (by first | omega | (simp only [List.length_append, be_length, List.length_cons, List.length_nil] at *; omega)) fun bo ap => ?_)
 clear am
 refine of_op (wpOp_load ap (t := 5) (b := aX) (o := aY + 0 * 1) (d := 11) kz (cs := [.int .u8 ((s.getD 0 0).toNat : Int)]) (v := .int .u8 ((s.getD 0 0).toNat : Int)) kz (AtF.move aa hW.step nilM keepF).at_ fun bp ar => ?_)
 clear ap
 refine go_rn [3, 4, 5] [] [(0, .v (.slice A s.length c)), (4, .v (.int .u32 (IntKind.u32.wrap (IntKind.u8.wrap (BitVec.ofInt 8 ((s.getD 0 0).toNat : Int) &&& BitVec.ofInt 8 127).toNat))))] hW ar fun bq au => ?_
 clear ar
 refine wpOps_nil (then_normal ?_)
 refine wp_seq ?_
 refine go_seq_region [0, 1, 2, 3, 4] kz ?_
 refine go_rn [0] [1, 2, 3, 4] [(0, .v (.slice A s.length c)), (4, .v (.int .u32 (IntKind.u32.wrap (IntKind.u8.wrap (BitVec.ofInt 8 ((s.getD 0 0).toNat : Int) &&& BitVec.ofInt 8 127).toNat)))), (14, .v (.slice A s.length c))] hW au fun bt av => ?_
 clear au
 refine of_op (wpOp_index av (t := 22) (A := A) (m := s.length) (q := 0) (d := 15) kz (e := 5) (size := 1) (bytes := 1) (j := 0) kz ao rfl (by first | omega | (simp only [List.length_append, be_length, List.length_cons, List.length_nil] at *; omega)) fun bu aw => ?_)
 clear av
 refine of_op (wpOp_load aw (t := 5) (b := aX) (o := aY + 0 * 1) (d := 16) kz (cs := [.int .u8 ((s.getD 0 0).toNat : Int)]) (v := .int .u8 ((s.getD 0 0).toNat : Int)) kz (AtF.move aa hW.step nilM keepF).at_ fun bw ax => ?_)
 clear aw
 refine go_rn [3, 4] [] [(0, .v (.slice A s.length c)), (4, .v (.int .u32 (IntKind.u32.wrap (IntKind.u8.wrap (BitVec.ofInt 8 ((s.getD 0 0).toNat : Int) &&& BitVec.ofInt 8 127).toNat)))), (18, .v (.bool ((IntKind.u8.wrap (BitVec.ofInt 8 ((s.getD 0 0).toNat : Int) &&& BitVec.ofInt 8 128).toNat) == 0)))] hW ax fun bx af => ?_
 clear ax
 refine wpOps_nil (then_normal ?_)
 refine cond_false af (b := (IntKind.u8.wrap (BitVec.ofInt 8 ((s.getD 0 0).toNat : Int) &&& BitVec.ofInt 8 128).toNat) == 0) kz ((and128 _ (oc_lt s 0)).trans (decide_eq_false (by have := h0; unfold oc at this; omega))) ?_
 refine go_sp [(0, .v (.slice A s.length c)), (4, .v (.int .u32 (IntKind.u32.wrap (IntKind.u8.wrap (BitVec.ofInt 8 ((s.getD 0 0).toNat : Int) &&& BitVec.ofInt 8 127).toNat)))), (22, .v (.bool (decide (((s.length : Nat) : Int) < 2))))] hW af fun bz ag => ?_
 clear af
 refine cond_false ag (b := decide (((s.length : Nat) : Int) < 2)) kz (decide_eq_false (by omega)) ?_
 refine wp_skip ?_
 refine then_normal ?_
 refine go_seq_region [0, 1, 2, 3, 4, 5, 6, 7, 8] kz ?_
 refine go_rn [0, 1] [2, 3, 4, 5, 6, 7, 8] [(0, .v (.slice A s.length c)), (23, .v (.int .u32 (IntKind.u32.wrap (IntKind.u8.wrap (BitVec.ofInt 8 ((s.getD 0 0).toNat : Int) &&& BitVec.ofInt 8 127).toNat)))), (24, .v (.slice A s.length c))] hW ag fun bA ay => ?_
 clear ag
 obtain ⟨aZ, ba, az, bj, ab⟩ := Slots.get ho (i := 1) (by first | omega | (simp only [List.length_append, be_length, List.length_cons, List.length_nil] at *; omega))
 refine of_op (wpOp_index ay (t := 22) (A := A) (m := s.length) (q := 1) (d := 25) kz (e := 5) (size := 1) (bytes := 1) (j := 1) kz az rfl (by first | omega | (simp only [List.length_append, be_length, List.length_cons, List.length_nil] at *; omega)) fun bB aA => ?_)
 clear ay
 refine of_op (wpOp_load aA (t := 5) (b := aZ) (o := ba + 1 * 1) (d := 26) kz (cs := [.int .u8 ((s.getD 1 0).toNat : Int)]) (v := .int .u8 ((s.getD 1 0).toNat : Int)) kz (AtF.move ab hW.step nilM keepF).at_ fun bC aB => ?_)
 clear aA
 refine go_rn [4, 5, 6, 7, 8] [] [(0, .v (.slice A s.length c)), (4, .v (.int .u32 (IntKind.u32.wrap (BitVec.ofInt 32 (IntKind.u32.wrap (IntKind.u8.wrap (BitVec.ofInt 8 ((s.getD 0 0).toNat : Int) &&& BitVec.ofInt 8 127).toNat)) ||| BitVec.ofInt 32 (IntKind.u32.wrap ((IntKind.u32.wrap (IntKind.u8.wrap (BitVec.ofInt 8 ((s.getD 1 0).toNat : Int) &&& BitVec.ofInt 8 127).toNat)) * 128))).toNat)))] hW aB fun bD aC => ?_
 clear aB
 refine wpOps_nil (then_normal ?_)
 refine wp_seq ?_
 refine go_seq_region [0, 1, 2, 3, 4] kz ?_
 refine go_rn [0] [1, 2, 3, 4] [(0, .v (.slice A s.length c)), (4, .v (.int .u32 (IntKind.u32.wrap (BitVec.ofInt 32 (IntKind.u32.wrap (IntKind.u8.wrap (BitVec.ofInt 8 ((s.getD 0 0).toNat : Int) &&& BitVec.ofInt 8 127).toNat)) ||| BitVec.ofInt 32 (IntKind.u32.wrap ((IntKind.u32.wrap (IntKind.u8.wrap (BitVec.ofInt 8 ((s.getD 1 0).toNat : Int) &&& BitVec.ofInt 8 127).toNat)) * 128))).toNat))), (31, .v (.slice A s.length c))] hW aC fun bE aD => ?_
 clear aC
 refine of_op (wpOp_index aD (t := 22) (A := A) (m := s.length) (q := 1) (d := 32) kz (e := 5) (size := 1) (bytes := 1) (j := 1) kz az rfl (by first | omega | (simp only [List.length_append, be_length, List.length_cons, List.length_nil] at *; omega)) fun bF aE => ?_)
 clear aD
 refine of_op (wpOp_load aE (t := 5) (b := aZ) (o := ba + 1 * 1) (d := 33) kz (cs := [.int .u8 ((s.getD 1 0).toNat : Int)]) (v := .int .u8 ((s.getD 1 0).toNat : Int)) kz (AtF.move ab hW.step nilM keepF).at_ fun bG aF => ?_)
 clear aE
 refine go_rn [3, 4] [] [(0, .v (.slice A s.length c)), (4, .v (.int .u32 (IntKind.u32.wrap (BitVec.ofInt 32 (IntKind.u32.wrap (IntKind.u8.wrap (BitVec.ofInt 8 ((s.getD 0 0).toNat : Int) &&& BitVec.ofInt 8 127).toNat)) ||| BitVec.ofInt 32 (IntKind.u32.wrap ((IntKind.u32.wrap (IntKind.u8.wrap (BitVec.ofInt 8 ((s.getD 1 0).toNat : Int) &&& BitVec.ofInt 8 127).toNat)) * 128))).toNat))), (35, .v (.bool ((IntKind.u8.wrap (BitVec.ofInt 8 ((s.getD 1 0).toNat : Int) &&& BitVec.ofInt 8 128).toNat) == 0)))] hW aF fun bH ah => ?_
 clear aF
 refine wpOps_nil (then_normal ?_)
 refine cond_false ah (b := (IntKind.u8.wrap (BitVec.ofInt 8 ((s.getD 1 0).toNat : Int) &&& BitVec.ofInt 8 128).toNat) == 0) kz ((and128 _ (oc_lt s 1)).trans (decide_eq_false (by have := h1; unfold oc at this; omega))) ?_
 refine go_sp [(0, .v (.slice A s.length c)), (4, .v (.int .u32 (IntKind.u32.wrap (BitVec.ofInt 32 (IntKind.u32.wrap (IntKind.u8.wrap (BitVec.ofInt 8 ((s.getD 0 0).toNat : Int) &&& BitVec.ofInt 8 127).toNat)) ||| BitVec.ofInt 32 (IntKind.u32.wrap ((IntKind.u32.wrap (IntKind.u8.wrap (BitVec.ofInt 8 ((s.getD 1 0).toNat : Int) &&& BitVec.ofInt 8 127).toNat)) * 128))).toNat))), (39, .v (.bool (decide (((s.length : Nat) : Int) < 3))))] hW ah fun bI ai => ?_
 clear ah
 refine cond_false ai (b := decide (((s.length : Nat) : Int) < 3)) kz (decide_eq_false (by omega)) ?_
 refine wp_skip ?_
 refine then_normal ?_
 refine go_seq_region [0, 1, 2, 3, 4, 5, 6, 7, 8] kz ?_
 refine go_rn [0, 1] [2, 3, 4, 5, 6, 7, 8] [(0, .v (.slice A s.length c)), (40, .v (.int .u32 (IntKind.u32.wrap (BitVec.ofInt 32 (IntKind.u32.wrap (IntKind.u8.wrap (BitVec.ofInt 8 ((s.getD 0 0).toNat : Int) &&& BitVec.ofInt 8 127).toNat)) ||| BitVec.ofInt 32 (IntKind.u32.wrap ((IntKind.u32.wrap (IntKind.u8.wrap (BitVec.ofInt 8 ((s.getD 1 0).toNat : Int) &&& BitVec.ofInt 8 127).toNat)) * 128))).toNat))), (41, .v (.slice A s.length c))] hW ai fun bJ aG => ?_
 clear ai
 obtain ⟨bd, bf, aH, bk, ac⟩ := Slots.get ho (i := 2) (by first | omega | (simp only [List.length_append, be_length, List.length_cons, List.length_nil] at *; omega))
 refine of_op (wpOp_index aG (t := 22) (A := A) (m := s.length) (q := 2) (d := 42) kz (e := 5) (size := 1) (bytes := 1) (j := 2) kz aH rfl (by first | omega | (simp only [List.length_append, be_length, List.length_cons, List.length_nil] at *; omega)) fun bK aI => ?_)
 clear aG
 refine of_op (wpOp_load aI (t := 5) (b := bd) (o := bf + 2 * 1) (d := 43) kz (cs := [.int .u8 ((s.getD 2 0).toNat : Int)]) (v := .int .u8 ((s.getD 2 0).toNat : Int)) kz (AtF.move ac hW.step nilM keepF).at_ fun bL aJ => ?_)
 clear aI
 refine go_rn [4, 5, 6, 7, 8] [] [(0, .v (.slice A s.length c)), (4, .v (.int .u32 (IntKind.u32.wrap (BitVec.ofInt 32 (IntKind.u32.wrap (BitVec.ofInt 32 (IntKind.u32.wrap (IntKind.u8.wrap (BitVec.ofInt 8 ((s.getD 0 0).toNat : Int) &&& BitVec.ofInt 8 127).toNat)) ||| BitVec.ofInt 32 (IntKind.u32.wrap ((IntKind.u32.wrap (IntKind.u8.wrap (BitVec.ofInt 8 ((s.getD 1 0).toNat : Int) &&& BitVec.ofInt 8 127).toNat)) * 128))).toNat) ||| BitVec.ofInt 32 (IntKind.u32.wrap ((IntKind.u32.wrap (IntKind.u8.wrap (BitVec.ofInt 8 ((s.getD 2 0).toNat : Int) &&& BitVec.ofInt 8 127).toNat)) * 16384))).toNat)))] hW aJ fun bM aK => ?_
 clear aJ
 refine wpOps_nil (then_normal ?_)
 refine wp_seq ?_
 refine go_seq_region [0, 1, 2, 3, 4] kz ?_
 refine go_rn [0] [1, 2, 3, 4] [(0, .v (.slice A s.length c)), (4, .v (.int .u32 (IntKind.u32.wrap (BitVec.ofInt 32 (IntKind.u32.wrap (BitVec.ofInt 32 (IntKind.u32.wrap (IntKind.u8.wrap (BitVec.ofInt 8 ((s.getD 0 0).toNat : Int) &&& BitVec.ofInt 8 127).toNat)) ||| BitVec.ofInt 32 (IntKind.u32.wrap ((IntKind.u32.wrap (IntKind.u8.wrap (BitVec.ofInt 8 ((s.getD 1 0).toNat : Int) &&& BitVec.ofInt 8 127).toNat)) * 128))).toNat) ||| BitVec.ofInt 32 (IntKind.u32.wrap ((IntKind.u32.wrap (IntKind.u8.wrap (BitVec.ofInt 8 ((s.getD 2 0).toNat : Int) &&& BitVec.ofInt 8 127).toNat)) * 16384))).toNat))), (48, .v (.slice A s.length c))] hW aK fun bN aL => ?_
 clear aK
 refine of_op (wpOp_index aL (t := 22) (A := A) (m := s.length) (q := 2) (d := 49) kz (e := 5) (size := 1) (bytes := 1) (j := 2) kz aH rfl (by first | omega | (simp only [List.length_append, be_length, List.length_cons, List.length_nil] at *; omega)) fun bO aM => ?_)
 clear aL
 refine of_op (wpOp_load aM (t := 5) (b := bd) (o := bf + 2 * 1) (d := 50) kz (cs := [.int .u8 ((s.getD 2 0).toNat : Int)]) (v := .int .u8 ((s.getD 2 0).toNat : Int)) kz (AtF.move ac hW.step nilM keepF).at_ fun bP aN => ?_)
 clear aM
 refine go_rn [3, 4] [] [(0, .v (.slice A s.length c)), (4, .v (.int .u32 (IntKind.u32.wrap (BitVec.ofInt 32 (IntKind.u32.wrap (BitVec.ofInt 32 (IntKind.u32.wrap (IntKind.u8.wrap (BitVec.ofInt 8 ((s.getD 0 0).toNat : Int) &&& BitVec.ofInt 8 127).toNat)) ||| BitVec.ofInt 32 (IntKind.u32.wrap ((IntKind.u32.wrap (IntKind.u8.wrap (BitVec.ofInt 8 ((s.getD 1 0).toNat : Int) &&& BitVec.ofInt 8 127).toNat)) * 128))).toNat) ||| BitVec.ofInt 32 (IntKind.u32.wrap ((IntKind.u32.wrap (IntKind.u8.wrap (BitVec.ofInt 8 ((s.getD 2 0).toNat : Int) &&& BitVec.ofInt 8 127).toNat)) * 16384))).toNat))), (52, .v (.bool ((IntKind.u8.wrap (BitVec.ofInt 8 ((s.getD 2 0).toNat : Int) &&& BitVec.ofInt 8 128).toNat) == 0)))] hW aN fun bQ aj => ?_
 clear aN
 refine wpOps_nil (then_normal ?_)
 refine cond_false aj (b := (IntKind.u8.wrap (BitVec.ofInt 8 ((s.getD 2 0).toNat : Int) &&& BitVec.ofInt 8 128).toNat) == 0) kz ((and128 _ (oc_lt s 2)).trans (decide_eq_false (by have := h2; unfold oc at this; omega))) ?_
 refine go_sp [(0, .v (.slice A s.length c)), (4, .v (.int .u32 (IntKind.u32.wrap (BitVec.ofInt 32 (IntKind.u32.wrap (BitVec.ofInt 32 (IntKind.u32.wrap (IntKind.u8.wrap (BitVec.ofInt 8 ((s.getD 0 0).toNat : Int) &&& BitVec.ofInt 8 127).toNat)) ||| BitVec.ofInt 32 (IntKind.u32.wrap ((IntKind.u32.wrap (IntKind.u8.wrap (BitVec.ofInt 8 ((s.getD 1 0).toNat : Int) &&& BitVec.ofInt 8 127).toNat)) * 128))).toNat) ||| BitVec.ofInt 32 (IntKind.u32.wrap ((IntKind.u32.wrap (IntKind.u8.wrap (BitVec.ofInt 8 ((s.getD 2 0).toNat : Int) &&& BitVec.ofInt 8 127).toNat)) * 16384))).toNat))), (56, .v (.bool (decide (((s.length : Nat) : Int) < 4))))] hW aj fun bR ak => ?_
 clear aj
 refine cond_false ak (b := decide (((s.length : Nat) : Int) < 4)) kz (decide_eq_false (by omega)) ?_
 refine wp_skip ?_
 refine then_normal ?_
 refine go_seq_region [0, 1, 2, 3, 4, 5, 6, 7, 8] kz ?_
 refine go_rn [0, 1] [2, 3, 4, 5, 6, 7, 8] [(0, .v (.slice A s.length c)), (57, .v (.int .u32 (IntKind.u32.wrap (BitVec.ofInt 32 (IntKind.u32.wrap (BitVec.ofInt 32 (IntKind.u32.wrap (IntKind.u8.wrap (BitVec.ofInt 8 ((s.getD 0 0).toNat : Int) &&& BitVec.ofInt 8 127).toNat)) ||| BitVec.ofInt 32 (IntKind.u32.wrap ((IntKind.u32.wrap (IntKind.u8.wrap (BitVec.ofInt 8 ((s.getD 1 0).toNat : Int) &&& BitVec.ofInt 8 127).toNat)) * 128))).toNat) ||| BitVec.ofInt 32 (IntKind.u32.wrap ((IntKind.u32.wrap (IntKind.u8.wrap (BitVec.ofInt 8 ((s.getD 2 0).toNat : Int) &&& BitVec.ofInt 8 127).toNat)) * 16384))).toNat))), (58, .v (.slice A s.length c))] hW ak fun bS aO => ?_
 clear ak
 obtain ⟨bg, bh, aP, bn, ae⟩ := Slots.get ho (i := 3) (by first | omega | (simp only [List.length_append, be_length, List.length_cons, List.length_nil] at *; omega))
 refine of_op (wpOp_index aO (t := 22) (A := A) (m := s.length) (q := 3) (d := 59) kz (e := 5) (size := 1) (bytes := 1) (j := 3) kz aP rfl (by first | omega | (simp only [List.length_append, be_length, List.length_cons, List.length_nil] at *; omega)) fun bT aQ => ?_)
 clear aO
 refine of_op (wpOp_load aQ (t := 5) (b := bg) (o := bh + 3 * 1) (d := 60) kz (cs := [.int .u8 ((s.getD 3 0).toNat : Int)]) (v := .int .u8 ((s.getD 3 0).toNat : Int)) kz (AtF.move ae hW.step nilM keepF).at_ fun bU aR => ?_)
 clear aQ
 refine go_rn [4, 5, 6, 7, 8] [] [(0, .v (.slice A s.length c)), (4, .v (.int .u32 (IntKind.u32.wrap (BitVec.ofInt 32 (IntKind.u32.wrap (BitVec.ofInt 32 (IntKind.u32.wrap (BitVec.ofInt 32 (IntKind.u32.wrap (IntKind.u8.wrap (BitVec.ofInt 8 ((s.getD 0 0).toNat : Int) &&& BitVec.ofInt 8 127).toNat)) ||| BitVec.ofInt 32 (IntKind.u32.wrap ((IntKind.u32.wrap (IntKind.u8.wrap (BitVec.ofInt 8 ((s.getD 1 0).toNat : Int) &&& BitVec.ofInt 8 127).toNat)) * 128))).toNat) ||| BitVec.ofInt 32 (IntKind.u32.wrap ((IntKind.u32.wrap (IntKind.u8.wrap (BitVec.ofInt 8 ((s.getD 2 0).toNat : Int) &&& BitVec.ofInt 8 127).toNat)) * 16384))).toNat) ||| BitVec.ofInt 32 (IntKind.u32.wrap ((IntKind.u32.wrap (IntKind.u8.wrap (BitVec.ofInt 8 ((s.getD 3 0).toNat : Int) &&& BitVec.ofInt 8 127).toNat)) * 2097152))).toNat)))] hW aR fun bV aS => ?_
 clear aR
 refine wpOps_nil (then_normal ?_)
 refine wp_seq ?_
 refine go_seq_region [0, 1, 2, 3, 4] kz ?_
 refine go_rn [0] [1, 2, 3, 4] [(0, .v (.slice A s.length c)), (4, .v (.int .u32 (IntKind.u32.wrap (BitVec.ofInt 32 (IntKind.u32.wrap (BitVec.ofInt 32 (IntKind.u32.wrap (BitVec.ofInt 32 (IntKind.u32.wrap (IntKind.u8.wrap (BitVec.ofInt 8 ((s.getD 0 0).toNat : Int) &&& BitVec.ofInt 8 127).toNat)) ||| BitVec.ofInt 32 (IntKind.u32.wrap ((IntKind.u32.wrap (IntKind.u8.wrap (BitVec.ofInt 8 ((s.getD 1 0).toNat : Int) &&& BitVec.ofInt 8 127).toNat)) * 128))).toNat) ||| BitVec.ofInt 32 (IntKind.u32.wrap ((IntKind.u32.wrap (IntKind.u8.wrap (BitVec.ofInt 8 ((s.getD 2 0).toNat : Int) &&& BitVec.ofInt 8 127).toNat)) * 16384))).toNat) ||| BitVec.ofInt 32 (IntKind.u32.wrap ((IntKind.u32.wrap (IntKind.u8.wrap (BitVec.ofInt 8 ((s.getD 3 0).toNat : Int) &&& BitVec.ofInt 8 127).toNat)) * 2097152))).toNat))), (65, .v (.slice A s.length c))] hW aS fun bW aT => ?_
 clear aS
 refine of_op (wpOp_index aT (t := 22) (A := A) (m := s.length) (q := 3) (d := 66) kz (e := 5) (size := 1) (bytes := 1) (j := 3) kz aP rfl (by first | omega | (simp only [List.length_append, be_length, List.length_cons, List.length_nil] at *; omega)) fun bX aU => ?_)
 clear aT
 refine of_op (wpOp_load aU (t := 5) (b := bg) (o := bh + 3 * 1) (d := 67) kz (cs := [.int .u8 ((s.getD 3 0).toNat : Int)]) (v := .int .u8 ((s.getD 3 0).toNat : Int)) kz (AtF.move ae hW.step nilM keepF).at_ fun bY aV => ?_)
 clear aU
 refine go_rn [3, 4] [] [(0, .v (.slice A s.length c)), (4, .v (.int .u32 (IntKind.u32.wrap (BitVec.ofInt 32 (IntKind.u32.wrap (BitVec.ofInt 32 (IntKind.u32.wrap (BitVec.ofInt 32 (IntKind.u32.wrap (IntKind.u8.wrap (BitVec.ofInt 8 ((s.getD 0 0).toNat : Int) &&& BitVec.ofInt 8 127).toNat)) ||| BitVec.ofInt 32 (IntKind.u32.wrap ((IntKind.u32.wrap (IntKind.u8.wrap (BitVec.ofInt 8 ((s.getD 1 0).toNat : Int) &&& BitVec.ofInt 8 127).toNat)) * 128))).toNat) ||| BitVec.ofInt 32 (IntKind.u32.wrap ((IntKind.u32.wrap (IntKind.u8.wrap (BitVec.ofInt 8 ((s.getD 2 0).toNat : Int) &&& BitVec.ofInt 8 127).toNat)) * 16384))).toNat) ||| BitVec.ofInt 32 (IntKind.u32.wrap ((IntKind.u32.wrap (IntKind.u8.wrap (BitVec.ofInt 8 ((s.getD 3 0).toNat : Int) &&& BitVec.ofInt 8 127).toNat)) * 2097152))).toNat))), (69, .v (.bool ((IntKind.u8.wrap (BitVec.ofInt 8 ((s.getD 3 0).toNat : Int) &&& BitVec.ofInt 8 128).toNat) == 0)))] hW aV fun bZ al => ?_
 clear aV
 refine wpOps_nil (then_normal ?_)
 refine cond_true al (b := (IntKind.u8.wrap (BitVec.ofInt 8 ((s.getD 3 0).toNat : Int) &&& BitVec.ofInt 8 128).toNat) == 0) kz ((and128 _ (oc_lt s 3)).trans (decide_eq_true (by have := h3; unfold oc at this; omega))) ?_
 refine go_sp [(2, .v (.int .u32 (IntKind.u32.wrap (BitVec.ofInt 32 (IntKind.u32.wrap (BitVec.ofInt 32 (IntKind.u32.wrap (BitVec.ofInt 32 (IntKind.u32.wrap (IntKind.u8.wrap (BitVec.ofInt 8 ((s.getD 0 0).toNat : Int) &&& BitVec.ofInt 8 127).toNat)) ||| BitVec.ofInt 32 (IntKind.u32.wrap ((IntKind.u32.wrap (IntKind.u8.wrap (BitVec.ofInt 8 ((s.getD 1 0).toNat : Int) &&& BitVec.ofInt 8 127).toNat)) * 128))).toNat) ||| BitVec.ofInt 32 (IntKind.u32.wrap ((IntKind.u32.wrap (IntKind.u8.wrap (BitVec.ofInt 8 ((s.getD 2 0).toNat : Int) &&& BitVec.ofInt 8 127).toNat)) * 16384))).toNat) ||| BitVec.ofInt 32 (IntKind.u32.wrap ((IntKind.u32.wrap (IntKind.u8.wrap (BitVec.ofInt 8 ((s.getD 3 0).toNat : Int) &&& BitVec.ofInt 8 127).toNat)) * 2097152))).toNat))), (3, .v (.int .i64 4))] hW al fun b8 aW => ?_
 clear al
 refine wp_ret ?_
 refine then_ret ?_
 refine scope_ret ?_
 refine leave aW hW.cells (v := .tuple #[.int .u32 (IntKind.u32.wrap (BitVec.ofInt 32 (IntKind.u32.wrap (BitVec.ofInt 32 (IntKind.u32.wrap (BitVec.ofInt 32 (IntKind.u32.wrap (IntKind.u8.wrap (BitVec.ofInt 8 ((s.getD 0 0).toNat : Int) &&& BitVec.ofInt 8 127).toNat)) ||| BitVec.ofInt 32 (IntKind.u32.wrap ((IntKind.u32.wrap (IntKind.u8.wrap (BitVec.ofInt 8 ((s.getD 1 0).toNat : Int) &&& BitVec.ofInt 8 127).toNat)) * 128))).toNat) ||| BitVec.ofInt 32 (IntKind.u32.wrap ((IntKind.u32.wrap (IntKind.u8.wrap (BitVec.ofInt 8 ((s.getD 2 0).toNat : Int) &&& BitVec.ofInt 8 127).toNat)) * 16384))).toNat) ||| BitVec.ofInt 32 (IntKind.u32.wrap ((IntKind.u32.wrap (IntKind.u8.wrap (BitVec.ofInt 8 ((s.getD 3 0).toNat : Int) &&& BitVec.ofInt 8 127).toNat)) * 2097152))).toNat), .int .i64 4]) kz ?_
 have e_ := uv_4 (oc s 0) (oc s 1) (oc s 2) (oc s 3) (oc_lt s 0) (oc_lt s 1) (oc_lt s 2) (oc_lt s 3)
 refine ⟨congrArg (fun z_ : Int => Ending.returned (.tuple #[.int .u32 z_, .int .i64 4])) (Eq.trans e_ ?_), hW.step⟩
 omega
theorem rUv5 {A : Option Addr} {c : Nat} (s : Bs) {w : World} {F : Nat → Nat → Prop} (ho : Octs w F A c s) (hl : 5 ≤ s.length) (d0 d1 d2 d3 d4 : Nat) (h0 : oc s 0 = d0 + 128) (h1 : oc s 1 = d1 + 128) (h2 : oc s 2 = d2 + 128) (h3 : oc s 3 = d3 + 128) (h4 : oc s 4 = d4) (g0 : d0 < 128) (g1 : d1 < 128) (g2 : d2 < 128) (g3 : d3 < 128) (g4 : d4 < 16) :
  Calls Tryz.prog 238 #[.slice A s.length c] w (Gives w (.tuple #[.int .u32 ((d0 + d1 * 128 + d2 * 16384 + d3 * 2097152 + d4 * 268435456 : Nat) : Int), .int .i64 5])) := by
 refine enter (n := 87) Tryz.func238 rfl Tryz.ntmps238 kz fun a hE => ?_
 have hW := WOk.start w Nil
 refine go_sp [(0, .v (.slice A s.length c))] hW hE fun a1 hE2 => ?_
 clear hE
 refine wp_scope_straight ?_
 refine go_sp [(0, .v (.slice A s.length c))] hW hE2 fun a3 hE4 => ?_
 clear hE2
 refine go_sp [(0, .v (.slice A s.length c))] hW hE4 fun a5 hE6 => ?_
 clear hE4
 refine wp_seq ?_
 refine go_sp [(0, .v (.slice A s.length c)), (8, .v (.bool (decide (((s.length : Nat) : Int) < 1))))] hW hE6 fun a7 hE8 => ?_
 clear hE6
 refine cond_false hE8 (b := decide (((s.length : Nat) : Int) < 1)) kz (decide_eq_false (by omega)) ?_
 refine wp_skip ?_
 refine then_normal ?_
 refine go_seq_region [0, 1, 2, 3, 4, 5] kz ?_
 refine go_rn [0] [1, 2, 3, 4, 5] [(0, .v (.slice A s.length c)), (9, .v (.slice A s.length c))] hW hE8 fun a9 aB => ?_
 clear hE8
 obtain ⟨bp, bq, aC, bC, ae⟩ := Slots.get ho (i := 0) (by first | omega | (simp only [List.length_append, be_length, List.length_cons, List.length_nil] at *; omega))
 refine of_op (wpOp_index aB (t := 22) (A := A) (m := s.length) (q := 0) (d := 10) kz (e := 5) (size := 1) (bytes := 1) (j := 0) kz aC rfl (by first | omega | (simp only [List.length_append, be_length, List.length_cons, List.length_nil] at *; omega)) fun bP aD => ?_)
 clear aB
 refine of_op (wpOp_load aD (t := 5) (b := bp) (o := bq + 0 * 1) (d := 11) kz (cs := [.int .u8 ((s.getD 0 0).toNat : Int)]) (v := .int .u8 ((s.getD 0 0).toNat : Int)) kz (AtF.move ae hW.step nilM keepF).at_ fun bQ aE => ?_)
 clear aD
 refine go_rn [3, 4, 5] [] [(0, .v (.slice A s.length c)), (4, .v (.int .u32 (IntKind.u32.wrap (IntKind.u8.wrap (BitVec.ofInt 8 ((s.getD 0 0).toNat : Int) &&& BitVec.ofInt 8 127).toNat))))] hW aE fun bR aF => ?_
 clear aE
 refine wpOps_nil (then_normal ?_)
 refine wp_seq ?_
 refine go_seq_region [0, 1, 2, 3, 4] kz ?_
 refine go_rn [0] [1, 2, 3, 4] [(0, .v (.slice A s.length c)), (4, .v (.int .u32 (IntKind.u32.wrap (IntKind.u8.wrap (BitVec.ofInt 8 ((s.getD 0 0).toNat : Int) &&& BitVec.ofInt 8 127).toNat)))), (14, .v (.slice A s.length c))] hW aF fun bS aG => ?_
 clear aF
 refine of_op (wpOp_index aG (t := 22) (A := A) (m := s.length) (q := 0) (d := 15) kz (e := 5) (size := 1) (bytes := 1) (j := 0) kz aC rfl (by first | omega | (simp only [List.length_append, be_length, List.length_cons, List.length_nil] at *; omega)) fun bT aH => ?_)
 clear aG
 refine of_op (wpOp_load aH (t := 5) (b := bp) (o := bq + 0 * 1) (d := 16) kz (cs := [.int .u8 ((s.getD 0 0).toNat : Int)]) (v := .int .u8 ((s.getD 0 0).toNat : Int)) kz (AtF.move ae hW.step nilM keepF).at_ fun bU aI => ?_)
 clear aH
 refine go_rn [3, 4] [] [(0, .v (.slice A s.length c)), (4, .v (.int .u32 (IntKind.u32.wrap (IntKind.u8.wrap (BitVec.ofInt 8 ((s.getD 0 0).toNat : Int) &&& BitVec.ofInt 8 127).toNat)))), (18, .v (.bool ((IntKind.u8.wrap (BitVec.ofInt 8 ((s.getD 0 0).toNat : Int) &&& BitVec.ofInt 8 128).toNat) == 0)))] hW aI fun bV au => ?_
 clear aI
 refine wpOps_nil (then_normal ?_)
 refine cond_false au (b := (IntKind.u8.wrap (BitVec.ofInt 8 ((s.getD 0 0).toNat : Int) &&& BitVec.ofInt 8 128).toNat) == 0) kz ((and128 _ (oc_lt s 0)).trans (decide_eq_false (by have := h0; unfold oc at this; omega))) ?_
 refine go_sp [(0, .v (.slice A s.length c)), (4, .v (.int .u32 (IntKind.u32.wrap (IntKind.u8.wrap (BitVec.ofInt 8 ((s.getD 0 0).toNat : Int) &&& BitVec.ofInt 8 127).toNat)))), (22, .v (.bool (decide (((s.length : Nat) : Int) < 2))))] hW au fun bW av => ?_
 clear au
 refine cond_false av (b := decide (((s.length : Nat) : Int) < 2)) kz (decide_eq_false (by omega)) ?_
 refine wp_skip ?_
 refine then_normal ?_
 refine go_seq_region [0, 1, 2, 3, 4, 5, 6, 7, 8] kz ?_
 refine go_rn [0, 1] [2, 3, 4, 5, 6, 7, 8] [(0, .v (.slice A s.length c)), (23, .v (.int .u32 (IntKind.u32.wrap (IntKind.u8.wrap (BitVec.ofInt 8 ((s.getD 0 0).toNat : Int) &&& BitVec.ofInt 8 127).toNat)))), (24, .v (.slice A s.length c))] hW av fun bX aJ => ?_
 clear av
 obtain ⟨bt, bu, aK, bD, af⟩ := Slots.get ho (i := 1) (by first | omega | (simp only [List.length_append, be_length, List.length_cons, List.length_nil] at *; omega))
 refine of_op (wpOp_index aJ (t := 22) (A := A) (m := s.length) (q := 1) (d := 25) kz (e := 5) (size := 1) (bytes := 1) (j := 1) kz aK rfl (by first | omega | (simp only [List.length_append, be_length, List.length_cons, List.length_nil] at *; omega)) fun bY aL => ?_)
 clear aJ
 refine of_op (wpOp_load aL (t := 5) (b := bt) (o := bu + 1 * 1) (d := 26) kz (cs := [.int .u8 ((s.getD 1 0).toNat : Int)]) (v := .int .u8 ((s.getD 1 0).toNat : Int)) kz (AtF.move af hW.step nilM keepF).at_ fun bZ aM => ?_)
 clear aL
 refine go_rn [4, 5, 6, 7, 8] [] [(0, .v (.slice A s.length c)), (4, .v (.int .u32 (IntKind.u32.wrap (BitVec.ofInt 32 (IntKind.u32.wrap (IntKind.u8.wrap (BitVec.ofInt 8 ((s.getD 0 0).toNat : Int) &&& BitVec.ofInt 8 127).toNat)) ||| BitVec.ofInt 32 (IntKind.u32.wrap ((IntKind.u32.wrap (IntKind.u8.wrap (BitVec.ofInt 8 ((s.getD 1 0).toNat : Int) &&& BitVec.ofInt 8 127).toNat)) * 128))).toNat)))] hW aM fun b8 aN => ?_
 clear aM
 refine wpOps_nil (then_normal ?_)
 refine wp_seq ?_
 refine go_seq_region [0, 1, 2, 3, 4] kz ?_
 refine go_rn [0] [1, 2, 3, 4] [(0, .v (.slice A s.length c)), (4, .v (.int .u32 (IntKind.u32.wrap (BitVec.ofInt 32 (IntKind.u32.wrap (IntKind.u8.wrap (BitVec.ofInt 8 ((s.getD 0 0).toNat : Int) &&& BitVec.ofInt 8 127).toNat)) ||| BitVec.ofInt 32 (IntKind.u32.wrap ((IntKind.u32.wrap (IntKind.u8.wrap (BitVec.ofInt 8 ((s.getD 1 0).toNat : Int) &&& BitVec.ofInt 8 127).toNat)) * 128))).toNat))), (31, .v (.slice A s.length c))] hW aN fun cd aO => ?_
 clear aN
 refine of_op (wpOp_index aO (t := 22) (A := A) (m := s.length) (q := 1) (d := 32) kz (e := 5) (size := 1) (bytes := 1) (j := 1) kz aK rfl (by first | omega | (simp only [List.length_append, be_length, List.length_cons, List.length_nil] at *; omega)) fun ce aP => ?_)
 clear aO
 refine of_op (wpOp_load aP (t := 5) (b := bt) (o := bu + 1 * 1) (d := 33) kz (cs := [.int .u8 ((s.getD 1 0).toNat : Int)]) (v := .int .u8 ((s.getD 1 0).toNat : Int)) kz (AtF.move af hW.step nilM keepF).at_ fun cm aQ => ?_)
 clear aP
 refine go_rn [3, 4] [] [(0, .v (.slice A s.length c)), (4, .v (.int .u32 (IntKind.u32.wrap (BitVec.ofInt 32 (IntKind.u32.wrap (IntKind.u8.wrap (BitVec.ofInt 8 ((s.getD 0 0).toNat : Int) &&& BitVec.ofInt 8 127).toNat)) ||| BitVec.ofInt 32 (IntKind.u32.wrap ((IntKind.u32.wrap (IntKind.u8.wrap (BitVec.ofInt 8 ((s.getD 1 0).toNat : Int) &&& BitVec.ofInt 8 127).toNat)) * 128))).toNat))), (35, .v (.bool ((IntKind.u8.wrap (BitVec.ofInt 8 ((s.getD 1 0).toNat : Int) &&& BitVec.ofInt 8 128).toNat) == 0)))] hW aQ fun cq aw => ?_
 clear aQ
 refine wpOps_nil (then_normal ?_)
 refine cond_false aw (b := (IntKind.u8.wrap (BitVec.ofInt 8 ((s.getD 1 0).toNat : Int) &&& BitVec.ofInt 8 128).toNat) == 0) kz ((and128 _ (oc_lt s 1)).trans (decide_eq_false (by have := h1; unfold oc at this; omega))) ?_
 refine go_sp [(0, .v (.slice A s.length c)), (4, .v (.int .u32 (IntKind.u32.wrap (BitVec.ofInt 32 (IntKind.u32.wrap (IntKind.u8.wrap (BitVec.ofInt 8 ((s.getD 0 0).toNat : Int) &&& BitVec.ofInt 8 127).toNat)) ||| BitVec.ofInt 32 (IntKind.u32.wrap ((IntKind.u32.wrap (IntKind.u8.wrap (BitVec.ofInt 8 ((s.getD 1 0).toNat : Int) &&& BitVec.ofInt 8 127).toNat)) * 128))).toNat))), (39, .v (.bool (decide (((s.length : Nat) : Int) < 3))))] hW aw fun cr ax => ?_
 clear aw
 refine cond_false ax (b := decide (((s.length : Nat) : Int) < 3)) kz (decide_eq_false (by omega)) ?_
 refine wp_skip ?_
 refine then_normal ?_
 refine go_seq_region [0, 1, 2, 3, 4, 5, 6, 7, 8] kz ?_
 refine go_rn [0, 1] [2, 3, 4, 5, 6, 7, 8] [(0, .v (.slice A s.length c)), (40, .v (.int .u32 (IntKind.u32.wrap (BitVec.ofInt 32 (IntKind.u32.wrap (IntKind.u8.wrap (BitVec.ofInt 8 ((s.getD 0 0).toNat : Int) &&& BitVec.ofInt 8 127).toNat)) ||| BitVec.ofInt 32 (IntKind.u32.wrap ((IntKind.u32.wrap (IntKind.u8.wrap (BitVec.ofInt 8 ((s.getD 1 0).toNat : Int) &&& BitVec.ofInt 8 127).toNat)) * 128))).toNat))), (41, .v (.slice A s.length c))] hW ax fun cu aR => ?_
 clear ax
 obtain ⟨bw, bx, aS, bE, ag⟩ := Slots.get ho (i := 2) (by first | omega | (simp only [List.length_append, be_length, List.length_cons, List.length_nil] at *; omega))
 refine of_op (wpOp_index aR (t := 22) (A := A) (m := s.length) (q := 2) (d := 42) kz (e := 5) (size := 1) (bytes := 1) (j := 2) kz aS rfl (by first | omega | (simp only [List.length_append, be_length, List.length_cons, List.length_nil] at *; omega)) fun cw aT => ?_)
 clear aR
 refine of_op (wpOp_load aT (t := 5) (b := bw) (o := bx + 2 * 1) (d := 43) kz (cs := [.int .u8 ((s.getD 2 0).toNat : Int)]) (v := .int .u8 ((s.getD 2 0).toNat : Int)) kz (AtF.move ag hW.step nilM keepF).at_ fun cz aU => ?_)
 clear aT
 refine go_rn [4, 5, 6, 7, 8] [] [(0, .v (.slice A s.length c)), (4, .v (.int .u32 (IntKind.u32.wrap (BitVec.ofInt 32 (IntKind.u32.wrap (BitVec.ofInt 32 (IntKind.u32.wrap (IntKind.u8.wrap (BitVec.ofInt 8 ((s.getD 0 0).toNat : Int) &&& BitVec.ofInt 8 127).toNat)) ||| BitVec.ofInt 32 (IntKind.u32.wrap ((IntKind.u32.wrap (IntKind.u8.wrap (BitVec.ofInt 8 ((s.getD 1 0).toNat : Int) &&& BitVec.ofInt 8 127).toNat)) * 128))).toNat) ||| BitVec.ofInt 32 (IntKind.u32.wrap ((IntKind.u32.wrap (IntKind.u8.wrap (BitVec.ofInt 8 ((s.getD 2 0).toNat : Int) &&& BitVec.ofInt 8 127).toNat)) * 16384))).toNat)))] hW aU fun cA aV => ?_
 clear aU
 refine wpOps_nil (then_normal ?_)
 refine wp_seq ?_
 refine go_seq_region [0, 1, 2, 3, 4] kz ?_
 refine go_rn [0] [1, 2, 3, 4] [(0, .v (.slice A s.length c)), (4, .v (.int .u32 (IntKind.u32.wrap (BitVec.ofInt 32 (IntKind.u32.wrap (BitVec.ofInt 32 (IntKind.u32.wrap (IntKind.u8.wrap (BitVec.ofInt 8 ((s.getD 0 0).toNat : Int) &&& BitVec.ofInt 8 127).toNat)) ||| BitVec.ofInt 32 (IntKind.u32.wrap ((IntKind.u32.wrap (IntKind.u8.wrap (BitVec.ofInt 8 ((s.getD 1 0).toNat : Int) &&& BitVec.ofInt 8 127).toNat)) * 128))).toNat) ||| BitVec.ofInt 32 (IntKind.u32.wrap ((IntKind.u32.wrap (IntKind.u8.wrap (BitVec.ofInt 8 ((s.getD 2 0).toNat : Int) &&& BitVec.ofInt 8 127).toNat)) * 16384))).toNat))), (48, .v (.slice A s.length c))] hW aV fun cB aW => ?_
 clear aV
 refine of_op (wpOp_index aW (t := 22) (A := A) (m := s.length) (q := 2) (d := 49) kz (e := 5) (size := 1) (bytes := 1) (j := 2) kz aS rfl (by first | omega | (simp only [List.length_append, be_length, List.length_cons, List.length_nil] at *; omega)) fun cC aX => ?_)
 clear aW
 refine of_op (wpOp_load aX (t := 5) (b := bw) (o := bx + 2 * 1) (d := 50) kz (cs := [.int .u8 ((s.getD 2 0).toNat : Int)]) (v := .int .u8 ((s.getD 2 0).toNat : Int)) kz (AtF.move ag hW.step nilM keepF).at_ fun cD aY => ?_)
 clear aX
 refine go_rn [3, 4] [] [(0, .v (.slice A s.length c)), (4, .v (.int .u32 (IntKind.u32.wrap (BitVec.ofInt 32 (IntKind.u32.wrap (BitVec.ofInt 32 (IntKind.u32.wrap (IntKind.u8.wrap (BitVec.ofInt 8 ((s.getD 0 0).toNat : Int) &&& BitVec.ofInt 8 127).toNat)) ||| BitVec.ofInt 32 (IntKind.u32.wrap ((IntKind.u32.wrap (IntKind.u8.wrap (BitVec.ofInt 8 ((s.getD 1 0).toNat : Int) &&& BitVec.ofInt 8 127).toNat)) * 128))).toNat) ||| BitVec.ofInt 32 (IntKind.u32.wrap ((IntKind.u32.wrap (IntKind.u8.wrap (BitVec.ofInt 8 ((s.getD 2 0).toNat : Int) &&& BitVec.ofInt 8 127).toNat)) * 16384))).toNat))), (52, .v (.bool ((IntKind.u8.wrap (BitVec.ofInt 8 ((s.getD 2 0).toNat : Int) &&& BitVec.ofInt 8 128).toNat) == 0)))] hW aY fun cE ay => ?_
 clear aY
 refine wpOps_nil (then_normal ?_)
 refine cond_false ay (b := (IntKind.u8.wrap (BitVec.ofInt 8 ((s.getD 2 0).toNat : Int) &&& BitVec.ofInt 8 128).toNat) == 0) kz ((and128 _ (oc_lt s 2)).trans (decide_eq_false (by have := h2; unfold oc at this; omega))) ?_
 refine go_sp [(0, .v (.slice A s.length c)), (4, .v (.int .u32 (IntKind.u32.wrap (BitVec.ofInt 32 (IntKind.u32.wrap (BitVec.ofInt 32 (IntKind.u32.wrap (IntKind.u8.wrap (BitVec.ofInt 8 ((s.getD 0 0).toNat : Int) &&& BitVec.ofInt 8 127).toNat)) ||| BitVec.ofInt 32 (IntKind.u32.wrap ((IntKind.u32.wrap (IntKind.u8.wrap (BitVec.ofInt 8 ((s.getD 1 0).toNat : Int) &&& BitVec.ofInt 8 127).toNat)) * 128))).toNat) ||| BitVec.ofInt 32 (IntKind.u32.wrap ((IntKind.u32.wrap (IntKind.u8.wrap (BitVec.ofInt 8 ((s.getD 2 0).toNat : Int) &&& BitVec.ofInt 8 127).toNat)) * 16384))).toNat))), (56, .v (.bool (decide (((s.length : Nat) : Int) < 4))))] hW ay fun cG az => ?_
 clear ay
 refine cond_false az (b := decide (((s.length : Nat) : Int) < 4)) kz (decide_eq_false (by omega)) ?_
 refine wp_skip ?_
 refine then_normal ?_
 refine go_seq_region [0, 1, 2, 3, 4, 5, 6, 7, 8] kz ?_
 refine go_rn [0, 1] [2, 3, 4, 5, 6, 7, 8] [(0, .v (.slice A s.length c)), (57, .v (.int .u32 (IntKind.u32.wrap (BitVec.ofInt 32 (IntKind.u32.wrap (BitVec.ofInt 32 (IntKind.u32.wrap (IntKind.u8.wrap (BitVec.ofInt 8 ((s.getD 0 0).toNat : Int) &&& BitVec.ofInt 8 127).toNat)) ||| BitVec.ofInt 32 (IntKind.u32.wrap ((IntKind.u32.wrap (IntKind.u8.wrap (BitVec.ofInt 8 ((s.getD 1 0).toNat : Int) &&& BitVec.ofInt 8 127).toNat)) * 128))).toNat) ||| BitVec.ofInt 32 (IntKind.u32.wrap ((IntKind.u32.wrap (IntKind.u8.wrap (BitVec.ofInt 8 ((s.getD 2 0).toNat : Int) &&& BitVec.ofInt 8 127).toNat)) * 16384))).toNat))), (58, .v (.slice A s.length c))] hW az fun cH aZ => ?_
 clear az
 obtain ⟨bz, bA, ba, bF, ah⟩ := Slots.get ho (i := 3) (by first | omega | (simp only [List.length_append, be_length, List.length_cons, List.length_nil] at *; omega))
 refine of_op (wpOp_index aZ (t := 22) (A := A) (m := s.length) (q := 3) (d := 59) kz (e := 5) (size := 1) (bytes := 1) (j := 3) kz ba rfl (by first | omega | (simp only [List.length_append, be_length, List.length_cons, List.length_nil] at *; omega)) fun cI bd => ?_)
 clear aZ
 refine of_op (wpOp_load bd (t := 5) (b := bz) (o := bA + 3 * 1) (d := 60) kz (cs := [.int .u8 ((s.getD 3 0).toNat : Int)]) (v := .int .u8 ((s.getD 3 0).toNat : Int)) kz (AtF.move ah hW.step nilM keepF).at_ fun cJ bf => ?_)
 clear bd
 refine go_rn [4, 5, 6, 7, 8] [] [(0, .v (.slice A s.length c)), (4, .v (.int .u32 (IntKind.u32.wrap (BitVec.ofInt 32 (IntKind.u32.wrap (BitVec.ofInt 32 (IntKind.u32.wrap (BitVec.ofInt 32 (IntKind.u32.wrap (IntKind.u8.wrap (BitVec.ofInt 8 ((s.getD 0 0).toNat : Int) &&& BitVec.ofInt 8 127).toNat)) ||| BitVec.ofInt 32 (IntKind.u32.wrap ((IntKind.u32.wrap (IntKind.u8.wrap (BitVec.ofInt 8 ((s.getD 1 0).toNat : Int) &&& BitVec.ofInt 8 127).toNat)) * 128))).toNat) ||| BitVec.ofInt 32 (IntKind.u32.wrap ((IntKind.u32.wrap (IntKind.u8.wrap (BitVec.ofInt 8 ((s.getD 2 0).toNat : Int) &&& BitVec.ofInt 8 127).toNat)) * 16384))).toNat) ||| BitVec.ofInt 32 (IntKind.u32.wrap ((IntKind.u32.wrap (IntKind.u8.wrap (BitVec.ofInt 8 ((s.getD 3 0).toNat : Int) &&& BitVec.ofInt 8 127).toNat)) * 2097152))).toNat)))] hW bf fun cK bg => ?_
 clear bf
 refine wpOps_nil (then_normal ?_)
 refine wp_seq ?_
 refine go_seq_region [0, 1, 2, 3, 4] kz ?_
 refine go_rn [0] [1, 2, 3, 4] [(0, .v (.slice A s.length c)), (4, .v (.int .u32 (IntKind.u32.wrap (BitVec.ofInt 32 (IntKind.u32.wrap (BitVec.ofInt 32 (IntKind.u32.wrap (BitVec.ofInt 32 (IntKind.u32.wrap (IntKind.u8.wrap (BitVec.ofInt 8 ((s.getD 0 0).toNat : Int) &&& BitVec.ofInt 8 127).toNat)) ||| BitVec.ofInt 32 (IntKind.u32.wrap ((IntKind.u32.wrap (IntKind.u8.wrap (BitVec.ofInt 8 ((s.getD 1 0).toNat : Int) &&& BitVec.ofInt 8 127).toNat)) * 128))).toNat) ||| BitVec.ofInt 32 (IntKind.u32.wrap ((IntKind.u32.wrap (IntKind.u8.wrap (BitVec.ofInt 8 ((s.getD 2 0).toNat : Int) &&& BitVec.ofInt 8 127).toNat)) * 16384))).toNat) ||| BitVec.ofInt 32 (IntKind.u32.wrap ((IntKind.u32.wrap (IntKind.u8.wrap (BitVec.ofInt 8 ((s.getD 3 0).toNat : Int) &&& BitVec.ofInt 8 127).toNat)) * 2097152))).toNat))), (65, .v (.slice A s.length c))] hW bg fun cL bh => ?_
 clear bg
 refine of_op (wpOp_index bh (t := 22) (A := A) (m := s.length) (q := 3) (d := 66) kz (e := 5) (size := 1) (bytes := 1) (j := 3) kz ba rfl (by first | omega | (simp only [List.length_append, be_length, List.length_cons, List.length_nil] at *; omega)) fun cM bi => ?_)
 clear bh
 refine of_op (wpOp_load bi (t := 5) (b := bz) (o := bA + 3 * 1) (d := 67) kz (cs := [.int .u8 ((s.getD 3 0).toNat : Int)]) (v := .int .u8 ((s.getD 3 0).toNat : Int)) kz (AtF.move ah hW.step nilM keepF).at_ fun cN bj => ?_)
 clear bi
 refine go_rn [3, 4] [] [(0, .v (.slice A s.length c)), (4, .v (.int .u32 (IntKind.u32.wrap (BitVec.ofInt 32 (IntKind.u32.wrap (BitVec.ofInt 32 (IntKind.u32.wrap (BitVec.ofInt 32 (IntKind.u32.wrap (IntKind.u8.wrap (BitVec.ofInt 8 ((s.getD 0 0).toNat : Int) &&& BitVec.ofInt 8 127).toNat)) ||| BitVec.ofInt 32 (IntKind.u32.wrap ((IntKind.u32.wrap (IntKind.u8.wrap (BitVec.ofInt 8 ((s.getD 1 0).toNat : Int) &&& BitVec.ofInt 8 127).toNat)) * 128))).toNat) ||| BitVec.ofInt 32 (IntKind.u32.wrap ((IntKind.u32.wrap (IntKind.u8.wrap (BitVec.ofInt 8 ((s.getD 2 0).toNat : Int) &&& BitVec.ofInt 8 127).toNat)) * 16384))).toNat) ||| BitVec.ofInt 32 (IntKind.u32.wrap ((IntKind.u32.wrap (IntKind.u8.wrap (BitVec.ofInt 8 ((s.getD 3 0).toNat : Int) &&& BitVec.ofInt 8 127).toNat)) * 2097152))).toNat))), (69, .v (.bool ((IntKind.u8.wrap (BitVec.ofInt 8 ((s.getD 3 0).toNat : Int) &&& BitVec.ofInt 8 128).toNat) == 0)))] hW bj fun cO aA => ?_
 clear bj
 refine wpOps_nil (then_normal ?_)
 refine cond_false aA (b := (IntKind.u8.wrap (BitVec.ofInt 8 ((s.getD 3 0).toNat : Int) &&& BitVec.ofInt 8 128).toNat) == 0) kz ((and128 _ (oc_lt s 3)).trans (decide_eq_false (by have := h3; unfold oc at this; omega))) ?_
 refine go_sp [(0, .v (.slice A s.length c)), (4, .v (.int .u32 (IntKind.u32.wrap (BitVec.ofInt 32 (IntKind.u32.wrap (BitVec.ofInt 32 (IntKind.u32.wrap (BitVec.ofInt 32 (IntKind.u32.wrap (IntKind.u8.wrap (BitVec.ofInt 8 ((s.getD 0 0).toNat : Int) &&& BitVec.ofInt 8 127).toNat)) ||| BitVec.ofInt 32 (IntKind.u32.wrap ((IntKind.u32.wrap (IntKind.u8.wrap (BitVec.ofInt 8 ((s.getD 1 0).toNat : Int) &&& BitVec.ofInt 8 127).toNat)) * 128))).toNat) ||| BitVec.ofInt 32 (IntKind.u32.wrap ((IntKind.u32.wrap (IntKind.u8.wrap (BitVec.ofInt 8 ((s.getD 2 0).toNat : Int) &&& BitVec.ofInt 8 127).toNat)) * 16384))).toNat) ||| BitVec.ofInt 32 (IntKind.u32.wrap ((IntKind.u32.wrap (IntKind.u8.wrap (BitVec.ofInt 8 ((s.getD 3 0).toNat : Int) &&& BitVec.ofInt 8 127).toNat)) * 2097152))).toNat))), (73, .v (.bool (decide (((s.length : Nat) : Int) < 5))))] hW aA fun cP aa => ?_
 clear aA
 refine cond_false aa (b := decide (((s.length : Nat) : Int) < 5)) kz (decide_eq_false (by omega)) ?_
 refine wp_skip ?_
 refine then_normal ?_
 refine go_seq_region [0, 1, 2, 3, 4, 5, 6, 7] kz ?_
 refine go_rn [0, 1] [2, 3, 4, 5, 6, 7] [(0, .v (.slice A s.length c)), (74, .v (.int .u32 (IntKind.u32.wrap (BitVec.ofInt 32 (IntKind.u32.wrap (BitVec.ofInt 32 (IntKind.u32.wrap (BitVec.ofInt 32 (IntKind.u32.wrap (IntKind.u8.wrap (BitVec.ofInt 8 ((s.getD 0 0).toNat : Int) &&& BitVec.ofInt 8 127).toNat)) ||| BitVec.ofInt 32 (IntKind.u32.wrap ((IntKind.u32.wrap (IntKind.u8.wrap (BitVec.ofInt 8 ((s.getD 1 0).toNat : Int) &&& BitVec.ofInt 8 127).toNat)) * 128))).toNat) ||| BitVec.ofInt 32 (IntKind.u32.wrap ((IntKind.u32.wrap (IntKind.u8.wrap (BitVec.ofInt 8 ((s.getD 2 0).toNat : Int) &&& BitVec.ofInt 8 127).toNat)) * 16384))).toNat) ||| BitVec.ofInt 32 (IntKind.u32.wrap ((IntKind.u32.wrap (IntKind.u8.wrap (BitVec.ofInt 8 ((s.getD 3 0).toNat : Int) &&& BitVec.ofInt 8 127).toNat)) * 2097152))).toNat))), (75, .v (.slice A s.length c))] hW aa fun bG ai => ?_
 clear aa
 obtain ⟨bk, bn, aj, bB, ab⟩ := Slots.get ho (i := 4) (by first | omega | (simp only [List.length_append, be_length, List.length_cons, List.length_nil] at *; omega))
 refine of_op (wpOp_index ai (t := 22) (A := A) (m := s.length) (q := 4) (d := 76) kz (e := 5) (size := 1) (bytes := 1) (j := 4) kz aj rfl (by first | omega | (simp only [List.length_append, be_length, List.length_cons, List.length_nil] at *; omega)) fun bH ak => ?_)
 clear ai
 refine of_op (wpOp_load ak (t := 5) (b := bk) (o := bn + 4 * 1) (d := 77) kz (cs := [.int .u8 ((s.getD 4 0).toNat : Int)]) (v := .int .u8 ((s.getD 4 0).toNat : Int)) kz (AtF.move ab hW.step nilM keepF).at_ fun bI al => ?_)
 clear ak
 refine go_rn [4, 5, 6, 7] [] [(0, .v (.slice A s.length c)), (4, .v (.int .u32 (IntKind.u32.wrap (BitVec.ofInt 32 (IntKind.u32.wrap (BitVec.ofInt 32 (IntKind.u32.wrap (BitVec.ofInt 32 (IntKind.u32.wrap (BitVec.ofInt 32 (IntKind.u32.wrap (IntKind.u8.wrap (BitVec.ofInt 8 ((s.getD 0 0).toNat : Int) &&& BitVec.ofInt 8 127).toNat)) ||| BitVec.ofInt 32 (IntKind.u32.wrap ((IntKind.u32.wrap (IntKind.u8.wrap (BitVec.ofInt 8 ((s.getD 1 0).toNat : Int) &&& BitVec.ofInt 8 127).toNat)) * 128))).toNat) ||| BitVec.ofInt 32 (IntKind.u32.wrap ((IntKind.u32.wrap (IntKind.u8.wrap (BitVec.ofInt 8 ((s.getD 2 0).toNat : Int) &&& BitVec.ofInt 8 127).toNat)) * 16384))).toNat) ||| BitVec.ofInt 32 (IntKind.u32.wrap ((IntKind.u32.wrap (IntKind.u8.wrap (BitVec.ofInt 8 ((s.getD 3 0).toNat : Int) &&& BitVec.ofInt 8 127).toNat)) * 2097152))).toNat) ||| BitVec.ofInt 32 (IntKind.u32.wrap ((IntKind.u32.wrap ((s.getD 4 0).toNat : Int)) * 268435456))).toNat)))] hW al fun bJ am => ?_
 clear al
 refine wpOps_nil (then_normal ?_)
 refine wp_seq ?_
 refine go_seq_region [0, 1, 2, 3] kz ?_
 refine go_rn [0] [1, 2, 3] [(4, .v (.int .u32 (IntKind.u32.wrap (BitVec.ofInt 32 (IntKind.u32.wrap (BitVec.ofInt 32 (IntKind.u32.wrap (BitVec.ofInt 32 (IntKind.u32.wrap (BitVec.ofInt 32 (IntKind.u32.wrap (IntKind.u8.wrap (BitVec.ofInt 8 ((s.getD 0 0).toNat : Int) &&& BitVec.ofInt 8 127).toNat)) ||| BitVec.ofInt 32 (IntKind.u32.wrap ((IntKind.u32.wrap (IntKind.u8.wrap (BitVec.ofInt 8 ((s.getD 1 0).toNat : Int) &&& BitVec.ofInt 8 127).toNat)) * 128))).toNat) ||| BitVec.ofInt 32 (IntKind.u32.wrap ((IntKind.u32.wrap (IntKind.u8.wrap (BitVec.ofInt 8 ((s.getD 2 0).toNat : Int) &&& BitVec.ofInt 8 127).toNat)) * 16384))).toNat) ||| BitVec.ofInt 32 (IntKind.u32.wrap ((IntKind.u32.wrap (IntKind.u8.wrap (BitVec.ofInt 8 ((s.getD 3 0).toNat : Int) &&& BitVec.ofInt 8 127).toNat)) * 2097152))).toNat) ||| BitVec.ofInt 32 (IntKind.u32.wrap ((IntKind.u32.wrap ((s.getD 4 0).toNat : Int)) * 268435456))).toNat))), (81, .v (.slice A s.length c))] hW am fun bK ao => ?_
 clear am
 refine of_op (wpOp_index ao (t := 22) (A := A) (m := s.length) (q := 4) (d := 82) kz (e := 5) (size := 1) (bytes := 1) (j := 4) kz aj rfl (by first | omega | (simp only [List.length_append, be_length, List.length_cons, List.length_nil] at *; omega)) fun bL ap => ?_)
 clear ao
 refine of_op (wpOp_load ap (t := 5) (b := bk) (o := bn + 4 * 1) (d := 83) kz (cs := [.int .u8 ((s.getD 4 0).toNat : Int)]) (v := .int .u8 ((s.getD 4 0).toNat : Int)) kz (AtF.move ab hW.step nilM keepF).at_ fun bM ar => ?_)
 clear ap
 refine go_rn [3] [] [(4, .v (.int .u32 (IntKind.u32.wrap (BitVec.ofInt 32 (IntKind.u32.wrap (BitVec.ofInt 32 (IntKind.u32.wrap (BitVec.ofInt 32 (IntKind.u32.wrap (BitVec.ofInt 32 (IntKind.u32.wrap (IntKind.u8.wrap (BitVec.ofInt 8 ((s.getD 0 0).toNat : Int) &&& BitVec.ofInt 8 127).toNat)) ||| BitVec.ofInt 32 (IntKind.u32.wrap ((IntKind.u32.wrap (IntKind.u8.wrap (BitVec.ofInt 8 ((s.getD 1 0).toNat : Int) &&& BitVec.ofInt 8 127).toNat)) * 128))).toNat) ||| BitVec.ofInt 32 (IntKind.u32.wrap ((IntKind.u32.wrap (IntKind.u8.wrap (BitVec.ofInt 8 ((s.getD 2 0).toNat : Int) &&& BitVec.ofInt 8 127).toNat)) * 16384))).toNat) ||| BitVec.ofInt 32 (IntKind.u32.wrap ((IntKind.u32.wrap (IntKind.u8.wrap (BitVec.ofInt 8 ((s.getD 3 0).toNat : Int) &&& BitVec.ofInt 8 127).toNat)) * 2097152))).toNat) ||| BitVec.ofInt 32 (IntKind.u32.wrap ((IntKind.u32.wrap ((s.getD 4 0).toNat : Int)) * 268435456))).toNat))), (84, .v (.bool (decide (((s.getD 4 0).toNat : Int) ≤ 15))))] hW ar fun bN ac => ?_
 clear ar
 refine wpOps_nil (then_normal ?_)
 refine cond_true ac (b := decide (((s.getD 4 0).toNat : Int) ≤ 15)) kz (decide_eq_true (by have := h4; unfold oc at this; omega)) ?_
 refine go_sp [(2, .v (.int .u32 (IntKind.u32.wrap (BitVec.ofInt 32 (IntKind.u32.wrap (BitVec.ofInt 32 (IntKind.u32.wrap (BitVec.ofInt 32 (IntKind.u32.wrap (BitVec.ofInt 32 (IntKind.u32.wrap (IntKind.u8.wrap (BitVec.ofInt 8 ((s.getD 0 0).toNat : Int) &&& BitVec.ofInt 8 127).toNat)) ||| BitVec.ofInt 32 (IntKind.u32.wrap ((IntKind.u32.wrap (IntKind.u8.wrap (BitVec.ofInt 8 ((s.getD 1 0).toNat : Int) &&& BitVec.ofInt 8 127).toNat)) * 128))).toNat) ||| BitVec.ofInt 32 (IntKind.u32.wrap ((IntKind.u32.wrap (IntKind.u8.wrap (BitVec.ofInt 8 ((s.getD 2 0).toNat : Int) &&& BitVec.ofInt 8 127).toNat)) * 16384))).toNat) ||| BitVec.ofInt 32 (IntKind.u32.wrap ((IntKind.u32.wrap (IntKind.u8.wrap (BitVec.ofInt 8 ((s.getD 3 0).toNat : Int) &&& BitVec.ofInt 8 127).toNat)) * 2097152))).toNat) ||| BitVec.ofInt 32 (IntKind.u32.wrap ((IntKind.u32.wrap ((s.getD 4 0).toNat : Int)) * 268435456))).toNat))), (3, .v (.int .i64 5))] hW ac fun bO bo => ?_
 clear ac
 refine wp_ret ?_
 refine then_ret ?_
 refine scope_ret ?_
 refine leave bo hW.cells (v := .tuple #[.int .u32 (IntKind.u32.wrap (BitVec.ofInt 32 (IntKind.u32.wrap (BitVec.ofInt 32 (IntKind.u32.wrap (BitVec.ofInt 32 (IntKind.u32.wrap (BitVec.ofInt 32 (IntKind.u32.wrap (IntKind.u8.wrap (BitVec.ofInt 8 ((s.getD 0 0).toNat : Int) &&& BitVec.ofInt 8 127).toNat)) ||| BitVec.ofInt 32 (IntKind.u32.wrap ((IntKind.u32.wrap (IntKind.u8.wrap (BitVec.ofInt 8 ((s.getD 1 0).toNat : Int) &&& BitVec.ofInt 8 127).toNat)) * 128))).toNat) ||| BitVec.ofInt 32 (IntKind.u32.wrap ((IntKind.u32.wrap (IntKind.u8.wrap (BitVec.ofInt 8 ((s.getD 2 0).toNat : Int) &&& BitVec.ofInt 8 127).toNat)) * 16384))).toNat) ||| BitVec.ofInt 32 (IntKind.u32.wrap ((IntKind.u32.wrap (IntKind.u8.wrap (BitVec.ofInt 8 ((s.getD 3 0).toNat : Int) &&& BitVec.ofInt 8 127).toNat)) * 2097152))).toNat) ||| BitVec.ofInt 32 (IntKind.u32.wrap ((IntKind.u32.wrap ((s.getD 4 0).toNat : Int)) * 268435456))).toNat), .int .i64 5]) kz ?_
 have e_ := uv_5 (oc s 0) (oc s 1) (oc s 2) (oc s 3) (oc s 4) (oc_lt s 0) (oc_lt s 1) (oc_lt s 2) (oc_lt s 3) (by omega)
 refine ⟨congrArg (fun z_ : Int => Ending.returned (.tuple #[.int .u32 z_, .int .i64 5])) (Eq.trans e_ ?_), hW.step⟩
 omega
theorem rUv (x : Nat) (hx : x < 4294967296) (rest : Bs) {A : Option Addr} {c : Nat} {w : World} {F : Nat → Nat → Prop} (ho : Octs w F A c (uv x ++ rest)) :
  Calls Tryz.prog 238 #[.slice A (uv x ++ rest).length c] w (Gives w (.tuple #[.int .u32 ((x : Nat) : Int), .int .i64 (((uv x).length : Nat) : Int)])) := by
 have hl := uv_len_of hx
 have hL : (uv x ++ rest).length = (uv x).length + rest.length := List.length_append
 by_cases h1 : x < 128
 ·rw [if_pos h1] at hl
  have h := rUv1 (uv x ++ rest) ho (by omega) x (by rw [uv_oc, if_pos h1]) h1
  rw [hl]; simpa using h
 rw [if_neg h1] at hl
 have o0 : oc (uv x ++ rest) 0 = x % 128 + 128 := by rw [uv_oc, if_neg h1]
 have o1 : oc (uv x ++ rest) 1 = oc (uv (x / 128) ++ rest) 0 := uv_oc1 (by omega) rest 0
 by_cases h2 : x < 16384
 ·rw [if_pos h2] at hl
  rw [uv_oc, if_pos (by omega)] at o1
  have h := rUv2 (uv x ++ rest) ho (by omega) (x % 128) (x / 128) o0 o1 (by omega) (by omega)
  rw [show x % 128 + x / 128 * 128 = x by omega] at h
  rw [hl]; exact h
 rw [if_neg h2] at hl
 have o2 : oc (uv x ++ rest) 2 = oc (uv (x / 128 / 128) ++ rest) 0 := (uv_oc1 (by omega) rest 1).trans (uv_oc1 (by omega) rest 0)
 rw [uv_oc, if_neg (by omega)] at o1
 by_cases h3 : x < 2097152
 ·rw [if_pos h3] at hl
  rw [uv_oc, if_pos (by omega)] at o2
  have h := rUv3 (uv x ++ rest) ho (by omega) (x % 128) (x / 128 % 128) (x / 128 / 128) o0 o1 o2 (by omega) (by omega) (by omega)
  rw [show x % 128 + x / 128 % 128 * 128 + x / 128 / 128 * 16384 = x by omega] at h
  rw [hl]; exact h
 rw [if_neg h3] at hl
 have o3 : oc (uv x ++ rest) 3 = oc (uv (x / 128 / 128 / 128) ++ rest) 0 := (uv_oc1 (by omega) rest 2).trans ((uv_oc1 (by omega) rest 1).trans (uv_oc1 (by omega) rest 0))
 rw [uv_oc, if_neg (by omega)] at o2
 by_cases h4 : x < 268435456
 ·rw [if_pos h4] at hl
  rw [uv_oc, if_pos (by omega)] at o3
  have h := rUv4 (uv x ++ rest) ho (by omega) (x % 128) (x / 128 % 128) (x / 128 / 128 % 128) (x / 128 / 128 / 128) o0 o1 o2 o3 (by omega) (by omega) (by omega) (by omega)
  rw [show x % 128 + x / 128 % 128 * 128 + x / 128 / 128 % 128 * 16384 + x / 128 / 128 / 128 * 2097152 = x by omega] at h
  rw [hl]; exact h
 rw [if_neg h4] at hl
 have o4 : oc (uv x ++ rest) 4 = oc (uv (x / 128 / 128 / 128 / 128) ++ rest) 0 := (uv_oc1 (by omega) rest 3).trans ((uv_oc1 (by omega) rest 2).trans ((uv_oc1 (by omega) rest 1).trans (uv_oc1 (by omega) rest 0)))
 rw [uv_oc, if_neg (by omega)] at o3
 rw [uv_oc, if_pos (by omega)] at o4
 have h := rUv5 (uv x ++ rest) ho (by omega) (x % 128) (x / 128 % 128) (x / 128 / 128 % 128) (x / 128 / 128 / 128 % 128) (x / 128 / 128 / 128 / 128) o0 o1 o2 o3 o4 (by omega) (by omega) (by omega) (by omega) (by omega)
 rw [show x % 128 + x / 128 % 128 * 128 + x / 128 / 128 % 128 * 16384 + x / 128 / 128 / 128 % 128 * 2097152 + x / 128 / 128 / 128 / 128 * 268435456 = x by omega] at h
 rw [hl]; exact h
theorem rUvarint (x : Nat) (hx : x < 4294967296) (rest : Bs)  {br : Nat} {A : Option Addr} {m c : Nat} {w : World} {F : Nat → Nat → Prop} (hst : Str w br [.slice A m c, .bool false]) (hr : RdS w F A m c (uv x ++ rest)) (hFd : ∀ b o, F b o → ¬ RdM br b o) :
  Calls Tryz.prog 222 #[.pointer (some ⟨br, 0, none⟩)] w (RdPost w br F rest fun v w' => v = .int .u32 ((x : Nat) : Int)) := by
 obtain ⟨hm, ho⟩ := hr
 subst hm
 have hle := ho.le
 have hpos := uv_len_pos x
 refine enter (n := 31) Tryz.func222 rfl Tryz.ntmps222 kz fun a hE => ?_
 have hW : WOk w (RdM br) w [⟨br, 0, [.slice A ((uv x ++ rest).length) c, .bool false], true⟩] [] := WOk.startStr hst
 have hE1 := (hE.grow ⟨br, 0, [.slice A ((uv x ++ rest).length) c, .bool false], true⟩).recast 0 (.v (.pointer (some ⟨br, 0, none⟩))) (.p 0 0) rfl rfl (Nat.le_of_ble_eq_true (n := 1) rfl)
 refine go_sp [(0, .p 0 0)] hW hE1 fun a1 hE2 => ?_
 clear hE1
 refine go_seq_region [0, 1, 2, 3, 4, 5, 6, 7, 8, 9] kz ?_
 refine go_rn [0, 1, 2, 3] [4, 5, 6, 7, 8, 9] [(0, .p 0 0), (9, .v (.slice A ((uv x ++ rest).length) c))] hW hE2 fun a3 hE4 => ?_
 clear hE2
 refine of_op (wpOp_call hE4 (f := 238) (vs := [.slice A ((uv x ++ rest).length) c]) (d := 10) kz Tryz.call238 (rUv x hx rest (ho.move hW.step (fun b_ o_ h_ _ => hFd b_ o_ h_) (hW.immM hFd))) ?_)
 rintro e_ w6 ⟨rfl, hs5⟩
 refine ⟨_, rfl, fun a7 hE8 => ?_⟩
 have hW9 := hW.next_nil hs5
 have aj := hW.frN hs5
 clear hE4 hW
 refine go_rn [5, 6, 7, 8, 9] [] [(0, .p 0 0), (3, .v (.int .u32 ((x : Nat) : Int))), (4, .v (.int .i64 (((uv x).length : Nat) : Int)))] hW9 hE8 fun al ac => ?_
 clear hE8
 refine wpOps_nil (then_normal ?_)
 refine wp_seq ?_
 refine go_sp [(0, .p 0 0), (3, .v (.int .u32 ((x : Nat) : Int))), (4, .v (.int .i64 (((uv x).length : Nat) : Int))), (14, .v (.bool (decide ((((uv x).length : Nat) : Int) ≤ 0))))] hW9 ac fun am ab => ?_
 clear ac
 refine cond_false ab (b := decide ((((uv x).length : Nat) : Int) ≤ 0)) kz (decide_eq_false (by omega)) ?_
 refine wp_skip ?_
 refine then_normal ?_
 refine go_seq_region [0, 1, 2, 3, 4, 5, 6, 7, 8, 9] kz ?_
 refine go_rn [0, 1, 2, 3, 4, 5] [6, 7, 8, 9] [(3, .v (.int .u32 ((x : Nat) : Int))), (21, .p 0 0), (25, .v (.slice A ((uv x ++ rest).length) c)), (26, .v (.int .i64 (((uv x).length : Nat) : Int)))] hW9 ab fun ao ae => ?_
 clear ab
 refine of_op (wpOp_cut_lo ae (t := 22) (A := A) (m := ((uv x ++ rest).length)) (cp := c) (q := (((uv x).length : Nat) : Int)) (d := 27) (j := ((uv x).length)) kz (e := 5) (bytes := 1) kz (rfl) (by first | omega | (simp only [List.length_append, be_length, List.length_cons, List.length_nil] at *; omega)) fun ap af => ?_)
 clear ae
 refine go_rn [7, 8] [9] [(3, .v (.int .u32 ((x : Nat) : Int))), (27, .v (.slice (cutA A c ((uv x).length)) (((uv x ++ rest).length) - ((uv x).length)) (c - ((uv x).length)))), (29, .p 0 0)] hW9 af fun ar ag => ?_
 clear af
 refine of_op (wpOp_store hW9 ag (oi := 0) (cs := [.slice (cutA A c ((uv x).length)) (((uv x ++ rest).length) - ((uv x).length)) (c - ((uv x).length)), .bool false]) kz fun au ak aa ah => ?_)
 clear ag hW9
 refine wpOps_nil (then_normal ?_)
 refine go_sp [(2, .v (.int .u32 ((x : Nat) : Int)))] aa ah fun av ai => ?_
 clear ah
 refine wp_ret ?_
 refine leave ai aa.cells (v := .int .u32 ((x : Nat) : Int)) kz ?_
 exact ⟨_, _, _, _, rfl, Str.of aa 0 rfl, RdS.drop (s := uv x) ⟨rfl, ho.move aa.step (fun b_ o_ h_ _ => hFd b_ o_ h_) keepF⟩ (rfl), aa.step, rfl⟩
theorem rSpan (X : Bs) (rest : Bs)  {br : Nat} {A : Option Addr} {m c : Nat} {w : World} {F : Nat → Nat → Prop} (hst : Str w br [.slice A m c, .bool false]) (hr : RdS w F A m c (X ++ rest)) (hFd : ∀ b o, F b o → ¬ RdM br b o) :
  Calls Tryz.prog 224 #[.pointer (some ⟨br, 0, none⟩), .int .i64 ((X.length : Nat) : Int)] w (RdPost w br F rest fun v w' => ∃ A2, v = .slice A2 X.length X.length ∧ Octs w' F A2 X.length X) := by
 obtain ⟨hm, ho⟩ := hr
 subst hm
 have hle := ho.le
 refine enter (n := 40) Tryz.func224 rfl Tryz.ntmps224 kz fun a hE => ?_
 have hW : WOk w (RdM br) w [⟨br, 0, [.slice A ((X ++ rest).length) c, .bool false], true⟩] [] := WOk.startStr hst
 have hE1 := (hE.grow ⟨br, 0, [.slice A ((X ++ rest).length) c, .bool false], true⟩).recast 0 (.v (.pointer (some ⟨br, 0, none⟩))) (.p 0 0) rfl rfl (Nat.le_of_ble_eq_true (n := 1) rfl)
 refine go_sp [(0, .p 0 0), (1, .v (.int .i64 ((X.length : Nat) : Int)))] hW hE1 fun a1 hE2 => ?_
 clear hE1
 refine wp_seq ?_
 refine go_seq_region [0, 1, 2, 3, 4, 5, 6, 7, 8, 9, 10] kz ?_
 refine go_rn [0, 1, 2, 3, 4, 5, 6, 7] [8, 9, 10] [(0, .p 0 0), (1, .v (.int .i64 ((X.length : Nat) : Int))), (13, .v (.bool (decide ((((X ++ rest).length : Nat) : Int) < ((X.length : Nat) : Int)))))] hW hE2 fun a3 hE4 => ?_
 clear hE2
 have hc5 : (decide ((((X ++ rest).length : Nat) : Int) < ((X.length : Nat) : Int))) = false := decide_eq_false (by first | omega | (simp only [List.length_append, be_length, List.length_cons, List.length_nil] at *; omega))
 have hE6 := hE4.cast (env' := [(0, .p 0 0), (1, .v (.int .i64 ((X.length : Nat) : Int))), (13, .v (.bool false))]) (by rw [hc5])
 clear hE4
 refine go_rn [8, 9, 10] [] [(0, .p 0 0), (1, .v (.int .i64 ((X.length : Nat) : Int))), (16, .v (.bool (decide (((X.length : Nat) : Int) < 0))))] hW hE6 fun a7 hE8 => ?_
 clear hE6
 refine wpOps_nil (then_normal ?_)
 refine cond_false hE8 (b := decide (((X.length : Nat) : Int) < 0)) kz (decide_eq_false (by first | omega | (simp only [List.length_append, be_length, List.length_cons, List.length_nil] at *; omega))) ?_
 refine wp_skip ?_
 refine then_normal ?_
 refine go_seq_region [0, 1, 2, 3, 4, 5, 6, 7] kz ?_
 refine go_rn [0, 1, 2, 3, 4, 5] [6, 7] [(0, .p 0 0), (1, .v (.int .i64 ((X.length : Nat) : Int))), (26, .v (.slice A ((X ++ rest).length) c)), (27, .v (.int .i64 ((X.length : Nat) : Int))), (28, .v (.int .i64 ((X.length : Nat) : Int)))] hW hE8 fun a9 ab => ?_
 clear hE8
 refine of_op (wpOp_cutm ab (t := 22) (A := A) (m := ((X ++ rest).length)) (cp := c) (k := .i64) (q := ((X.length : Nat) : Int)) (d := 29) (j := X.length) kz (e := 5) (bytes := 1) kz (rfl) (by first | omega | (simp only [List.length_append, be_length, List.length_cons, List.length_nil] at *; omega)) fun al ac => ?_)
 clear ab
 refine go_rn [7] [] [(0, .p 0 0), (1, .v (.int .i64 ((X.length : Nat) : Int))), (5, .v (.slice A X.length X.length))] hW ac fun am ae => ?_
 clear ac
 refine wpOps_nil (then_normal ?_)
 refine go_seq_region [0, 1, 2, 3, 4, 5, 6, 7, 8, 9] kz ?_
 refine go_rn [0, 1, 2, 3, 4, 5] [6, 7, 8, 9] [(5, .v (.slice A X.length X.length)), (30, .p 0 0), (34, .v (.slice A ((X ++ rest).length) c)), (35, .v (.int .i64 ((X.length : Nat) : Int)))] hW ae fun ao af => ?_
 clear ae
 refine of_op (wpOp_cut_lo af (t := 22) (A := A) (m := ((X ++ rest).length)) (cp := c) (q := ((X.length : Nat) : Int)) (d := 36) (j := X.length) kz (e := 5) (bytes := 1) kz (rfl) (by first | omega | (simp only [List.length_append, be_length, List.length_cons, List.length_nil] at *; omega)) fun ap ag => ?_)
 clear af
 refine go_rn [7, 8] [9] [(5, .v (.slice A X.length X.length)), (36, .v (.slice (cutA A c X.length) (((X ++ rest).length) - X.length) (c - X.length))), (38, .p 0 0)] hW ag fun ar ah => ?_
 clear ag
 refine of_op (wpOp_store hW ah (oi := 0) (cs := [.slice (cutA A c X.length) (((X ++ rest).length) - X.length) (c - X.length), .bool false]) kz fun au ak aa ai => ?_)
 clear ah hW
 refine wpOps_nil (then_normal ?_)
 refine go_sp [(4, .v (.slice A X.length X.length))] aa ai fun av aj => ?_
 clear ai
 refine wp_ret ?_
 refine leave aj aa.cells (v := .slice A X.length X.length) kz ?_
 exact ⟨_, _, _, _, rfl, Str.of aa 0 rfl, RdS.drop (s := X) ⟨rfl, ho.move aa.step (fun b_ o_ h_ _ => hFd b_ o_ h_) keepF⟩ (rfl), aa.step, A, rfl, RdS.front (s := X) ⟨rfl, ho.move aa.step (fun b_ o_ h_ _ => hFd b_ o_ h_) keepF⟩ rfl⟩
theorem rComplete {br : Nat} {A : Option Addr} {m c : Nat} {w : World} (hst : Str w br [.slice A m c, .bool false]) :
  Calls Tryz.prog 176 #[.pointer (some ⟨br, 0, none⟩)] w (fun e w' => e = .returned .nilIface ∧ w' = w) := by
 refine enter (n := 8) Tryz.func176 rfl Tryz.ntmps176 kz fun a hE => ?_
 have hW : WOk w (RdM br) w [⟨br, 0, [.slice A m c, .bool false], true⟩] [] := WOk.startStr hst
 have hE1 := (hE.grow ⟨br, 0, [.slice A m c, .bool false], true⟩).recast 0 (.v (.pointer (some ⟨br, 0, none⟩))) (.p 0 0) rfl rfl (Nat.le_of_ble_eq_true (n := 1) rfl)
 refine go_sp [(0, .p 0 0)] hW hE1 fun a1 hE2 => ?_
 clear hE1
 refine wp_seq ?_
 refine go_sp [(6, .v (.bool false))] hW hE2 fun a3 hE4 => ?_
 clear hE2
 refine cond_false hE4 (b := false) kz rfl ?_
 refine wp_skip ?_
 refine then_normal ?_
 refine go_sp [(2, .v (.nilIface))] hW hE4 fun a5 hE6 => ?_
 clear hE4
 refine wp_ret ?_
 refine leave hE6 hW.cells (v := .nilIface) kz ?_
 exact ⟨rfl, rfl⟩
end Go.Proofs.YtgolpmkenmedoaaGreatDoor.ME