/- FnMakeStreamsGroupHeartbeatResponse: the statement: of every version and every tree of the bulk that the statement speaks of the law returns true, and leaves its arguments as they are. Own work. -/
import Derived.Test.YtbjopfcbpobnpaaGreatWShM5
namespace Go.Proofs.YtbjopfcbpobnpaaGreat.ME
open Go
open Go.RowKit
set_option linter.unusedVariables false
set_option linter.unusedSimpArgs false
set_option maxRecDepth 20000
theorem lawStreamsGroupHeartbeatResponse (x : Int) (hx : 0 ≤ x) (hx' : x < 256) (ct : List Value) (t : Tree) (w : World) (F : Nat → Nat → Prop) (ht : TreeR w F ct t) (hroom : (writeB 8 sStreamsGroupHeartbeatResponseF sStreamsGroupHeartbeatResponseX (Int.tmod x (1 + 1)) t).length ≤ 1099511627776) (hcan : canStreamsGroupHeartbeatResponse (fitT (Int.tmod x (1 + 1)) 8 sStreamsGroupHeartbeatResponseF t)) (hmade : (makeStreamsGroupHeartbeatResponse (Int.tmod x (1 + 1)) (fitT (Int.tmod x (1 + 1)) 8 sStreamsGroupHeartbeatResponseF t)).length + 16 ≤ 1099511627776) (hpure : makeStreamsGroupHeartbeatResponse (Int.tmod x (1 + 1)) (fitT (Int.tmod x (1 + 1)) 8 sStreamsGroupHeartbeatResponseF t) = writeB 8 sStreamsGroupHeartbeatResponseF sStreamsGroupHeartbeatResponseX (Int.tmod x (1 + 1)) t) :
  Calls Tryz.prog 7 #[.int .u8 x, .agg ct.toArray] w (Gives w (.bool true)) := by
 obtain ⟨n1, s2, b3, l4, u5, A6, c7, A8, c9, aD, aE, cL, rfl, rfl, cM, cN, du, dv⟩ := ht.open_
 have cA := cM.small
 have cB := cN.small
 refine enter (n := 31) Tryz.func7 rfl Tryz.ntmps7 kz fun a hE => ?_
 have hW := WOk.start w Nil
 refine go_seq_region [0, 1] kz ?_
 refine of_op (wpOp_box hW hE (d := 3) (cs := [.int .i64 n1, .slice A6 s2.length c7, .bool b3, .slice A8 l4.length c9, .slice aD u5.length aE]) kz fun cO dw dx cP cQ cR ak aS => ?_)
 clear hE hW
 refine go_rn [1] [] [(0, .v (.int .u8 x)), (3, .p 0 0)] ak aS fun dy aT => ?_
 clear aS
 refine wpOps_nil (then_normal ?_)
 refine wp_seq ?_
 refine go_seq_region [0, 1, 2] kz ?_
 refine go_rn [0] [1, 2] [(0, .v (.int .u8 x)), (3, .p 0 0), (8, .v (.agg #[.int .i64 n1, .slice A6 s2.length c7, .bool b3, .slice A8 l4.length c9, .slice aD u5.length aE]))] ak aT fun dz aU => ?_
 clear aT
 refine of_op (wpOp_call aU (f := 8) (vs := [.agg #[.int .i64 n1, .slice A6 s2.length c7, .bool b3, .slice A8 l4.length c9, .slice aD u5.length aE]]) (d := 9) kz Tryz.call8 (lFits1 _ _ _ _ (ht.move ak.step nilM ak.imm)) ?_)
 rintro e_ dA ⟨cC, rfl, aV⟩
 refine ⟨_, rfl, fun dB aW => ?_⟩
 have al := ak.next_nil aV
 have cS := ak.frN aV
 clear aU ak
 refine go_rn [2] [] [(0, .v (.int .u8 x)), (3, .p 0 0), (10, .v (.bool (!cC)))] al aW fun dC ap => ?_
 clear aW
 refine wpOps_nil (then_normal ?_)
 refine cond_of ap (b := !cC) kz (fun bK => ?_) (fun bK => ?_)
 ·
  refine go_sp [(4, .v (.bool true))] al ap fun dD bL => ?_
  clear ap
  refine wp_ret ?_
  refine then_ret ?_
  refine leave bL al.cells (v := .bool true) kz ?_
  exact ⟨rfl, al.step⟩
 ·
  refine wp_skip ?_
  refine then_normal ?_
  refine go_seq_region [0, 1] kz ?_
  refine of_op (wpOp_call ap (f := 26) (vs := []) (d := 11) kz Tryz.call26 (xStreamsGroupHeartbeatResponse _) ?_)
  rintro e_ cT ⟨rfl, aX⟩
  refine ⟨_, rfl, fun dE aY => ?_⟩
  have ar := al.next_nil aX
  have cV := al.frN aX
  clear ap al
  refine go_rn [1] [] [(0, .v (.int .u8 x)), (3, .p 0 0), (5, .v (.int .i64 1))] ar aY fun dF aZ => ?_
  clear aY
  refine wpOps_nil (then_normal ?_)
  refine wp_seq ?_
  refine go_sp [(0, .v (.int .u8 x)), (3, .p 0 0), (5, .v (.int .i64 1)), (13, .v (.bool false))] ar aZ fun dG aM => ?_
  clear aZ
  refine cond_false aM (b := false) kz rfl ?_
  refine wp_skip ?_
  refine then_normal ?_
  refine go_seq_region [0, 1, 2, 3, 4, 5, 6] kz ?_
  refine of_op (wpOp_call aM (f := 27) (vs := []) (d := 14) kz Tryz.call27 (sStreamsGroupHeartbeatResponse _ (Imm F w cT [⟨cO, 0, [.int .i64 n1, .slice A6 s2.length c7, .bool b3, .slice A8 l4.length c9, .slice aD u5.length aE], true⟩] [])) ?_)
  rintro e_ dH ⟨aQ, aR, rfl, bM, aN⟩
  obtain ⟨ba, cD, cE⟩ := bM.move (Step.refl _ Nil) nilM (ar.laid (G := F) aN)
  refine ⟨_, rfl, fun dI bd => ?_⟩
  have aC := ar.next_nil aN
  have cW := ar.frN aN
  clear aM
  refine go_rn [1, 2] [3, 4, 5, 6] [(3, .p 0 0), (14, .v (.agg #[.slice aQ sStreamsGroupHeartbeatResponseF.length aR, .int .i64 sStreamsGroupHeartbeatResponseX])), (15, .v (.int .u8 x)), (16, .v (.int .i64 1))] aC bd fun dJ bf => ?_
  clear bd
  refine of_op (wpOp_call bf (f := 11) (vs := [.int .u8 x, .int .i64 1]) (d := 17) kz Tryz.call11 (lVersion x 1 hx hx' (by decide) (by decide) _) ?_)
  rintro e_ dK ⟨rfl, bg⟩
  refine ⟨_, rfl, fun dL bh => ?_⟩
  have bi := aC.next_nil bg
  have af := aC.frN bg
  clear bf aC
  refine of_op (wpOp_alloc bi bh (d := 6) (cs := [.slice none 0 0, .int .i64 0]) kz fun dM dN dO cX cY ag bj bk => ?_)
  clear bh bi
  refine of_op (wpOp_store bj bk (oi := 1) (cs := [.slice aQ sStreamsGroupHeartbeatResponseF.length aR, .int .i64 sStreamsGroupHeartbeatResponseX]) kz fun dP ah aO bn => ?_)
  clear bk bj
  refine go_rn [6] [] [(3, .p 0 0), (6, .p 1 0), (7, .v (.int .i64 (Int.tmod x (1 + 1))))] aO bn fun dQ bp => ?_
  clear bn
  refine wpOps_nil (then_normal ?_)
  refine go_seq_drawK 13 kz aO fun dR ai au bN => ?_
  clear aO
  refine go_rnD [0, 1, 2, 3, 4, 8, 9, 10] [(18, .v (.int .i64 (Int.tmod x (1 + 1)))), (20, .v (.slice aQ sStreamsGroupHeartbeatResponseF.length aR)), (21, .v (.int .i64 (Int.tmod x (1 + 1)))), (22, .v (.agg #[.int .i64 n1, .slice A6 s2.length c7, .bool b3, .slice A8 l4.length c9, .slice aD u5.length aE])), (26, .v (.agg #[.slice aQ sStreamsGroupHeartbeatResponseF.length aR, .int .i64 sStreamsGroupHeartbeatResponseX])), (27, .v (.int .i64 (Int.tmod x (1 + 1)))), (28, .v (.agg #[.int .i64 n1, .slice A6 s2.length c7, .bool b3, .slice A8 l4.length c9, .slice aD u5.length aE]))] 6 (panicFree_then panicFree_body) (fun _ h => h.cells) bN bp fun dS bq => ?_
  clear bp
  refine anyC_op (i := 5) kz (wpOp_call bq (f := 15) (vs := [.slice aQ sStreamsGroupHeartbeatResponseF.length aR, .int .i64 (Int.tmod x (1 + 1)), .agg #[.int .i64 n1, .slice A6 s2.length c7, .bool b3, .slice A8 l4.length c9, .slice aD u5.length aE]]) (d := 23) kz Tryz.call15 (sFitOK _ _ _ sStreamsGroupHeartbeatResponseF (Int.tmod x (1 + 1)) _ (Tree.mk n1 s2 b3 l4 u5) _ _ ⟨ba, (cD.move (((af.trans ag).trans ah).trans ai).step immM (((af.trans ag).trans ah).trans ai).to'), (fun i_ x_ h_ => ((cE i_ x_ h_).move (((af.trans ag).trans ah).trans ai).step immM (((af.trans ag).trans ah).trans ai).to'))⟩ sStreamsGroupHeartbeatResponse_plain sStreamsGroupHeartbeatResponse_depth (ht.move au.step nilM au.imm)) ?_)
  rintro e_ cZ ⟨c5, rfl, bO, aP⟩
  have av := bO.move (Step.refl _ Nil) nilM (au.laid (G := F) aP)
  obtain ⟨bP, bQ, bR, bS, bT, bU, bV, bW, bX, bY, bZ, cG, cH, aw, b0, b5, da, db⟩ := av.open_
  rw [aw] at av
  have b6 := b0.small
  have b8 := b5.small
  rw [aw]
  refine ⟨_, rfl, fun dc aF => ?_⟩
  have am := au.next_nil aP
  have aa := au.frN aP
  clear bq
  have br := TT.ofW aa am
  refine ⟨fun _ => br, ?_⟩
  refine anyC_op (i := 6) kz (wpOp_call aF (f := 14) (vs := [.agg #[.int .i64 bP, .slice bU bQ.length bV, .bool bR, .slice bW bS.length bX, .slice bY bT.length bZ]]) (d := 24) kz Tryz.call14 (lGiven _ _ _ _ _ av (Nat.le_refl _)) ?_)
  rintro e_ de ⟨cI, rfl, bt, ax⟩
  have ay := bt.move (Step.refl _ Nil) nilM (am.laid (G := F) ax)
  obtain ⟨ca, cb, cc, cd, ce, cg, cl, cm, cq, cr, cu, cJ, cK, aA, cv, cw, df, dg⟩ := ay.open_
  rw [aA] at ay
  have cy := cv.small
  have cz := cw.small
  rw [aA]
  refine ⟨_, rfl, fun dh aG => ?_⟩
  have aB := am.next_nil ax
  have ab := am.frN ax
  clear aF
  have bu := TT.ofW (aa.trans ab) aB
  refine ⟨fun _ => bu, ?_⟩
  refine anyC_op (i := 7) kz (wpOp_call aG (f := 28) (vs := [.int .i64 (Int.tmod x (1 + 1)), .agg #[.int .i64 ca, .slice cg cb.length cl, .bool cc, .slice cm cd.length cq, .slice cr ce.length cu]]) (d := 25) kz Tryz.call28 (mStreamsGroupHeartbeatResponse (Int.tmod x (1 + 1)) _ (fitT (Int.tmod x (1 + 1)) 8 sStreamsGroupHeartbeatResponseF (Tree.mk n1 s2 b3 l4 u5)) _ _ ay hcan hmade) ?_)
  rintro e_ di ⟨bv, bw, rfl, bz, bA⟩
  refine ⟨_, rfl, fun dj aH => ?_⟩
  obtain ⟨aj, ac⟩ := aB.frFresh bA (brow bv bw 5 (makeStreamsGroupHeartbeatResponse (Int.tmod x (1 + 1)) (fitT (Int.tmod x (1 + 1)) 8 sStreamsGroupHeartbeatResponseF (Tree.mk n1 s2 b3 l4 u5)))) (Nat.le_refl _) bz
  clear aG aB
  have bB := TT.ofW ((aa.trans ab).trans ac) aj
  refine ⟨fun _ => bB, ?_⟩
  refine anyC_op (i := 11) kz (wpOp_call aH (f := 16) (vs := [.agg #[.slice aQ sStreamsGroupHeartbeatResponseF.length aR, .int .i64 sStreamsGroupHeartbeatResponseX], .int .i64 (Int.tmod x (1 + 1)), .agg #[.int .i64 n1, .slice A6 s2.length c7, .bool b3, .slice A8 l4.length c9, .slice aD u5.length aE]]) (d := 29) kz Tryz.call16 (sWrite _ _ sStreamsGroupHeartbeatResponseF sStreamsGroupHeartbeatResponseX (Int.tmod x (1 + 1)) _ (Tree.mk n1 s2 b3 l4 u5) _ _ ⟨ba, (cD.move ((((((af.trans ag).trans ah).trans ai).trans aa).trans ab).trans ac).step immM ((((((af.trans ag).trans ah).trans ai).trans aa).trans ab).trans ac).to'), (fun i_ x_ h_ => ((cE i_ x_ h_).move ((((((af.trans ag).trans ah).trans ai).trans aa).trans ab).trans ac).step immM ((((((af.trans ag).trans ah).trans ai).trans aa).trans ab).trans ac).to'))⟩ sStreamsGroupHeartbeatResponse_depth (ht.move aj.step nilM aj.imm) hroom) ?_)
  rintro e_ dl ⟨bC, bD, rfl, bE, bF⟩
  refine ⟨_, rfl, fun dp aI => ?_⟩
  obtain ⟨ae, aJ⟩ := aj.frFresh bF (brow bC bD 5 (writeB 8 sStreamsGroupHeartbeatResponseF sStreamsGroupHeartbeatResponseX (Int.tmod x (1 + 1)) (Tree.mk n1 s2 b3 l4 u5))) (Nat.le_refl _) bE
  clear aH aj
  have bG := TT.ofW (((aa.trans ab).trans ac).trans aJ) ae
  refine ⟨fun _ => bG, ?_⟩
  refine anyC_op (i := 12) kz (wpOp_call aI (f := 12) (vs := [.slice bv ((makeStreamsGroupHeartbeatResponse (Int.tmod x (1 + 1)) (fitT (Int.tmod x (1 + 1)) 8 sStreamsGroupHeartbeatResponseF (Tree.mk n1 s2 b3 l4 u5))).length) bw, .slice bC ((writeB 8 sStreamsGroupHeartbeatResponseF sStreamsGroupHeartbeatResponseX (Int.tmod x (1 + 1)) (Tree.mk n1 s2 b3 l4 u5)).length) bD]) (d := 30) kz Tryz.call12 (sSame _ _ _ _ (makeStreamsGroupHeartbeatResponse (Int.tmod x (1 + 1)) (fitT (Int.tmod x (1 + 1)) 8 sStreamsGroupHeartbeatResponseF (Tree.mk n1 s2 b3 l4 u5))) (writeB 8 sStreamsGroupHeartbeatResponseF sStreamsGroupHeartbeatResponseX (Int.tmod x (1 + 1)) (Tree.mk n1 s2 b3 l4 u5)) _ _ (octs_own (ae.own 0 _ rfl) (by first | omega | (simp only [be_length]; exact Nat.le_trans (widthI_le _) (by decide)) | (have := hroom; omega) | (have := hmade; omega) | (simp only [List.length_append, List.length_nil]; omega)) (F := fun _ _ => True) (fun _ _ _ => trivial)) (octs_own (ae.own 1 _ rfl) (by first | omega | (simp only [be_length]; exact Nat.le_trans (widthI_le _) (by decide)) | (have := hroom; omega) | (have := hmade; omega) | (simp only [List.length_append, List.length_nil]; omega)) (F := fun _ _ => True) (fun _ _ _ => trivial))) ?_)
  rintro e_ dq ⟨rfl, aK⟩
  refine ⟨_, rfl, fun dr aL => ?_⟩
  have ao := ae.next_nil aK
  have bH := ae.frN aK
  clear aI ae
  have bI := TT.ofW ((((aa.trans ab).trans ac).trans aJ).trans bH) ao
  refine ⟨fun _ => bI, ?_⟩
  refine anyC_op (i := 13) kz (wpOp_pure [4] ao.cells aL (env' := [(4, .v (.bool (decide (makeStreamsGroupHeartbeatResponse (Int.tmod x (1 + 1)) (fitT (Int.tmod x (1 + 1)) 8 sStreamsGroupHeartbeatResponseF (Tree.mk n1 s2 b3 l4 u5)) = writeB 8 sStreamsGroupHeartbeatResponseF sStreamsGroupHeartbeatResponseX (Int.tmod x (1 + 1)) (Tree.mk n1 s2 b3 l4 u5)))))]) kz fun dt bJ => ?_)
  clear aL
  refine ⟨fun h => absurd rfl h, ?_⟩
  refine anyC_done kz ?_ _
  refine then_normal ?_
  refine wp_ret ?_
  refine leave bJ ao.cells (v := .bool (decide (makeStreamsGroupHeartbeatResponse (Int.tmod x (1 + 1)) (fitT (Int.tmod x (1 + 1)) 8 sStreamsGroupHeartbeatResponseF (Tree.mk n1 s2 b3 l4 u5)) = writeB 8 sStreamsGroupHeartbeatResponseF sStreamsGroupHeartbeatResponseX (Int.tmod x (1 + 1)) (Tree.mk n1 s2 b3 l4 u5)))) kz ?_
  exact ⟨by rw [hpure]; simp, ao.step⟩
theorem closeStreamsGroupHeartbeatResponse (x : Int) (hx : 0 ≤ x ∧ x ≤ 255) (ct : List Value) (t : Tree) (w : World) (F : Nat → Nat → Prop) (ht : TreeR w F ct t) (hsz : t.size ≤ 8388608) : Calls Tryz.prog 7 #[.int .u8 x, .agg ct.toArray] w (Gives w (.bool true)) := by
 obtain ⟨g0, g1⟩ := ver_ok (m := 1 + 1) hx.1 hx.2 (by decide) (by decide)
 have hp : makeStreamsGroupHeartbeatResponse (Int.tmod x (1 + 1)) (fitT (Int.tmod x (1 + 1)) 8 sStreamsGroupHeartbeatResponseF t) = writeB 8 sStreamsGroupHeartbeatResponseF sStreamsGroupHeartbeatResponseX (Int.tmod x (1 + 1)) t := by unfold makeStreamsGroupHeartbeatResponse; rw [i16_small g0 g1]; exact pureStreamsGroupHeartbeatResponse (Int.tmod x (1 + 1)) g0 g1 t
 have h1 := writeB_le 8 sStreamsGroupHeartbeatResponseF sStreamsGroupHeartbeatResponseX (Int.tmod x (1 + 1)) t
 have h2 : costL sStreamsGroupHeartbeatResponseF ≤ 131000 := by decide +kernel
 have h3 := Nat.mul_le_mul h2 hsz
 exact lawStreamsGroupHeartbeatResponse x hx.1 (by omega) ct t w F ht (by omega) (canfitStreamsGroupHeartbeatResponse (Int.tmod x (1 + 1)) t) (by rw [hp]; omega) hp
end Go.Proofs.YtbjopfcbpobnpaaGreat.ME
namespace Go.Proofs.YtbjopfcbpobnpaaGreat.ME
open Go
open Go.ChangeShapes Go.WideShapes Go.ChangeAt Go.RowKit
set_option linter.unusedVariables false
set_option linter.unusedSimpArgs false
theorem ownKnob_ : ownKnob Tryz.prog.godebug = none := by kernel_rfl
theorem laidOut_ : laidOutB Tryz.prog = true := by kernel_rfl
theorem treeTys : TreeTys Tryz.prog 26 23 24 63 22 2 4 61 5 := ⟨kz, kz, kz, kz, kz, kz, kz, kz, kz, kz⟩
theorem open_two {H : Type} {enc : TypeId × Value → H} {P : Program} {W : World} {base b' : Nat} {sp : Nat → Bool} {hd : Bool} {t0 t1 : TypeId} {v0 v1 : Value} {d0 : DataW H} {p0 : List MemPlace} (hu : P.underlying t0 = some (.int .u8))
  (hval : ∀ (j : Nat) (t : TypeId) (v : Value), #[t0, t1][j]? = some t → #[v0, v1][j]? = some v → Value.okWide P W .any base t v) (h : DataW.Trod enc P W b' sp hd t0 v0 d0 p0) : ∃ x, v0 = .int .u8 x ∧ d0 = .lit (.int .u8 x) ∧ p0 = [] ∧ (Lit.int .u8 x).wf = true :=
 open_int hu (hval 0 t0 v0 rfl rfl) h
theorem agg_of {v : Value} {cs : List Value} (h : v.cells.toList = cs) (h5 : cs.length = 5) : v = .agg cs.toArray := by
 subst h
 cases v <;> first | (simp [Value.cells] at h5; done) | simp [Value.cells]
theorem contract_ (H : Type) (enc : TypeId × Value → H) (W : World) (base : Nat) (args : Array Value) (ds gs : List (DataW H)) (before : List MemPlace)
  (hval : ∀ (j : Nat) t v, Tryz.f7.params[j]? = some t → args[j]? = some v → Value.okWide Tryz.prog W .any base t v)
  (hW : DataW.Whole enc Tryz.prog Tryz.f7.params.toList Rows.fnMakeStreamsGroupHeartbeatResponseSpec.vars false W args.toList ds gs before) (hk : Rows.uptoSmall H (ds ++ gs) = true) :
  Calls Tryz.prog 7 args W fun e W' => ∃ v, e = .returned v ∧ Rows.fnMakeStreamsGroupHeartbeatResponseSpec.post enc Tryz.prog Tryz.f7 false true false false W args v W' := by
 have hW' := hW
 obtain ⟨p, q, hA0, hV, rfl, hfz, hnd⟩ := hW
 have hA : DataW.TrodAll enc Tryz.prog W 0 (fun _ => true) true Tryz.f7.params.toList args.toList ds p := hA0
 rw [Tryz.params7] at hA hval
 obtain ⟨v0, v1, d0, d1, p0, p1, rfl, rfl, rfl, h0, h1⟩ := trodAll_two hA
 obtain ⟨rfl, rfl⟩ := trodVars_none hV
 obtain ⟨x, rfl, rfl, rfl, w0⟩ := open_two Tryz.underlying5 @hval h0
 have hx : 0 ≤ x ∧ x ≤ 255 := by simpa [Lit.wf, IntKind.min, IntKind.max, IntKind.signed, IntKind.bits] using w0
 have hb : Rows.uptoBulk d1 ≤ 1048576 := by
  have h : Rows.uptoBulkAll ([DataW.lit (H := H) (.int .u8 x), d1] ++ []) ≤ 1048576 := of_decide_eq_true hk
  simp only [List.append_nil, Rows.uptoBulkAll] at h
  omega
 obtain ⟨fuel, hf⟩ := h1
 obtain ⟨t, ht, hsz⟩ := trod_tree treeTys fuel _ _ hf hb
 replace hsz : t.size ≤ 8388608 := Nat.le_trans hsz (by show 8 * Rows.uptoBulk d1 ≤ 8388608; omega)
 have hagg := agg_of rfl ht.five
 generalize v1.cells.toList = ct at ht hagg
 subst hagg
 clear hf
 refine (closeStreamsGroupHeartbeatResponse x hx _ t W (fun _ _ => True) ht hsz).mono fun e W' h => ?_
 obtain ⟨rfl, hs⟩ := h
 exact ⟨_, rfl, post_step hW' hs laidOut_ (by rw [Tryz.params7]; decide +kernel) rfl rfl rfl (fun _ _ _ => trodAll_cons_mk (shut_bool Tryz.underlying4 _) trodAll_mk0)⟩
set_option maxRecDepth 100000 in
theorem lifted_ (os : Os) (started : os.Started) (H : Type) (enc : TypeId × Value → H) (F : Stop.Interp) :
  ReturnsInHanded {} Tryz.checked os 7 .any ((Rows.OpenSpec.upto Rows.fnMakeStreamsGroupHeartbeatResponseSpec).pre6 enc Tryz.prog Tryz.f7 Rows.fnMakeStreamsGroupHeartbeatResponseUptoRow.domain false) (((Rows.OpenSpec.upto Rows.fnMakeStreamsGroupHeartbeatResponseSpec).at F).post enc Tryz.prog Tryz.f7 false true false false) := by
 refine returnsInHanded_of_cond (C := Tryz.checked) (s := Rows.OpenSpec.upto Rows.fnMakeStreamsGroupHeartbeatResponseSpec) (k := Rows.uptoSmall) rfl ownKnob_ started kz Tryz.func7
  (OpenSpec.witness (enc := enc) (C := Tryz.checked) (s := Rows.OpenSpec.upto Rows.fnMakeStreamsGroupHeartbeatResponseSpec) (k := Rows.uptoSmall) rfl false ⟨#[], #[.int .u8 0, .agg #[.int .i64 0, .slice none 0 0, .bool false, .slice none 0 0, .slice none 0 0]], []⟩ 8 kz kz kz
   (x := ([.lit (.int .u8 0), .agg [.lit (.int .i64 0), .nil, .lit (.bool false), .nil, .nil]], [], [])) kz rfl kz) ?_
 intro W base args ds gs before hval hW _ hk _
 exact contract_ H enc W base args ds gs before @hval hW hk
theorem holds_ : Rows.FnMakeStreamsGroupHeartbeatResponseUptoSaid :=
 OpenClaim.holds_of_cond 7 Tryz.f7 rfl rfl rfl rfl rfl rfl rfl ⟨rfl, rfl, rfl, rfl, rfl⟩ rfl rfl rfl rfl rfl kz Tryz.func7 kz
  (of_decide_eq_true kz) (by unfold Func.isWrapper; first | (rw [if_pos (by decide +kernel)]; kernel_rfl) | (rw [if_neg (by decide +kernel)]; exact ⟨rfl, rfl⟩))
  (fun os started H enc _ F => lifted_ os started H enc F)
end Go.Proofs.YtbjopfcbpobnpaaGreat.ME
namespace Go.Proofs.YtbjopfcbpobnpaaGreat
theorem fnMakeStreamsGroupHeartbeatResponse_holds : Rows.FnMakeStreamsGroupHeartbeatResponseUptoSaid := ME.holds_
end Go.Proofs.YtbjopfcbpobnpaaGreat