/- The texts of a claim, put together: the engine, the contracts, the law. Own work. -/
import Derived.Test.YtbjopfcbpobnpaaGreatWShM3
namespace Go.Proofs.YtbjopfcbpobnpaaGreat.ME
open Go
set_option linter.unusedVariables false
set_option linter.unusedSimpArgs false
set_option maxRecDepth 20000
def FitOK (d : Nat) : Prop := ∀ (A : Option Addr) (c : Nat) (l : List Fld) (v : Int) (ct : List Value) (t : Tree) (w : World) (F : Nat → Nat → Prop), FldsR w F A c l → plains l → depths l ≤ d → TreeR w F ct t →
  Calls Tryz.prog 15 #[.slice A l.length c, .int .i64 v, .agg ct.toArray] w (GivesT w F (fitT v d l t))
theorem sFitted0 {d : Nat} (hfit : FitOK d) (cf : List Value) (f : Fld) (v : Int) (ct : List Value) (t : Tree) (w : World) (F : Nat → Nat → Prop) (hf : FldR w F cf f) (hpl : plains f.sub) (hd : depths f.sub ≤ d) (bj : f.kind ≠ 11) (ht : TreeR w F ct t) :
  Calls Tryz.prog 36 #[.agg cf.toArray, .int .i64 v, .agg ct.toArray] w (GivesT w F (fitted0 (fitT v d) f (f.nul v t) t)) := by
 obtain ⟨n1, s2, b3, l4, u5, A6, c7, A8, c9, bq, br, cz, rfl, rfl, bp, cA, dq, dr⟩ := ht.open_
 have b5 := bp.small
 have b6 := cA.small
 obtain ⟨ab, ai, aj, ak, al, am, ao, ac, bt, bu, bU, rfl, rfl, b8, cB⟩ := hf.open_
 have ca := b8.small
 have bj : ab ≠ 11 := bj
 refine enter (n := 82) Tryz.func36 rfl Tryz.ntmps36 kz fun a hE => ?_
 have hW := WOk.start w Nil
 refine go_seq_region [0, 1, 2] kz ?_
 refine of_op (wpOp_box hW hE (d := 3) (cs := [.int .i64 ab, .int .i64 ai, .int .i64 aj, .int .i64 ak, .int .i64 al, .int .i64 am, .int .i64 ao, .slice bt ac.length bu]) kz fun dt du dv cC cD cE bv bw => ?_)
 clear hE hW
 refine of_op (wpOp_box bv bw (d := 5) (cs := [.int .i64 n1, .slice A6 s2.length c7, .bool b3, .slice A8 l4.length c9, .slice bq u5.length br]) kz fun dw dx dy cG cH cI bz bA => ?_)
 clear bw bv
 refine of_op (wpOp_alloc bz bA (d := 6) (cs := [.int .i64 0, .slice none 0 0, .bool false, .slice none 0 0, .slice none 0 0]) kz fun dz dA dB cJ cK cL aP bB => ?_)
 clear bA bz
 refine wpOps_nil (then_normal ?_)
 refine go_seq_region [0, 1, 2, 3, 4] kz ?_
 refine go_rn [0, 1, 2] [3, 4] [(1, .v (.int .i64 v)), (3, .p 0 0), (5, .p 1 0), (6, .p 2 0), (13, .v (.agg #[.int .i64 ab, .int .i64 ai, .int .i64 aj, .int .i64 ak, .int .i64 al, .int .i64 am, .int .i64 ao, .slice bt ac.length bu])), (14, .v (.int .i64 v)), (15, .v (.agg #[.int .i64 n1, .slice A6 s2.length c7, .bool b3, .slice A8 l4.length c9, .slice bq u5.length br]))] aP bB fun dC bC => ?_
 clear bB
 refine of_op (wpOp_call bC (f := 87) (vs := [.agg #[.int .i64 ab, .int .i64 ai, .int .i64 aj, .int .i64 ak, .int .i64 al, .int .i64 am, .int .i64 ao, .slice bt ac.length bu], .int .i64 v, .agg #[.int .i64 n1, .slice A6 s2.length c7, .bool b3, .slice A8 l4.length c9, .slice bq u5.length br]]) (d := 16) kz Tryz.call87 (sNull ab ai aj ak al am ao ac _ _ v n1 s2 b3 l4 u5 _ _ _ _ _ _ _) ?_)
 rintro e_ dD ⟨rfl, bD⟩
 refine ⟨_, rfl, fun dE bE => ?_⟩
 have aa := aP.next_nil bD
 have cM := aP.frN bD
 clear bC aP
 refine go_rn [4] [] [(1, .v (.int .i64 v)), (3, .p 0 0), (5, .p 1 0), (6, .p 2 0), (7, .v (.bool (Fld.nul (Fld.mk ab ai aj ak al am ao ac) v (Tree.mk n1 s2 b3 l4 u5))))] aa bE fun dF bF => ?_
 clear bE
 refine wpOps_nil (then_normal ?_)
 refine wp_seq ?_
 refine go_sp [(1, .v (.int .i64 v)), (3, .p 0 0), (5, .p 1 0), (6, .p 2 0), (7, .v (.bool (Fld.nul (Fld.mk ab ai aj ak al am ao ac) v (Tree.mk n1 s2 b3 l4 u5)))), (18, .v (.int .i64 ab))] aa bF fun dG bG => ?_
 clear bF
 refine wp_block ?_
 refine wp_seq ?_
 refine go_sp [(1, .v (.int .i64 v)), (3, .p 0 0), (5, .p 1 0), (6, .p 2 0), (7, .v (.bool (Fld.nul (Fld.mk ab ai aj ak al am ao ac) v (Tree.mk n1 s2 b3 l4 u5)))), (18, .v (.int .i64 ab)), (19, .v (.bool (ab == 8)))] aa bG fun dH av => ?_
 clear bG
 refine cond_of av (b := ab == 8) kz (fun aQ => ?_) (fun aQ => ?_)
 ·
  have cN : ab = 8 := by simpa using aQ
  refine wp_skip ?_
  refine then_normal ?_
  refine cond_true av (b := ab == 8) kz (aQ) ?_
  refine go_seq_region [0, 1, 2, 3, 4, 5] kz ?_
  refine go_rn [0, 1] [2, 3, 4, 5] [(6, .p 2 0), (7, .v (.bool (Fld.nul (Fld.mk ab ai aj ak al am ao ac) v (Tree.mk n1 s2 b3 l4 u5)))), (23, .v (.slice A6 s2.length c7))] aa av fun dI bH => ?_
  clear av
  have cb := whole_le s2
  refine of_op (wpOp_call bH (f := 39) (vs := [.slice A6 s2.length c7]) (d := 24) kz Tryz.call39 (sWhole _ _ s2 (bp.move aa.step nilM aa.imm).le _) ?_)
  rintro e_ dJ ⟨rfl, bI⟩
  refine ⟨_, rfl, fun dK bJ => ?_⟩
  have bk := aa.next_nil bI
  have cO := aa.frN bI
  clear bH aa
  refine go_rn [3, 4] [5] [(6, .p 2 0), (26, .v (.agg #[.int .i64 0, .slice A6 ((whole s2).length) c7, .bool (Fld.nul (Fld.mk ab ai aj ak al am ao ac) v (Tree.mk n1 s2 b3 l4 u5)), .slice none 0 0, .slice none 0 0]))] bk bJ fun dL bK => ?_
  clear bJ
  refine of_op (wpOp_store bk bK (oi := 2) (cs := [.int .i64 0, .slice A6 ((whole s2).length) c7, .bool (Fld.nul (Fld.mk ab ai aj ak al am ao ac) v (Tree.mk n1 s2 b3 l4 u5)), .slice none 0 0, .slice none 0 0]) kz fun dM cP aR bV => ?_)
  clear bK bk
  refine wpOps_nil (then_normal ?_)
  refine wp_ret ?_
  refine block_ret ?_
  refine then_ret ?_
  refine leave bV aR.cells (v := .agg #[.int .i64 0, .slice A6 ((whole s2).length) c7, .bool (Fld.nul (Fld.mk ab ai aj ak al am ao ac) v (Tree.mk n1 s2 b3 l4 u5)), .slice none 0 0, .slice none 0 0]) kz ?_
  exact tree_end aR rfl (((bp.take 32767).move aR.step nilM aR.imm).move (Step.refl _ Nil) nilM immOut) rfl (noTrees _ _) rfl (TagsR.nil _ _) (fitted_8 (by omega))
 ·
  have cQ : ab ≠ 8 := by simpa using aQ
  refine go_region [0, 1] kz ?_
  refine go_rn [0, 1] [] [(1, .v (.int .i64 v)), (3, .p 0 0), (5, .p 1 0), (6, .p 2 0), (7, .v (.bool (Fld.nul (Fld.mk ab ai aj ak al am ao ac) v (Tree.mk n1 s2 b3 l4 u5)))), (18, .v (.int .i64 ab)), (19, .v (.bool (ab == 9)))] aa av fun dN aw => ?_
  clear av
  refine wpOps_nil (then_normal ?_)
  refine cond_of aw (b := ab == 9) kz (fun bn => ?_) (fun bn => ?_)
  ·
   have cR : ab = 9 := by simpa using bn
   refine go_seq_region [0, 1, 2, 3, 4, 5] kz ?_
   refine go_rn [0, 1] [2, 3, 4, 5] [(6, .p 2 0), (7, .v (.bool (Fld.nul (Fld.mk ab ai aj ak al am ao ac) v (Tree.mk n1 s2 b3 l4 u5)))), (23, .v (.slice A6 s2.length c7))] aa aw fun dO bL => ?_
   clear aw
   have cc := whole_le s2
   refine of_op (wpOp_call bL (f := 39) (vs := [.slice A6 s2.length c7]) (d := 24) kz Tryz.call39 (sWhole _ _ s2 (bp.move aa.step nilM aa.imm).le _) ?_)
   rintro e_ cS ⟨rfl, bM⟩
   refine ⟨_, rfl, fun cT aS => ?_⟩
   have ax := aa.next_nil bM
   have cd := aa.frN bM
   clear bL aa
   refine go_rn [3, 4] [5] [(6, .p 2 0), (26, .v (.agg #[.int .i64 0, .slice A6 ((whole s2).length) c7, .bool (Fld.nul (Fld.mk ab ai aj ak al am ao ac) v (Tree.mk n1 s2 b3 l4 u5)), .slice none 0 0, .slice none 0 0]))] ax aS fun cV aT => ?_
   clear aS
   refine of_op (wpOp_store ax aT (oi := 2) (cs := [.int .i64 0, .slice A6 ((whole s2).length) c7, .bool (Fld.nul (Fld.mk ab ai aj ak al am ao ac) v (Tree.mk n1 s2 b3 l4 u5)), .slice none 0 0, .slice none 0 0]) kz fun cW ce ar bN => ?_)
   clear aT ax
   refine wpOps_nil (then_normal ?_)
   refine wp_ret ?_
   refine block_ret ?_
   refine then_ret ?_
   refine leave bN ar.cells (v := .agg #[.int .i64 0, .slice A6 ((whole s2).length) c7, .bool (Fld.nul (Fld.mk ab ai aj ak al am ao ac) v (Tree.mk n1 s2 b3 l4 u5)), .slice none 0 0, .slice none 0 0]) kz ?_
   exact tree_end ar rfl (((bp.take 32767).move ar.step nilM ar.imm).move (Step.refl _ Nil) nilM immOut) rfl (noTrees _ _) rfl (TagsR.nil _ _) (fitted_8 (by omega))
  ·
   have cg : ab ≠ 9 := by simpa using bn
   refine go_sp [(1, .v (.int .i64 v)), (3, .p 0 0), (5, .p 1 0), (6, .p 2 0), (7, .v (.bool (Fld.nul (Fld.mk ab ai aj ak al am ao ac) v (Tree.mk n1 s2 b3 l4 u5)))), (18, .v (.int .i64 ab)), (27, .v (.bool (ab == 10)))] aa aw fun cX ap => ?_
   clear aw
   refine cond_of ap (b := ab == 10) kz (fun ay => ?_) (fun ay => ?_)
   ·
    have cl : ab = 10 := by simpa using ay
    refine go_seq_region [0, 1, 2, 3, 4, 5, 6] kz ?_
    refine go_rn [0, 1, 2, 3] [4, 5, 6] [(6, .p 2 0), (7, .v (.bool (Fld.nul (Fld.mk ab ai aj ak al am ao ac) v (Tree.mk n1 s2 b3 l4 u5)))), (30, .v (.slice bt ac.length bu)), (31, .v (.int .i64 v)), (32, .v (.agg #[.int .i64 n1, .slice A6 s2.length c7, .bool b3, .slice A8 l4.length c9, .slice bq u5.length br]))] aa ap fun cY aU => ?_
    clear ap
    refine of_op (wpOp_call aU (f := 15) (vs := [.slice bt ac.length bu, .int .i64 v, .agg #[.int .i64 n1, .slice A6 s2.length c7, .bool b3, .slice A8 l4.length c9, .slice bq u5.length br]]) (d := 33) kz Tryz.call15 ( hfit _ _ ac v _ (Tree.mk n1 s2 b3 l4 u5) _ _ ⟨bU, (b8.move aa.step nilM aa.imm), (fun i_ x_ h_ => ((cB i_ x_ h_).move aa.step nilM aa.imm))⟩ hpl hd (ht.move aa.step nilM aa.imm)) ?_)
    rintro e_ cZ ⟨cm, rfl, bO, aA⟩
    have aV := bO.move (Step.refl _ Nil) nilM (aa.laid (G := F) aA)
    obtain ⟨aB, aC, bW, aD, aE, aF, aG, aH, aI, aJ, aK, cq, bP, aL, bQ, bR, bX, bY⟩ := aV.open_
    rw [aL] at aV
    have bZ := bQ.small
    have b0 := bR.small
    rw [aL]
    refine ⟨_, rfl, fun c5 aW => ?_⟩
    have aX := aa.next_nil aA
    have cr := aa.frN aA
    clear aU
    refine of_op (wpOp_alloc aX aW (d := 8) (cs := [.int .i64 0, .slice none 0 0, .bool false, .slice none 0 0, .slice none 0 0]) kz fun da db dc cu cv ae aY aZ => ?_)
    clear aW aX
    refine of_op (wpOp_store aY aZ (oi := 3) (cs := [.int .i64 aB, .slice aF aC.length aG, .bool bW, .slice aH aD.length aI, .slice aJ aE.length aK]) kz fun de af aM ba => ?_)
    clear aZ aY
    refine wpOps_nil (then_normal ?_)
    refine go_seq_region [0, 1, 2] kz ?_
    refine go_rn [0, 1] [2] [(6, .p 2 0), (8, .p 3 0), (34, .v (.bool (Fld.nul (Fld.mk ab ai aj ak al am ao ac) v (Tree.mk n1 s2 b3 l4 u5)))), (35, .p 3 2)] aM ba fun df bd => ?_
    clear ba
    refine of_op (wpOp_store aM bd (oi := 3) (cs := [.int .i64 aB, .slice aF aC.length aG, .bool (Fld.nul (Fld.mk ab ai aj ak al am ao ac) v (Tree.mk n1 s2 b3 l4 u5)), .slice aH aD.length aI, .slice aJ aE.length aK]) kz fun dg ag aN bf => ?_)
    clear bd aM
    refine wpOps_nil (then_normal ?_)
    refine go_seq_region [0, 1] kz ?_
    refine go_rn [0] [1] [(6, .p 2 0), (36, .v (.agg #[.int .i64 aB, .slice aF aC.length aG, .bool (Fld.nul (Fld.mk ab ai aj ak al am ao ac) v (Tree.mk n1 s2 b3 l4 u5)), .slice aH aD.length aI, .slice aJ aE.length aK]))] aN bf fun dh bg => ?_
    clear bf
    refine of_op (wpOp_store aN bg (oi := 2) (cs := [.int .i64 aB, .slice aF aC.length aG, .bool (Fld.nul (Fld.mk ab ai aj ak al am ao ac) v (Tree.mk n1 s2 b3 l4 u5)), .slice aH aD.length aI, .slice aJ aE.length aK]) kz fun di ah bh bS => ?_)
    clear bg aN
    refine wpOps_nil (then_normal ?_)
    refine wp_ret ?_
    refine block_ret ?_
    refine then_ret ?_
    refine leave bS bh.cells (v := .agg #[.int .i64 aB, .slice aF aC.length aG, .bool (Fld.nul (Fld.mk ab ai aj ak al am ao ac) v (Tree.mk n1 s2 b3 l4 u5)), .slice aH aD.length aI, .slice aJ aE.length aK]) kz ?_
    exact tree_end bh rfl ((bQ.move (((ae.trans af).trans ag).trans ah).step immM (((ae.trans af).trans ag).trans ah).to').move (Step.refl _ Nil) nilM immOut) rfl ⟨(bR.move (((ae.trans af).trans ag).trans ah).step immM (((ae.trans af).trans ag).trans ah).to').move (Step.refl _ Nil) nilM immOut, fun i_ x_ h_ => ((fun i_ x_ h_ => ((bX i_ x_ h_).move (((ae.trans af).trans ag).trans ah).step immM (((ae.trans af).trans ag).trans ah).to')) i_ x_ h_).move (Step.refl _ Nil) nilM immOut⟩ rfl ((bY.move (((ae.trans af).trans ag).trans ah).step immM (((ae.trans af).trans ag).trans ah).to').move (Step.refl _ Nil) nilM immOut) (fitted_10 (by assumption) (by assumption) (by assumption) bP)
   ·
    have cw : ab ≠ 10 := by simpa using ay
    refine go_sp [(1, .v (.int .i64 v)), (3, .p 0 0), (5, .p 1 0), (6, .p 2 0), (7, .v (.bool (Fld.nul (Fld.mk ab ai aj ak al am ao ac) v (Tree.mk n1 s2 b3 l4 u5)))), (37, .v (.bool (ab == 11)))] aa ap fun dj aO => ?_
    clear ap
    refine cond_false aO (b := ab == 11) kz (by simpa using bj) ?_
    refine wp_skip ?_
    refine block_normal ?_
    refine then_normal ?_
    refine go_seq_region [0, 1, 2, 3, 4, 5] kz ?_
    refine go_rn [0, 1, 2, 3, 4] [5] [(6, .p 2 0), (81, .v (.agg #[.int .i64 n1, .slice A6 s2.length c7, .bool false, .slice none 0 0, .slice none 0 0]))] aa aO fun dl bi => ?_
    clear aO
    refine of_op (wpOp_store aa bi (oi := 2) (cs := [.int .i64 n1, .slice A6 s2.length c7, .bool false, .slice none 0 0, .slice none 0 0]) kz fun dp cy au bT => ?_)
    clear bi
    refine wpOps_nil (then_normal ?_)
    refine wp_ret ?_
    refine leave bT au.cells (v := .agg #[.int .i64 n1, .slice A6 s2.length c7, .bool false, .slice none 0 0, .slice none 0 0]) kz ?_
    exact tree_end au rfl ((bp.move au.step nilM au.imm).move (Step.refl _ Nil) nilM immOut) rfl (noTrees _ _) rfl (TagsR.nil _ _) (fitted_else (by assumption) (by assumption) (by assumption))
theorem sFitted11 {d : Nat} (hfit : FitOK d) (cf : List Value) (f : Fld) (v : Int) (ct : List Value) (t : Tree) (w : World) (F : Nat → Nat → Prop) (hf : FldR w F cf f) (hpl : f.plain) (hd : depths f.sub ≤ d) (aK : f.kind = 11) (ht : TreeR w F ct t) :
  Calls Tryz.prog 36 #[.agg cf.toArray, .int .i64 v, .agg ct.toArray] w (GivesT w F (fittedW (fitT v d) v f t)) := by
 obtain ⟨n1, s2, b3, l4, u5, A6, c7, A8, c9, bD, bE, ky, rfl, rfl, kA, gh, im, nm⟩ := ht.open_
 have ja := kA.small
 have jb := gh.small
 obtain ⟨ai, ac, ae, al, aj, af, aa, ab, ag, ah, gi, rfl, rfl, il, io⟩ := hf.open_
 have jc := il.small
 have aK : ai = 11 := aK
 have hof : aa ≠ 11 := hpl.1
 refine enter (n := 82) Tryz.func36 rfl Tryz.ntmps36 kz fun a hE => ?_
 have hW := WOk.start w Nil
 refine go_seq_region [0, 1, 2] kz ?_
 refine of_op (wpOp_box hW hE (d := 3) (cs := [.int .i64 ai, .int .i64 ac, .int .i64 ae, .int .i64 al, .int .i64 aj, .int .i64 af, .int .i64 aa, .slice ag ab.length ah]) kz fun dW np nr kB kC kD gw gx => ?_)
 clear hE hW
 refine of_op (wpOp_box gw gx (d := 5) (cs := [.int .i64 n1, .slice A6 s2.length c7, .bool b3, .slice A8 l4.length c9, .slice bD u5.length bE]) kz fun dX ns nt kE kF kG gy gz => ?_)
 clear gx gw
 refine of_op (wpOp_alloc gy gz (d := 6) (cs := [.int .i64 0, .slice none 0 0, .bool false, .slice none 0 0, .slice none 0 0]) kz fun dY nu nv kH kI kJ dZ gA => ?_)
 clear gz gy
 refine wpOps_nil (then_normal ?_)
 refine go_seq_region [0, 1, 2, 3, 4] kz ?_
 refine go_rn [0, 1, 2] [3, 4] [(1, .v (.int .i64 v)), (3, .p 0 0), (5, .p 1 0), (6, .p 2 0), (13, .v (.agg #[.int .i64 ai, .int .i64 ac, .int .i64 ae, .int .i64 al, .int .i64 aj, .int .i64 af, .int .i64 aa, .slice ag ab.length ah])), (14, .v (.int .i64 v)), (15, .v (.agg #[.int .i64 n1, .slice A6 s2.length c7, .bool b3, .slice A8 l4.length c9, .slice bD u5.length bE]))] dZ gA fun nw gB => ?_
 clear gA
 refine of_op (wpOp_call gB (f := 87) (vs := [.agg #[.int .i64 ai, .int .i64 ac, .int .i64 ae, .int .i64 al, .int .i64 aj, .int .i64 af, .int .i64 aa, .slice ag ab.length ah], .int .i64 v, .agg #[.int .i64 n1, .slice A6 s2.length c7, .bool b3, .slice A8 l4.length c9, .slice bD u5.length bE]]) (d := 16) kz Tryz.call87 (sNull ai ac ae al aj af aa ab _ _ v n1 s2 b3 l4 u5 _ _ _ _ _ _ _) ?_)
 rintro e_ nx ⟨rfl, gC⟩
 refine ⟨_, rfl, fun ny gD => ?_⟩
 have ak := dZ.next_nil gC
 have kK := dZ.frN gC
 clear gB dZ
 refine go_rn [4] [] [(1, .v (.int .i64 v)), (3, .p 0 0), (5, .p 1 0), (6, .p 2 0), (7, .v (.bool (Fld.nul (Fld.mk ai ac ae al aj af aa ab) v (Tree.mk n1 s2 b3 l4 u5))))] ak gD fun nz gE => ?_
 clear gD
 refine wpOps_nil (then_normal ?_)
 refine wp_seq ?_
 refine go_sp [(1, .v (.int .i64 v)), (3, .p 0 0), (5, .p 1 0), (6, .p 2 0), (7, .v (.bool (Fld.nul (Fld.mk ai ac ae al aj af aa ab) v (Tree.mk n1 s2 b3 l4 u5)))), (18, .v (.int .i64 ai))] ak gE fun nA gF => ?_
 clear gE
 refine wp_block ?_
 refine wp_seq ?_
 refine go_sp [(1, .v (.int .i64 v)), (3, .p 0 0), (5, .p 1 0), (6, .p 2 0), (7, .v (.bool (Fld.nul (Fld.mk ai ac ae al aj af aa ab) v (Tree.mk n1 s2 b3 l4 u5)))), (18, .v (.int .i64 ai)), (19, .v (.bool (ai == 8)))] ak gF fun nB gj => ?_
 clear gF
 refine cond_false gj (b := ai == 8) kz (by simp [aK]) ?_
 refine go_region [0, 1] kz ?_
 refine go_rn [0, 1] [] [(1, .v (.int .i64 v)), (3, .p 0 0), (5, .p 1 0), (6, .p 2 0), (7, .v (.bool (Fld.nul (Fld.mk ai ac ae al aj af aa ab) v (Tree.mk n1 s2 b3 l4 u5)))), (18, .v (.int .i64 ai)), (19, .v (.bool (ai == 9)))] ak gj fun nC gk => ?_
 clear gj
 refine wpOps_nil (then_normal ?_)
 refine cond_false gk (b := ai == 9) kz (by simp [aK]) ?_
 refine go_sp [(1, .v (.int .i64 v)), (3, .p 0 0), (5, .p 1 0), (6, .p 2 0), (7, .v (.bool (Fld.nul (Fld.mk ai ac ae al aj af aa ab) v (Tree.mk n1 s2 b3 l4 u5)))), (18, .v (.int .i64 ai)), (27, .v (.bool (ai == 10)))] ak gk fun nD gl => ?_
 clear gk
 refine cond_false gl (b := ai == 10) kz (by simp [aK]) ?_
 refine go_sp [(1, .v (.int .i64 v)), (3, .p 0 0), (5, .p 1 0), (6, .p 2 0), (7, .v (.bool (Fld.nul (Fld.mk ai ac ae al aj af aa ab) v (Tree.mk n1 s2 b3 l4 u5)))), (37, .v (.bool (ai == 11)))] ak gl fun nE gm => ?_
 clear gl
 refine cond_true gm (b := ai == 11) kz (by simpa using aK) ?_
 refine go_seq_region [0, 1, 2, 3, 4, 5, 6, 7, 8, 9, 10, 11, 12, 13, 14] kz ?_
 refine go_rn [0, 1] [2, 3, 4, 5, 6, 7, 8, 9, 10, 11, 12, 13, 14] [(1, .v (.int .i64 v)), (3, .p 0 0), (5, .p 1 0), (6, .p 2 0), (40, .v (.bool (Fld.nul (Fld.mk ai ac ae al aj af aa ab) v (Tree.mk n1 s2 b3 l4 u5))))] ak gm fun nF d4 => ?_
 clear gm
 refine (Bool.eq_false_or_eq_true (Fld.nul (Fld.mk ai ac ae al aj af aa ab) v (Tree.mk n1 s2 b3 l4 u5))).elim (fun bh => ?_) (fun bh => ?_)
 ·
  have gG := d4.cast (env' := [(1, .v (.int .i64 v)), (3, .p 0 0), (5, .p 1 0), (6, .p 2 0), (40, .v (.bool true))]) (by rw [bh])
  clear d4
  refine go_rn [2, 3, 4, 5, 6, 7, 8, 9, 10, 11, 12] [13, 14] [(1, .v (.int .i64 v)), (3, .p 0 0), (5, .p 1 0), (6, .p 2 0), (51, .v (.agg #[.int .i64 0, .slice none 0 0, .bool true, .slice none 0 0, .slice none 0 0]))] ak gG fun nG gH => ?_
  clear gG
  refine of_op (wpOp_alloc ak gH (d := 9) (cs := [.int .i64 0, .slice none 0 0, .bool false, .slice none 0 0, .slice none 0 0]) kz fun ip nH nI kL kM kN gI gJ => ?_)
  clear gH ak
  refine of_op (wpOp_store gI gJ (oi := 3) (cs := [.int .i64 0, .slice none 0 0, .bool true, .slice none 0 0, .slice none 0 0]) kz fun nJ kO gn gK => ?_)
  clear gJ gI
  refine wpOps_nil (then_normal ?_)
  refine go_seq_region [0, 1, 2] kz ?_
  refine go_rn [0] [1, 2] [(1, .v (.int .i64 v)), (3, .p 0 0), (5, .p 1 0), (6, .p 2 0), (9, .p 3 0), (52, .v (.agg #[.int .i64 ai, .int .i64 ac, .int .i64 ae, .int .i64 al, .int .i64 aj, .int .i64 af, .int .i64 aa, .slice ag ab.length ah]))] gn gK fun nK d5 => ?_
  clear gK
  refine of_op (wpOp_alloc gn d5 (d := 10) (cs := [.int .i64 0, .int .i64 0, .int .i64 0, .int .i64 0, .int .i64 0, .int .i64 0, .int .i64 0, .slice none 0 0]) kz fun gp kP kQ jd je jf d6 d7 => ?_)
  clear d5 gn
  refine of_op (wpOp_store d6 d7 (oi := 4) (cs := [.int .i64 ai, .int .i64 ac, .int .i64 ae, .int .i64 al, .int .i64 aj, .int .i64 af, .int .i64 aa, .slice ag ab.length ah]) kz fun kR jg bF d8 => ?_)
  clear d7 d6
  refine wpOps_nil (then_normal ?_)
  refine go_seq_region [0, 1, 2, 3, 4, 5, 6, 7] kz ?_
  refine go_rn [0, 1, 2] [3, 4, 5, 6, 7] [(1, .v (.int .i64 v)), (5, .p 1 0), (6, .p 2 0), (9, .p 3 0), (10, .p 4 0), (54, .v (.int .i64 aa)), (55, .p 4 0)] bF d8 fun kS d9 => ?_
  clear d8
  refine of_op (wpOp_store bF d9 (oi := 4) (cs := [.int .i64 aa, .int .i64 ac, .int .i64 ae, .int .i64 al, .int .i64 aj, .int .i64 af, .int .i64 aa, .slice ag ab.length ah]) kz fun kT jh bG ea => ?_)
  clear d9 bF
  refine go_rn [4] [5, 6, 7] [(1, .v (.int .i64 v)), (5, .p 1 0), (6, .p 2 0), (9, .p 3 0), (10, .p 4 0), (56, .p 4 3)] bG ea fun kU eb => ?_
  clear ea
  refine of_op (wpOp_store bG eb (oi := 4) (cs := [.int .i64 aa, .int .i64 ac, .int .i64 ae, .int .i64 (-1), .int .i64 aj, .int .i64 af, .int .i64 aa, .slice ag ab.length ah]) kz fun kV ji bH ec => ?_)
  clear eb bG
  refine go_rn [6] [7] [(1, .v (.int .i64 v)), (5, .p 1 0), (6, .p 2 0), (9, .p 3 0), (10, .p 4 0), (57, .p 4 4)] bH ec fun kW ee => ?_
  clear ec
  refine of_op (wpOp_store bH ee (oi := 4) (cs := [.int .i64 aa, .int .i64 ac, .int .i64 ae, .int .i64 (-1), .int .i64 (-1), .int .i64 af, .int .i64 aa, .slice ag ab.length ah]) kz fun kX jj aB ef => ?_)
  clear ee bH
  refine wpOps_nil (then_normal ?_)
  refine wp_seq ?_
  refine go_seq_region [0, 1, 2, 3, 4] kz ?_
  refine go_rn [0, 1] [2, 3, 4] [(1, .v (.int .i64 v)), (6, .p 2 0), (9, .p 3 0), (10, .p 4 0), (59, .v (.slice A8 l4.length c9))] aB ef fun kY eg => ?_
  clear ef
  refine of_op (wpOp_call eg (f := 88) (vs := [.slice A8 l4.length c9]) (d := 60) kz Tryz.call88 (sThings _ _ l4 (gh.move aB.step nilM aB.imm).le _) ?_)
  rintro e_ kZ ⟨rfl, eh⟩
  refine ⟨_, rfl, fun k5 ei => ?_⟩
  have ba := aB.next_nil eh
  have jk := aB.frN eh
  clear eg aB
  refine go_rn [3, 4] [] [(1, .v (.int .i64 v)), (6, .p 2 0), (9, .p 3 0), (10, .p 4 0), (60, .v (.slice A8 ((things l4).length) c9)), (61, .v (.int .i64 (((things l4).length : Nat) : Int))), (62, .v (.int .i64 0))] ba ei fun k6 ej => ?_
  clear ei
  refine wpOps_nil (then_normal ?_)
  refine wp_block ?_
  have ek := ba.addNil 26 5
  have jl := ba.frNil 26 5
  clear ba
  have hsm3 : (things l4).length ≤ 32767 := things_le _
  refine wp_loop_ghost (fun n_ a_ w_ => ∃ (k : Nat) (A_ : Option Addr) (c_ : Nat) (xs : List Value) (css : List (List Value)), n_ = (things l4).length - k ∧ k ≤ (things l4).length ∧ (Trees w_ (Imm F w w_ [⟨dW, 0, [.int .i64 ai, .int .i64 ac, .int .i64 ae, .int .i64 al, .int .i64 aj, .int .i64 af, .int .i64 aa, .slice ag ab.length ah], true⟩, ⟨dX, 0, [.int .i64 n1, .slice A6 s2.length c7, .bool b3, .slice A8 l4.length c9, .slice bD u5.length bE], true⟩, ⟨dY, 0, [.int .i64 0, .slice none 0 0, .bool false, .slice none 0 0, .slice none 0 0], true⟩, ⟨ip, 0, [.int .i64 0, .slice none 0 0, .bool true, .slice A_ k c_, .slice none 0 0], true⟩, ⟨gp, 0, [.int .i64 aa, .int .i64 ac, .int .i64 ae, .int .i64 (-1), .int .i64 (-1), .int .i64 af, .int .i64 aa, .slice ag ab.length ah], true⟩] [⟨A_, c_, 26, 5, k, xs⟩]) xs ((fitL (fitT v d) v (Fld.mk aa ac ae (-1) (-1) af aa ab) l4).take k) css) ∧ LInv ek 82 [⟨dW, 0, [.int .i64 ai, .int .i64 ac, .int .i64 ae, .int .i64 al, .int .i64 aj, .int .i64 af, .int .i64 aa, .slice ag ab.length ah], true⟩, ⟨dX, 0, [.int .i64 n1, .slice A6 s2.length c7, .bool b3, .slice A8 l4.length c9, .slice bD u5.length bE], true⟩, ⟨dY, 0, [.int .i64 0, .slice none 0 0, .bool false, .slice none 0 0, .slice none 0 0], true⟩, ⟨ip, 0, [.int .i64 0, .slice none 0 0, .bool true, .slice A_ k c_, .slice none 0 0], true⟩, ⟨gp, 0, [.int .i64 aa, .int .i64 ac, .int .i64 ae, .int .i64 (-1), .int .i64 (-1), .int .i64 af, .int .i64 aa, .slice ag ab.length ah], true⟩] [⟨A_, c_, 26, 5, k, xs⟩] [(1, .v (.int .i64 v)), (6, .p 2 0), (9, .p 3 0), (10, .p 4 0), (60, .v (.slice A8 ((things l4).length) c9)), (61, .v (.int .i64 (((things l4).length : Nat) : Int))), (62, .v (.int .i64 ((k : Nat) : Int)))] a_ w_) ((things l4).length) ⟨0, none, 0, [], [], by omega, by omega, Trees.nil _ _, ej.pk, ek, Fr.refl _ _ _⟩ ?_
  clear ej
  rintro k7 k8 k9 ⟨k, A_, c_, xs, css, jm, jn, hT, em, ar, gL⟩
  refine go_sp [(1, .v (.int .i64 v)), (6, .p 2 0), (9, .p 3 0), (10, .p 4 0), (60, .v (.slice A8 ((things l4).length) c9)), (61, .v (.int .i64 (((things l4).length : Nat) : Int))), (62, .v (.int .i64 ((k : Nat) : Int))), (63, .v (.bool (decide (((k : Nat) : Int) < (((things l4).length : Nat) : Int)))))] ar em fun la aL => ?_
  clear em
  refine wp_seq ?_
  refine cond_of aL (b := decide (((k : Nat) : Int) < (((things l4).length : Nat) : Int))) kz (fun bI => ?_) (fun bI => ?_)
  ·
   have jo := of_decide_eq_true bI
   refine wp_skip ?_
   refine then_normal ?_
   refine wp_seq ?_
   refine wp_block ?_
   refine go_seq_region [0, 1, 2, 3] kz ?_
   obtain ⟨iq, ir, gM, jp, bJ⟩ := Slots.get (things_slots gh) (i := k) (by omega)
   obtain ⟨iu, eo⟩ : ∃ x, (things l4)[k]? = some x := ⟨_, List.getElem?_eq_getElem (by omega)⟩
   have bK := (things_each im) k iu eo
   obtain ⟨bi, bj, bk, bn, bp, bL, bM, bN, bO, bP, bQ, jq, rfl, bR, iv, iw, lb, lc⟩ := bK.open_
   rw [bR] at bK
   have ix := iv.small
   have iy := iw.small
   rw [bR] at bJ
   refine of_op (wpOp_index aL (t := 23) (A := A8) (m := ((things l4).length)) (q := ((k : Nat) : Int)) (d := 64) kz (e := 26) (size := 5) (bytes := 88) kz gM rfl (by omega) fun ld ep => ?_)
   clear aL
   refine of_op (wpOp_load ep (t := 26) (b := iq) (o := ir + k * 5) (d := 65) kz (cs := [.int .i64 bi, .slice bL bj.length bM, .bool bk, .slice bN bn.length bO, .slice bP bp.length bQ]) (v := .agg #[.int .i64 bi, .slice bL bj.length bM, .bool bk, .slice bN bn.length bO, .slice bP bp.length bQ]) kz (AtF.move bJ ar.step nilM keepF).at_ fun lf eu => ?_)
   clear ep
   refine of_op (wpOp_alloc ar eu (d := 12) (cs := [.int .i64 0, .slice none 0 0, .bool false, .slice none 0 0, .slice none 0 0]) kz fun lg lh li jr js bS ev ew => ?_)
   clear eu ar
   refine of_op (wpOp_store ev ew (oi := 5) (cs := [.int .i64 bi, .slice bL bj.length bM, .bool bk, .slice bN bn.length bO, .slice bP bp.length bQ]) kz fun lj bT ey ez => ?_)
   clear ew ev
   refine wpOps_nil (then_normal ?_)
   refine go_drawK 9 kz ey fun lm bU am gN => ?_
   clear ey
   refine go_rnD [0, 1, 2, 3, 4] [(1, .v (.int .i64 v)), (6, .p 2 0), (9, .p 3 0), (10, .p 4 0), (60, .v (.slice A8 ((things l4).length) c9)), (61, .v (.int .i64 (((things l4).length : Nat) : Int))), (62, .v (.int .i64 ((k : Nat) : Int))), (67, .v (.slice A_ k c_)), (68, .v (.agg #[.int .i64 aa, .int .i64 ac, .int .i64 ae, .int .i64 (-1), .int .i64 (-1), .int .i64 af, .int .i64 aa, .slice ag ab.length ah])), (69, .v (.int .i64 v)), (70, .v (.agg #[.int .i64 bi, .slice bL bj.length bM, .bool bk, .slice bN bn.length bO, .slice bP bp.length bQ]))] 5 (panicFree_block (panicFree_then (panicFree_then (panicFree_block (panicFree_then (panicFree_block (panicFree_then panicFree_body))))))) (fun _ h => h.cells) gN ez fun ln eA => ?_
   clear ez
   refine anyC_op (i := 5) kz (wpOp_call eA (f := 36) (vs := [.agg #[.int .i64 aa, .int .i64 ac, .int .i64 ae, .int .i64 (-1), .int .i64 (-1), .int .i64 af, .int .i64 aa, .slice ag ab.length ah], .int .i64 v, .agg #[.int .i64 bi, .slice bL bj.length bM, .bool bk, .slice bN bn.length bO, .slice bP bp.length bQ]]) (d := 71) kz Tryz.call36 ( sFitted0 hfit _ (Fld.mk aa ac ae (-1) (-1) af aa ab) v _ (Tree.mk bi bj bk bn bp) _ _ (FldR.mk (l := ab) gi (il.move am.step nilM am.imm) (fun i_ x_ h_ => ((io i_ x_ h_).move am.step nilM am.imm))) hpl.2 hd hof (bK.move am.step nilM am.imm)) ?_)
   rintro e_ lp ⟨jt, rfl, gO, bV⟩
   have bW := gO.move (Step.refl _ Nil) nilM (am.laid (G := F) bV)
   obtain ⟨bX, bY, bZ, b0, b5, b6, b8, ca, cb, cc, cd, ju, jv, ce, iz, iA, lq, lr⟩ := bW.open_
   rw [ce] at bW
   have iB := iz.small
   have iC := iA.small
   rw [ce]
   refine ⟨_, rfl, fun ls eB => ?_⟩
   have cg := am.next_nil bV
   have aC := am.frN bV
   clear eA
   have gP := TT.ofW aC cg
   refine ⟨fun _ => gP, ?_⟩
   refine anyC_op (i := 6) kz (wpOp_lit cg eB (e := 26) (size := 5) (len := 1) (cs := [.int .i64 bX, .slice b6 bY.length b8, .bool bZ, .slice ca b0.length cb, .slice cc b5.length cd]) (d := 72) kz kz fun iD lu lv jw jx au aM eC => ?_)
   clear eB cg
   have gQ := TT.ofW (aC.trans au) aM
   refine ⟨fun _ => gQ, ?_⟩
   refine anyC_op (i := 7) kz (wpOp_append aM eC (k := 0) (d := 73) (t := 23) (e := 26) (size := 5) (bytes := 88) (A := A_) (As := (some ⟨iD, 0, none⟩)) (m0 := k) (c := c_) (m := 1) (cs := 1) (xs := xs) (news := [.int .i64 bX, .slice b6 bY.length b8, .bool bZ, .slice ca b0.length cb, .slice cc b5.length cd]) kz kz rfl (own_src (aM.own 1 _ rfl) (allOne_ok kz)) (own_cap (aM.own 1 _ rfl)) (by omega) fun cl cm lw lx aD cq eD => ?_)
   clear eC aM
   have eE := TT.ofW ((aC.trans au).trans aD) cq
   refine ⟨fun _ => eE, ?_⟩
   refine go_rnD [8] [(1, .v (.int .i64 v)), (6, .p 2 0), (9, .p 3 0), (10, .p 4 0), (60, .v (.slice A8 ((things l4).length) c9)), (61, .v (.int .i64 (((things l4).length : Nat) : Int))), (62, .v (.int .i64 ((k : Nat) : Int))), (73, .v (.slice cl (k + 1) cm)), (74, .p 3 3)] 1 (panicFree_block (panicFree_then (panicFree_then (panicFree_block (panicFree_then (panicFree_block (panicFree_then panicFree_body))))))) (fun _ h => h.cells) eE eD fun ly eF => ?_
   clear eD
   refine anyC_op (i := 9) kz (wpOp_store cq eF (oi := 3) (cs := [.int .i64 0, .slice none 0 0, .bool true, .slice cl (k + 1) cm, .slice none 0 0]) kz fun lz aN eG eH => ?_)
   clear eF cq
   refine ⟨fun h => absurd rfl h, ?_⟩
   refine anyC_done kz ?_ _
   refine block_normal ?_
   refine then_normal ?_
   refine go_region [0, 1] kz ?_
   refine go_rn [0, 1] [] [(1, .v (.int .i64 v)), (6, .p 2 0), (9, .p 3 0), (10, .p 4 0), (60, .v (.slice A8 ((things l4).length) c9)), (61, .v (.int .i64 (((things l4).length : Nat) : Int))), (62, .v (.int .i64 (IntKind.i64.wrap (((k : Nat) : Int) + 1))))] eG eH fun lA gR => ?_
   clear eH
   refine wpOps_nil (then_normal ?_)
   obtain ⟨eI, gS, aO⟩ := eG.cutB gR 5 [⟨dW, 0, [.int .i64 ai, .int .i64 ac, .int .i64 ae, .int .i64 al, .int .i64 aj, .int .i64 af, .int .i64 aa, .slice ag ab.length ah], true⟩, ⟨dX, 0, [.int .i64 n1, .slice A6 s2.length c7, .bool b3, .slice A8 l4.length c9, .slice bD u5.length bE], true⟩, ⟨dY, 0, [.int .i64 0, .slice none 0 0, .bool false, .slice none 0 0, .slice none 0 0], true⟩, ⟨ip, 0, [.int .i64 0, .slice none 0 0, .bool true, .slice cl (k + 1) cm, .slice none 0 0], true⟩, ⟨gp, 0, [.int .i64 aa, .int .i64 ac, .int .i64 ae, .int .i64 (-1), .int .i64 (-1), .int .i64 af, .int .i64 aa, .slice ag ab.length ah], true⟩] [(1, .v (.int .i64 v)), (6, .p 2 0), (9, .p 3 0), (10, .p 4 0), (60, .v (.slice A8 ((things l4).length) c9)), (61, .v (.int .i64 (((things l4).length : Nat) : Int))), (62, .v (.int .i64 (IntKind.i64.wrap (((k : Nat) : Int) + 1))))]
   obtain ⟨gT, aP⟩ := gS.cutR 1 [⟨cl, cm, 26, 5, k + 1, xs ++ [.int .i64 bX, .slice b6 bY.length b8, .bool bZ, .slice ca b0.length cb, .slice cc b5.length cd]⟩]
   have gU : IntKind.i64.wrap (((k : Nat) : Int) + 1) = ((k + 1 : Nat) : Int) := wrap_succ (by omega)
   rw [gU] at eI
   exact ⟨(things l4).length - (k + 1), by omega, k + 1, cl, cm, xs ++ [Value.int .i64 bX, .slice b6 bY.length b8, .bool bZ, .slice ca b0.length cb, .slice cc b5.length cd], (css ++ [[Value.int .i64 bX, .slice b6 bY.length b8, .bool bZ, .slice ca b0.length cb, .slice cc b5.length cd]]), rfl, by omega, by rw [take_succ_of (fitL_get (p := fitT v d) (v := v) (f := (Fld.mk aa ac ae (-1) (-1) af aa ab)) eo)]; exact (hT.move ((((((((bS.trans bT).trans bU).trans aC).trans au).trans aD).trans aN).trans aO).trans aP).step immM ((((((((bS.trans bT).trans bU).trans aC).trans au).trans aD).trans aN).trans aO).trans aP).to').snoc (bW.move ((((au.trans aD).trans aN).trans aO).trans aP).step immM ((((au.trans aD).trans aN).trans aO).trans aP).to'), eI.pk, gT, (((((((((gL.trans bS).trans bT).trans bU).trans aC).trans au).trans aD).trans aN).trans aO).trans aP)⟩
  ·
   have jy := of_decide_eq_false bI
   refine wp_exit ?_
   refine then_exit ?_
   refine then_exit ?_
   refine block_exit ?_
   refine then_normal ?_
   refine go_seq_region [0, 1] kz ?_
   refine go_rn [0] [1] [(6, .p 2 0), (76, .v (.agg #[.int .i64 0, .slice none 0 0, .bool true, .slice A_ k c_, .slice none 0 0]))] ar aL fun lB eJ => ?_
   clear aL
   refine of_op (wpOp_store ar eJ (oi := 2) (cs := [.int .i64 0, .slice none 0 0, .bool true, .slice A_ k c_, .slice none 0 0]) kz fun lC eK cr gV => ?_)
   clear eJ ar
   refine wpOps_nil (then_normal ?_)
   refine wp_ret ?_
   refine block_ret ?_
   refine then_ret ?_
   refine leave gV cr.cells (v := .agg #[.int .i64 0, .slice none 0 0, .bool true, .slice A_ k c_, .slice none 0 0]) kz ?_
   have hk0 : k = (fitL (fitT v d) v (Fld.mk aa ac ae (-1) (-1) af aa ab) l4).length := by rw [fitL_len]; omega
   have hT' := (hT.move eK.step immM eK.to')
   rw [show (fitL (fitT v d) v (Fld.mk aa ac ae (-1) (-1) af aa ab) l4).take k = (fitL (fitT v d) v (Fld.mk aa ac ae (-1) (-1) af aa ab) l4) by rw [hk0, List.take_length]] at hT'
   exact tree_end cr rfl (Octs.nil _ _) hk0 (trees_fp cr (k := 0) rfl hT' hk0 (by rw [fitL_len]; omega)) rfl (TagsR.nil _ _) (fittedW_11 aK (by simp only [bh]; try simp))
 ·
  have eL := d4.cast (env' := [(1, .v (.int .i64 v)), (3, .p 0 0), (5, .p 1 0), (6, .p 2 0), (40, .v (.bool false))]) (by rw [bh])
  clear d4
  refine go_rn [2, 3, 4, 5] [6, 7, 8, 9, 10, 11, 12, 13, 14] [(1, .v (.int .i64 v)), (3, .p 0 0), (5, .p 1 0), (6, .p 2 0), (40, .v (.bool false)), (44, .v (.bool (decide (aj ≥ 0))))] ak eL fun lD bd => ?_
  clear eL
  refine (Bool.eq_false_or_eq_true (decide (aj ≥ 0))).elim (fun av => ?_) (fun av => ?_)
  ·
   have jz := of_decide_eq_true av
   have eM := bd.cast (env' := [(1, .v (.int .i64 v)), (3, .p 0 0), (5, .p 1 0), (6, .p 2 0), (40, .v (.bool false)), (44, .v (.bool true))]) (by rw [av])
   clear bd
   refine go_rn [6, 7, 8, 9, 10, 11, 12] [13, 14] [(1, .v (.int .i64 v)), (3, .p 0 0), (5, .p 1 0), (6, .p 2 0), (51, .v (.agg #[.int .i64 0, .slice none 0 0, .bool (((l4.length : Nat) : Int) == 0), .slice none 0 0, .slice none 0 0]))] ak eM fun lE eN => ?_
   clear eM
   refine of_op (wpOp_alloc ak eN (d := 9) (cs := [.int .i64 0, .slice none 0 0, .bool false, .slice none 0 0, .slice none 0 0]) kz fun gq lF lG jA jB jC eO eP => ?_)
   clear eN ak
   refine of_op (wpOp_store eO eP (oi := 3) (cs := [.int .i64 0, .slice none 0 0, .bool (((l4.length : Nat) : Int) == 0), .slice none 0 0, .slice none 0 0]) kz fun lH jD cu eQ => ?_)
   clear eP eO
   refine wpOps_nil (then_normal ?_)
   refine go_seq_region [0, 1, 2] kz ?_
   refine go_rn [0] [1, 2] [(1, .v (.int .i64 v)), (3, .p 0 0), (5, .p 1 0), (6, .p 2 0), (9, .p 3 0), (52, .v (.agg #[.int .i64 ai, .int .i64 ac, .int .i64 ae, .int .i64 al, .int .i64 aj, .int .i64 af, .int .i64 aa, .slice ag ab.length ah]))] cu eQ fun lI eR => ?_
   clear eQ
   refine of_op (wpOp_alloc cu eR (d := 10) (cs := [.int .i64 0, .int .i64 0, .int .i64 0, .int .i64 0, .int .i64 0, .int .i64 0, .int .i64 0, .slice none 0 0]) kz fun gt lJ lK jE jF jG eS eT => ?_)
   clear eR cu
   refine of_op (wpOp_store eS eT (oi := 4) (cs := [.int .i64 ai, .int .i64 ac, .int .i64 ae, .int .i64 al, .int .i64 aj, .int .i64 af, .int .i64 aa, .slice ag ab.length ah]) kz fun lL jH cv eU => ?_)
   clear eT eS
   refine wpOps_nil (then_normal ?_)
   refine go_seq_region [0, 1, 2, 3, 4, 5, 6, 7] kz ?_
   refine go_rn [0, 1, 2] [3, 4, 5, 6, 7] [(1, .v (.int .i64 v)), (5, .p 1 0), (6, .p 2 0), (9, .p 3 0), (10, .p 4 0), (54, .v (.int .i64 aa)), (55, .p 4 0)] cv eU fun lM eV => ?_
   clear eU
   refine of_op (wpOp_store cv eV (oi := 4) (cs := [.int .i64 aa, .int .i64 ac, .int .i64 ae, .int .i64 al, .int .i64 aj, .int .i64 af, .int .i64 aa, .slice ag ab.length ah]) kz fun lN jI cw eW => ?_)
   clear eV cv
   refine go_rn [4] [5, 6, 7] [(1, .v (.int .i64 v)), (5, .p 1 0), (6, .p 2 0), (9, .p 3 0), (10, .p 4 0), (56, .p 4 3)] cw eW fun lO eX => ?_
   clear eW
   refine of_op (wpOp_store cw eX (oi := 4) (cs := [.int .i64 aa, .int .i64 ac, .int .i64 ae, .int .i64 (-1), .int .i64 aj, .int .i64 af, .int .i64 aa, .slice ag ab.length ah]) kz fun lP jJ cy eY => ?_)
   clear eX cw
   refine go_rn [6] [7] [(1, .v (.int .i64 v)), (5, .p 1 0), (6, .p 2 0), (9, .p 3 0), (10, .p 4 0), (57, .p 4 4)] cy eY fun lQ eZ => ?_
   clear eY
   refine of_op (wpOp_store cy eZ (oi := 4) (cs := [.int .i64 aa, .int .i64 ac, .int .i64 ae, .int .i64 (-1), .int .i64 (-1), .int .i64 af, .int .i64 aa, .slice ag ab.length ah]) kz fun lR jK aE e5 => ?_)
   clear eZ cy
   refine wpOps_nil (then_normal ?_)
   refine wp_seq ?_
   refine go_seq_region [0, 1, 2, 3, 4] kz ?_
   refine go_rn [0, 1] [2, 3, 4] [(1, .v (.int .i64 v)), (6, .p 2 0), (9, .p 3 0), (10, .p 4 0), (59, .v (.slice A8 l4.length c9))] aE e5 fun lS e6 => ?_
   clear e5
   refine of_op (wpOp_call e6 (f := 88) (vs := [.slice A8 l4.length c9]) (d := 60) kz Tryz.call88 (sThings _ _ l4 (gh.move aE.step nilM aE.imm).le _) ?_)
   rintro e_ lT ⟨rfl, e7⟩
   refine ⟨_, rfl, fun lU e9 => ?_⟩
   have bf := aE.next_nil e7
   have jL := aE.frN e7
   clear e6 aE
   refine go_rn [3, 4] [] [(1, .v (.int .i64 v)), (6, .p 2 0), (9, .p 3 0), (10, .p 4 0), (60, .v (.slice A8 ((things l4).length) c9)), (61, .v (.int .i64 (((things l4).length : Nat) : Int))), (62, .v (.int .i64 0))] bf e9 fun lV fa => ?_
   clear e9
   refine wpOps_nil (then_normal ?_)
   refine wp_block ?_
   have fb := bf.addNil 26 5
   have jM := bf.frNil 26 5
   clear bf
   have hsm3 : (things l4).length ≤ 32767 := things_le _
   refine wp_loop_ghost (fun n_ a_ w_ => ∃ (k : Nat) (A_ : Option Addr) (c_ : Nat) (xs : List Value) (css : List (List Value)), n_ = (things l4).length - k ∧ k ≤ (things l4).length ∧ (Trees w_ (Imm F w w_ [⟨dW, 0, [.int .i64 ai, .int .i64 ac, .int .i64 ae, .int .i64 al, .int .i64 aj, .int .i64 af, .int .i64 aa, .slice ag ab.length ah], true⟩, ⟨dX, 0, [.int .i64 n1, .slice A6 s2.length c7, .bool b3, .slice A8 l4.length c9, .slice bD u5.length bE], true⟩, ⟨dY, 0, [.int .i64 0, .slice none 0 0, .bool false, .slice none 0 0, .slice none 0 0], true⟩, ⟨gq, 0, [.int .i64 0, .slice none 0 0, .bool (((l4.length : Nat) : Int) == 0), .slice A_ k c_, .slice none 0 0], true⟩, ⟨gt, 0, [.int .i64 aa, .int .i64 ac, .int .i64 ae, .int .i64 (-1), .int .i64 (-1), .int .i64 af, .int .i64 aa, .slice ag ab.length ah], true⟩] [⟨A_, c_, 26, 5, k, xs⟩]) xs ((fitL (fitT v d) v (Fld.mk aa ac ae (-1) (-1) af aa ab) l4).take k) css) ∧ LInv fb 82 [⟨dW, 0, [.int .i64 ai, .int .i64 ac, .int .i64 ae, .int .i64 al, .int .i64 aj, .int .i64 af, .int .i64 aa, .slice ag ab.length ah], true⟩, ⟨dX, 0, [.int .i64 n1, .slice A6 s2.length c7, .bool b3, .slice A8 l4.length c9, .slice bD u5.length bE], true⟩, ⟨dY, 0, [.int .i64 0, .slice none 0 0, .bool false, .slice none 0 0, .slice none 0 0], true⟩, ⟨gq, 0, [.int .i64 0, .slice none 0 0, .bool (((l4.length : Nat) : Int) == 0), .slice A_ k c_, .slice none 0 0], true⟩, ⟨gt, 0, [.int .i64 aa, .int .i64 ac, .int .i64 ae, .int .i64 (-1), .int .i64 (-1), .int .i64 af, .int .i64 aa, .slice ag ab.length ah], true⟩] [⟨A_, c_, 26, 5, k, xs⟩] [(1, .v (.int .i64 v)), (6, .p 2 0), (9, .p 3 0), (10, .p 4 0), (60, .v (.slice A8 ((things l4).length) c9)), (61, .v (.int .i64 (((things l4).length : Nat) : Int))), (62, .v (.int .i64 ((k : Nat) : Int)))] a_ w_) ((things l4).length) ⟨0, none, 0, [], [], by omega, by omega, Trees.nil _ _, fa.pk, fb, Fr.refl _ _ _⟩ ?_
   clear fa
   rintro lW lX lY ⟨k, A_, c_, xs, css, jN, jO, hT, fc, aw, gW⟩
   refine go_sp [(1, .v (.int .i64 v)), (6, .p 2 0), (9, .p 3 0), (10, .p 4 0), (60, .v (.slice A8 ((things l4).length) c9)), (61, .v (.int .i64 (((things l4).length : Nat) : Int))), (62, .v (.int .i64 ((k : Nat) : Int))), (63, .v (.bool (decide (((k : Nat) : Int) < (((things l4).length : Nat) : Int)))))] aw fc fun lZ aQ => ?_
   clear fc
   refine wp_seq ?_
   refine cond_of aQ (b := decide (((k : Nat) : Int) < (((things l4).length : Nat) : Int))) kz (fun cz => ?_) (fun cz => ?_)
   ·
    have jP := of_decide_eq_true cz
    refine wp_skip ?_
    refine then_normal ?_
    refine wp_seq ?_
    refine wp_block ?_
    refine go_seq_region [0, 1, 2, 3] kz ?_
    obtain ⟨iE, iF, gX, jQ, cA⟩ := Slots.get (things_slots gh) (i := k) (by omega)
    obtain ⟨iG, fe⟩ : ∃ x, (things l4)[k]? = some x := ⟨_, List.getElem?_eq_getElem (by omega)⟩
    have cB := (things_each im) k iG fe
    obtain ⟨bq, br, bt, bu, bv, cC, cD, cE, cG, cH, cI, jR, rfl, cJ, iH, iI, l0, l3⟩ := cB.open_
    rw [cJ] at cB
    have iJ := iH.small
    have iK := iI.small
    rw [cJ] at cA
    refine of_op (wpOp_index aQ (t := 23) (A := A8) (m := ((things l4).length)) (q := ((k : Nat) : Int)) (d := 64) kz (e := 26) (size := 5) (bytes := 88) kz gX rfl (by omega) fun l5 ff => ?_)
    clear aQ
    refine of_op (wpOp_load ff (t := 26) (b := iE) (o := iF + k * 5) (d := 65) kz (cs := [.int .i64 bq, .slice cC br.length cD, .bool bt, .slice cE bu.length cG, .slice cH bv.length cI]) (v := .agg #[.int .i64 bq, .slice cC br.length cD, .bool bt, .slice cE bu.length cG, .slice cH bv.length cI]) kz (AtF.move cA aw.step nilM keepF).at_ fun l6 fg => ?_)
    clear ff
    refine of_op (wpOp_alloc aw fg (d := 12) (cs := [.int .i64 0, .slice none 0 0, .bool false, .slice none 0 0, .slice none 0 0]) kz fun l7 l9 ma jS jT cK fh fi => ?_)
    clear fg aw
    refine of_op (wpOp_store fh fi (oi := 5) (cs := [.int .i64 bq, .slice cC br.length cD, .bool bt, .slice cE bu.length cG, .slice cH bv.length cI]) kz fun mc cL fj fk => ?_)
    clear fi fh
    refine wpOps_nil (then_normal ?_)
    refine go_drawK 9 kz fj fun md cM ao gY => ?_
    clear fj
    refine go_rnD [0, 1, 2, 3, 4] [(1, .v (.int .i64 v)), (6, .p 2 0), (9, .p 3 0), (10, .p 4 0), (60, .v (.slice A8 ((things l4).length) c9)), (61, .v (.int .i64 (((things l4).length : Nat) : Int))), (62, .v (.int .i64 ((k : Nat) : Int))), (67, .v (.slice A_ k c_)), (68, .v (.agg #[.int .i64 aa, .int .i64 ac, .int .i64 ae, .int .i64 (-1), .int .i64 (-1), .int .i64 af, .int .i64 aa, .slice ag ab.length ah])), (69, .v (.int .i64 v)), (70, .v (.agg #[.int .i64 bq, .slice cC br.length cD, .bool bt, .slice cE bu.length cG, .slice cH bv.length cI]))] 5 (panicFree_block (panicFree_then (panicFree_then (panicFree_block (panicFree_then (panicFree_block (panicFree_then panicFree_body))))))) (fun _ h => h.cells) gY fk fun me fl => ?_
    clear fk
    refine anyC_op (i := 5) kz (wpOp_call fl (f := 36) (vs := [.agg #[.int .i64 aa, .int .i64 ac, .int .i64 ae, .int .i64 (-1), .int .i64 (-1), .int .i64 af, .int .i64 aa, .slice ag ab.length ah], .int .i64 v, .agg #[.int .i64 bq, .slice cC br.length cD, .bool bt, .slice cE bu.length cG, .slice cH bv.length cI]]) (d := 71) kz Tryz.call36 ( sFitted0 hfit _ (Fld.mk aa ac ae (-1) (-1) af aa ab) v _ (Tree.mk bq br bt bu bv) _ _ (FldR.mk (l := ab) gi (il.move ao.step nilM ao.imm) (fun i_ x_ h_ => ((io i_ x_ h_).move ao.step nilM ao.imm))) hpl.2 hd hof (cB.move ao.step nilM ao.imm)) ?_)
    rintro e_ mf ⟨jU, rfl, gZ, cN⟩
    have cO := gZ.move (Step.refl _ Nil) nilM (ao.laid (G := F) cN)
    obtain ⟨cP, cQ, cR, cS, cT, cV, cW, cX, cY, cZ, c5, jV, jW, da, iL, iM, mg, mh⟩ := cO.open_
    rw [da] at cO
    have iN := iL.small
    have iO := iM.small
    rw [da]
    refine ⟨_, rfl, fun mi fm => ?_⟩
    have db := ao.next_nil cN
    have aF := ao.frN cN
    clear fl
    have g6 := TT.ofW aF db
    refine ⟨fun _ => g6, ?_⟩
    refine anyC_op (i := 6) kz (wpOp_lit db fm (e := 26) (size := 5) (len := 1) (cs := [.int .i64 cP, .slice cV cQ.length cW, .bool cR, .slice cX cS.length cY, .slice cZ cT.length c5]) (d := 72) kz kz fun iP mj ml jX jY ax aR fo => ?_)
    clear fm db
    have g7 := TT.ofW (aF.trans ax) aR
    refine ⟨fun _ => g7, ?_⟩
    refine anyC_op (i := 7) kz (wpOp_append aR fo (k := 0) (d := 73) (t := 23) (e := 26) (size := 5) (bytes := 88) (A := A_) (As := (some ⟨iP, 0, none⟩)) (m0 := k) (c := c_) (m := 1) (cs := 1) (xs := xs) (news := [.int .i64 cP, .slice cV cQ.length cW, .bool cR, .slice cX cS.length cY, .slice cZ cT.length c5]) kz kz rfl (own_src (aR.own 1 _ rfl) (allOne_ok kz)) (own_cap (aR.own 1 _ rfl)) (by omega) fun dc de mm mn aG df fp => ?_)
    clear fo aR
    have fq := TT.ofW ((aF.trans ax).trans aG) df
    refine ⟨fun _ => fq, ?_⟩
    refine go_rnD [8] [(1, .v (.int .i64 v)), (6, .p 2 0), (9, .p 3 0), (10, .p 4 0), (60, .v (.slice A8 ((things l4).length) c9)), (61, .v (.int .i64 (((things l4).length : Nat) : Int))), (62, .v (.int .i64 ((k : Nat) : Int))), (73, .v (.slice dc (k + 1) de)), (74, .p 3 3)] 1 (panicFree_block (panicFree_then (panicFree_then (panicFree_block (panicFree_then (panicFree_block (panicFree_then panicFree_body))))))) (fun _ h => h.cells) fq fp fun mo fr => ?_
    clear fp
    refine anyC_op (i := 9) kz (wpOp_store df fr (oi := 3) (cs := [.int .i64 0, .slice none 0 0, .bool (((l4.length : Nat) : Int) == 0), .slice dc (k + 1) de, .slice none 0 0]) kz fun mp aS ft fu => ?_)
    clear fr df
    refine ⟨fun h => absurd rfl h, ?_⟩
    refine anyC_done kz ?_ _
    refine block_normal ?_
    refine then_normal ?_
    refine go_region [0, 1] kz ?_
    refine go_rn [0, 1] [] [(1, .v (.int .i64 v)), (6, .p 2 0), (9, .p 3 0), (10, .p 4 0), (60, .v (.slice A8 ((things l4).length) c9)), (61, .v (.int .i64 (((things l4).length : Nat) : Int))), (62, .v (.int .i64 (IntKind.i64.wrap (((k : Nat) : Int) + 1))))] ft fu fun mq g8 => ?_
    clear fu
    refine wpOps_nil (then_normal ?_)
    obtain ⟨fv, g9, aT⟩ := ft.cutB g8 5 [⟨dW, 0, [.int .i64 ai, .int .i64 ac, .int .i64 ae, .int .i64 al, .int .i64 aj, .int .i64 af, .int .i64 aa, .slice ag ab.length ah], true⟩, ⟨dX, 0, [.int .i64 n1, .slice A6 s2.length c7, .bool b3, .slice A8 l4.length c9, .slice bD u5.length bE], true⟩, ⟨dY, 0, [.int .i64 0, .slice none 0 0, .bool false, .slice none 0 0, .slice none 0 0], true⟩, ⟨gq, 0, [.int .i64 0, .slice none 0 0, .bool (((l4.length : Nat) : Int) == 0), .slice dc (k + 1) de, .slice none 0 0], true⟩, ⟨gt, 0, [.int .i64 aa, .int .i64 ac, .int .i64 ae, .int .i64 (-1), .int .i64 (-1), .int .i64 af, .int .i64 aa, .slice ag ab.length ah], true⟩] [(1, .v (.int .i64 v)), (6, .p 2 0), (9, .p 3 0), (10, .p 4 0), (60, .v (.slice A8 ((things l4).length) c9)), (61, .v (.int .i64 (((things l4).length : Nat) : Int))), (62, .v (.int .i64 (IntKind.i64.wrap (((k : Nat) : Int) + 1))))]
    obtain ⟨hC, aU⟩ := g9.cutR 1 [⟨dc, de, 26, 5, k + 1, xs ++ [.int .i64 cP, .slice cV cQ.length cW, .bool cR, .slice cX cS.length cY, .slice cZ cT.length c5]⟩]
    have hJ : IntKind.i64.wrap (((k : Nat) : Int) + 1) = ((k + 1 : Nat) : Int) := wrap_succ (by omega)
    rw [hJ] at fv
    exact ⟨(things l4).length - (k + 1), by omega, k + 1, dc, de, xs ++ [Value.int .i64 cP, .slice cV cQ.length cW, .bool cR, .slice cX cS.length cY, .slice cZ cT.length c5], (css ++ [[Value.int .i64 cP, .slice cV cQ.length cW, .bool cR, .slice cX cS.length cY, .slice cZ cT.length c5]]), rfl, by omega, by rw [take_succ_of (fitL_get (p := fitT v d) (v := v) (f := (Fld.mk aa ac ae (-1) (-1) af aa ab)) fe)]; exact (hT.move ((((((((cK.trans cL).trans cM).trans aF).trans ax).trans aG).trans aS).trans aT).trans aU).step immM ((((((((cK.trans cL).trans cM).trans aF).trans ax).trans aG).trans aS).trans aT).trans aU).to').snoc (cO.move ((((ax.trans aG).trans aS).trans aT).trans aU).step immM ((((ax.trans aG).trans aS).trans aT).trans aU).to'), fv.pk, hC, (((((((((gW.trans cK).trans cL).trans cM).trans aF).trans ax).trans aG).trans aS).trans aT).trans aU)⟩
   ·
    have jZ := of_decide_eq_false cz
    refine wp_exit ?_
    refine then_exit ?_
    refine then_exit ?_
    refine block_exit ?_
    refine then_normal ?_
    refine go_seq_region [0, 1] kz ?_
    refine go_rn [0] [1] [(6, .p 2 0), (76, .v (.agg #[.int .i64 0, .slice none 0 0, .bool (((l4.length : Nat) : Int) == 0), .slice A_ k c_, .slice none 0 0]))] aw aQ fun mr fw => ?_
    clear aQ
    refine of_op (wpOp_store aw fw (oi := 2) (cs := [.int .i64 0, .slice none 0 0, .bool (((l4.length : Nat) : Int) == 0), .slice A_ k c_, .slice none 0 0]) kz fun mt fx dg hK => ?_)
    clear fw aw
    refine wpOps_nil (then_normal ?_)
    refine wp_ret ?_
    refine block_ret ?_
    refine then_ret ?_
    refine leave hK dg.cells (v := .agg #[.int .i64 0, .slice none 0 0, .bool (((l4.length : Nat) : Int) == 0), .slice A_ k c_, .slice none 0 0]) kz ?_
    have hk0 : k = (fitL (fitT v d) v (Fld.mk aa ac ae (-1) (-1) af aa ab) l4).length := by rw [fitL_len]; omega
    have hT' := (hT.move fx.step immM fx.to')
    rw [show (fitL (fitT v d) v (Fld.mk aa ac ae (-1) (-1) af aa ab) l4).take k = (fitL (fitT v d) v (Fld.mk aa ac ae (-1) (-1) af aa ab) l4) by rw [hk0, List.take_length]] at hT'
    exact tree_end dg rfl (Octs.nil _ _) hk0 (trees_fp dg (k := 0) rfl hT' hk0 (by rw [fitL_len]; omega)) rfl (TagsR.nil _ _) (fittedW_11 aK (by simp only [bh, av]; try simp))
  ·
   have j0 := of_decide_eq_false av
   have fy := bd.cast (env' := [(1, .v (.int .i64 v)), (3, .p 0 0), (5, .p 1 0), (6, .p 2 0), (40, .v (.bool false)), (44, .v (.bool false))]) (by rw [av])
   clear bd
   refine go_rn [6, 7, 8, 9, 10, 11, 12] [13, 14] [(1, .v (.int .i64 v)), (3, .p 0 0), (5, .p 1 0), (6, .p 2 0), (51, .v (.agg #[.int .i64 0, .slice none 0 0, .bool false, .slice none 0 0, .slice none 0 0]))] ak fy fun mu fz => ?_
   clear fy
   refine of_op (wpOp_alloc ak fz (d := 9) (cs := [.int .i64 0, .slice none 0 0, .bool false, .slice none 0 0, .slice none 0 0]) kz fun gu mw mx j1 j2 j3 fA fB => ?_)
   clear fz ak
   refine of_op (wpOp_store fA fB (oi := 3) (cs := [.int .i64 0, .slice none 0 0, .bool false, .slice none 0 0, .slice none 0 0]) kz fun my j4 dh fC => ?_)
   clear fB fA
   refine wpOps_nil (then_normal ?_)
   refine go_seq_region [0, 1, 2] kz ?_
   refine go_rn [0] [1, 2] [(1, .v (.int .i64 v)), (3, .p 0 0), (5, .p 1 0), (6, .p 2 0), (9, .p 3 0), (52, .v (.agg #[.int .i64 ai, .int .i64 ac, .int .i64 ae, .int .i64 al, .int .i64 aj, .int .i64 af, .int .i64 aa, .slice ag ab.length ah]))] dh fC fun mz fD => ?_
   clear fC
   refine of_op (wpOp_alloc dh fD (d := 10) (cs := [.int .i64 0, .int .i64 0, .int .i64 0, .int .i64 0, .int .i64 0, .int .i64 0, .int .i64 0, .slice none 0 0]) kz fun gv mA mB j5 j6 j7 fE fF => ?_)
   clear fD dh
   refine of_op (wpOp_store fE fF (oi := 4) (cs := [.int .i64 ai, .int .i64 ac, .int .i64 ae, .int .i64 al, .int .i64 aj, .int .i64 af, .int .i64 aa, .slice ag ab.length ah]) kz fun mC j8 di fG => ?_)
   clear fF fE
   refine wpOps_nil (then_normal ?_)
   refine go_seq_region [0, 1, 2, 3, 4, 5, 6, 7] kz ?_
   refine go_rn [0, 1, 2] [3, 4, 5, 6, 7] [(1, .v (.int .i64 v)), (5, .p 1 0), (6, .p 2 0), (9, .p 3 0), (10, .p 4 0), (54, .v (.int .i64 aa)), (55, .p 4 0)] di fG fun mD fH => ?_
   clear fG
   refine of_op (wpOp_store di fH (oi := 4) (cs := [.int .i64 aa, .int .i64 ac, .int .i64 ae, .int .i64 al, .int .i64 aj, .int .i64 af, .int .i64 aa, .slice ag ab.length ah]) kz fun mE j9 dj fI => ?_)
   clear fH di
   refine go_rn [4] [5, 6, 7] [(1, .v (.int .i64 v)), (5, .p 1 0), (6, .p 2 0), (9, .p 3 0), (10, .p 4 0), (56, .p 4 3)] dj fI fun mF fJ => ?_
   clear fI
   refine of_op (wpOp_store dj fJ (oi := 4) (cs := [.int .i64 aa, .int .i64 ac, .int .i64 ae, .int .i64 (-1), .int .i64 aj, .int .i64 af, .int .i64 aa, .slice ag ab.length ah]) kz fun mG ka dl fK => ?_)
   clear fJ dj
   refine go_rn [6] [7] [(1, .v (.int .i64 v)), (5, .p 1 0), (6, .p 2 0), (9, .p 3 0), (10, .p 4 0), (57, .p 4 4)] dl fK fun mH fL => ?_
   clear fK
   refine of_op (wpOp_store dl fL (oi := 4) (cs := [.int .i64 aa, .int .i64 ac, .int .i64 ae, .int .i64 (-1), .int .i64 (-1), .int .i64 af, .int .i64 aa, .slice ag ab.length ah]) kz fun mI kd aH fM => ?_)
   clear fL dl
   refine wpOps_nil (then_normal ?_)
   refine wp_seq ?_
   refine go_seq_region [0, 1, 2, 3, 4] kz ?_
   refine go_rn [0, 1] [2, 3, 4] [(1, .v (.int .i64 v)), (6, .p 2 0), (9, .p 3 0), (10, .p 4 0), (59, .v (.slice A8 l4.length c9))] aH fM fun mJ fN => ?_
   clear fM
   refine of_op (wpOp_call fN (f := 88) (vs := [.slice A8 l4.length c9]) (d := 60) kz Tryz.call88 (sThings _ _ l4 (gh.move aH.step nilM aH.imm).le _) ?_)
   rintro e_ mK ⟨rfl, fO⟩
   refine ⟨_, rfl, fun mL fP => ?_⟩
   have bg := aH.next_nil fO
   have ke := aH.frN fO
   clear fN aH
   refine go_rn [3, 4] [] [(1, .v (.int .i64 v)), (6, .p 2 0), (9, .p 3 0), (10, .p 4 0), (60, .v (.slice A8 ((things l4).length) c9)), (61, .v (.int .i64 (((things l4).length : Nat) : Int))), (62, .v (.int .i64 0))] bg fP fun mM fQ => ?_
   clear fP
   refine wpOps_nil (then_normal ?_)
   refine wp_block ?_
   have fR := bg.addNil 26 5
   have kf := bg.frNil 26 5
   clear bg
   have hsm3 : (things l4).length ≤ 32767 := things_le _
   refine wp_loop_ghost (fun n_ a_ w_ => ∃ (k : Nat) (A_ : Option Addr) (c_ : Nat) (xs : List Value) (css : List (List Value)), n_ = (things l4).length - k ∧ k ≤ (things l4).length ∧ (Trees w_ (Imm F w w_ [⟨dW, 0, [.int .i64 ai, .int .i64 ac, .int .i64 ae, .int .i64 al, .int .i64 aj, .int .i64 af, .int .i64 aa, .slice ag ab.length ah], true⟩, ⟨dX, 0, [.int .i64 n1, .slice A6 s2.length c7, .bool b3, .slice A8 l4.length c9, .slice bD u5.length bE], true⟩, ⟨dY, 0, [.int .i64 0, .slice none 0 0, .bool false, .slice none 0 0, .slice none 0 0], true⟩, ⟨gu, 0, [.int .i64 0, .slice none 0 0, .bool false, .slice A_ k c_, .slice none 0 0], true⟩, ⟨gv, 0, [.int .i64 aa, .int .i64 ac, .int .i64 ae, .int .i64 (-1), .int .i64 (-1), .int .i64 af, .int .i64 aa, .slice ag ab.length ah], true⟩] [⟨A_, c_, 26, 5, k, xs⟩]) xs ((fitL (fitT v d) v (Fld.mk aa ac ae (-1) (-1) af aa ab) l4).take k) css) ∧ LInv fR 82 [⟨dW, 0, [.int .i64 ai, .int .i64 ac, .int .i64 ae, .int .i64 al, .int .i64 aj, .int .i64 af, .int .i64 aa, .slice ag ab.length ah], true⟩, ⟨dX, 0, [.int .i64 n1, .slice A6 s2.length c7, .bool b3, .slice A8 l4.length c9, .slice bD u5.length bE], true⟩, ⟨dY, 0, [.int .i64 0, .slice none 0 0, .bool false, .slice none 0 0, .slice none 0 0], true⟩, ⟨gu, 0, [.int .i64 0, .slice none 0 0, .bool false, .slice A_ k c_, .slice none 0 0], true⟩, ⟨gv, 0, [.int .i64 aa, .int .i64 ac, .int .i64 ae, .int .i64 (-1), .int .i64 (-1), .int .i64 af, .int .i64 aa, .slice ag ab.length ah], true⟩] [⟨A_, c_, 26, 5, k, xs⟩] [(1, .v (.int .i64 v)), (6, .p 2 0), (9, .p 3 0), (10, .p 4 0), (60, .v (.slice A8 ((things l4).length) c9)), (61, .v (.int .i64 (((things l4).length : Nat) : Int))), (62, .v (.int .i64 ((k : Nat) : Int)))] a_ w_) ((things l4).length) ⟨0, none, 0, [], [], by omega, by omega, Trees.nil _ _, fQ.pk, fR, Fr.refl _ _ _⟩ ?_
   clear fQ
   rintro mN mO mP ⟨k, A_, c_, xs, css, kg, kh, hT, fS, ay, hP⟩
   refine go_sp [(1, .v (.int .i64 v)), (6, .p 2 0), (9, .p 3 0), (10, .p 4 0), (60, .v (.slice A8 ((things l4).length) c9)), (61, .v (.int .i64 (((things l4).length : Nat) : Int))), (62, .v (.int .i64 ((k : Nat) : Int))), (63, .v (.bool (decide (((k : Nat) : Int) < (((things l4).length : Nat) : Int)))))] ay fS fun mQ aV => ?_
   clear fS
   refine wp_seq ?_
   refine cond_of aV (b := decide (((k : Nat) : Int) < (((things l4).length : Nat) : Int))) kz (fun dp => ?_) (fun dp => ?_)
   ·
    have ki := of_decide_eq_true dp
    refine wp_skip ?_
    refine then_normal ?_
    refine wp_seq ?_
    refine wp_block ?_
    refine go_seq_region [0, 1, 2, 3] kz ?_
    obtain ⟨iQ, iR, hX, kj, dq⟩ := Slots.get (things_slots gh) (i := k) (by omega)
    obtain ⟨iS, fT⟩ : ∃ x, (things l4)[k]? = some x := ⟨_, List.getElem?_eq_getElem (by omega)⟩
    have dr := (things_each im) k iS fT
    obtain ⟨bw, bz, bA, bB, bC, dt, du, dv, dw, dx, dy, km, rfl, dz, iT, iU, mR, mS⟩ := dr.open_
    rw [dz] at dr
    have iV := iT.small
    have iW := iU.small
    rw [dz] at dq
    refine of_op (wpOp_index aV (t := 23) (A := A8) (m := ((things l4).length)) (q := ((k : Nat) : Int)) (d := 64) kz (e := 26) (size := 5) (bytes := 88) kz hX rfl (by omega) fun mT fU => ?_)
    clear aV
    refine of_op (wpOp_load fU (t := 26) (b := iQ) (o := iR + k * 5) (d := 65) kz (cs := [.int .i64 bw, .slice dt bz.length du, .bool bA, .slice dv bB.length dw, .slice dx bC.length dy]) (v := .agg #[.int .i64 bw, .slice dt bz.length du, .bool bA, .slice dv bB.length dw, .slice dx bC.length dy]) kz (AtF.move dq ay.step nilM keepF).at_ fun mU fV => ?_)
    clear fU
    refine of_op (wpOp_alloc ay fV (d := 12) (cs := [.int .i64 0, .slice none 0 0, .bool false, .slice none 0 0, .slice none 0 0]) kz fun mV mW mX kn ko dA fW fX => ?_)
    clear fV ay
    refine of_op (wpOp_store fW fX (oi := 5) (cs := [.int .i64 bw, .slice dt bz.length du, .bool bA, .slice dv bB.length dw, .slice dx bC.length dy]) kz fun mY dB fY fZ => ?_)
    clear fX fW
    refine wpOps_nil (then_normal ?_)
    refine go_drawK 9 kz fY fun mZ dC ap hY => ?_
    clear fY
    refine go_rnD [0, 1, 2, 3, 4] [(1, .v (.int .i64 v)), (6, .p 2 0), (9, .p 3 0), (10, .p 4 0), (60, .v (.slice A8 ((things l4).length) c9)), (61, .v (.int .i64 (((things l4).length : Nat) : Int))), (62, .v (.int .i64 ((k : Nat) : Int))), (67, .v (.slice A_ k c_)), (68, .v (.agg #[.int .i64 aa, .int .i64 ac, .int .i64 ae, .int .i64 (-1), .int .i64 (-1), .int .i64 af, .int .i64 aa, .slice ag ab.length ah])), (69, .v (.int .i64 v)), (70, .v (.agg #[.int .i64 bw, .slice dt bz.length du, .bool bA, .slice dv bB.length dw, .slice dx bC.length dy]))] 5 (panicFree_block (panicFree_then (panicFree_then (panicFree_block (panicFree_then (panicFree_block (panicFree_then panicFree_body))))))) (fun _ h => h.cells) hY fZ fun m6 f0 => ?_
    clear fZ
    refine anyC_op (i := 5) kz (wpOp_call f0 (f := 36) (vs := [.agg #[.int .i64 aa, .int .i64 ac, .int .i64 ae, .int .i64 (-1), .int .i64 (-1), .int .i64 af, .int .i64 aa, .slice ag ab.length ah], .int .i64 v, .agg #[.int .i64 bw, .slice dt bz.length du, .bool bA, .slice dv bB.length dw, .slice dx bC.length dy]]) (d := 71) kz Tryz.call36 ( sFitted0 hfit _ (Fld.mk aa ac ae (-1) (-1) af aa ab) v _ (Tree.mk bw bz bA bB bC) _ _ (FldR.mk (l := ab) gi (il.move ap.step nilM ap.imm) (fun i_ x_ h_ => ((io i_ x_ h_).move ap.step nilM ap.imm))) hpl.2 hd hof (dr.move ap.step nilM ap.imm)) ?_)
    rintro e_ m7 ⟨kp, rfl, hZ, dD⟩
    have dE := hZ.move (Step.refl _ Nil) nilM (ap.laid (G := F) dD)
    obtain ⟨dF, dG, dH, dI, dJ, dK, dL, dM, dN, dO, dP, kq, ku, dQ, iX, iY, m8, m9⟩ := dE.open_
    rw [dQ] at dE
    have iZ := iX.small
    have i6 := iY.small
    rw [dQ]
    refine ⟨_, rfl, fun na f5 => ?_⟩
    have dR := ap.next_nil dD
    have aI := ap.frN dD
    clear f0
    have ia := TT.ofW aI dR
    refine ⟨fun _ => ia, ?_⟩
    refine anyC_op (i := 6) kz (wpOp_lit dR f5 (e := 26) (size := 5) (len := 1) (cs := [.int .i64 dF, .slice dK dG.length dL, .bool dH, .slice dM dI.length dN, .slice dO dJ.length dP]) (d := 72) kz kz fun i7 nb nc kv kw aA aW f8 => ?_)
    clear f5 dR
    have ib := TT.ofW (aI.trans aA) aW
    refine ⟨fun _ => ib, ?_⟩
    refine anyC_op (i := 7) kz (wpOp_append aW f8 (k := 0) (d := 73) (t := 23) (e := 26) (size := 5) (bytes := 88) (A := A_) (As := (some ⟨i7, 0, none⟩)) (m0 := k) (c := c_) (m := 1) (cs := 1) (xs := xs) (news := [.int .i64 dF, .slice dK dG.length dL, .bool dH, .slice dM dI.length dN, .slice dO dJ.length dP]) kz kz rfl (own_src (aW.own 1 _ rfl) (allOne_ok kz)) (own_cap (aW.own 1 _ rfl)) (by omega) fun dS dT nf ng aJ dU f9 => ?_)
    clear f8 aW
    have ga := TT.ofW ((aI.trans aA).trans aJ) dU
    refine ⟨fun _ => ga, ?_⟩
    refine go_rnD [8] [(1, .v (.int .i64 v)), (6, .p 2 0), (9, .p 3 0), (10, .p 4 0), (60, .v (.slice A8 ((things l4).length) c9)), (61, .v (.int .i64 (((things l4).length : Nat) : Int))), (62, .v (.int .i64 ((k : Nat) : Int))), (73, .v (.slice dS (k + 1) dT)), (74, .p 3 3)] 1 (panicFree_block (panicFree_then (panicFree_then (panicFree_block (panicFree_then (panicFree_block (panicFree_then panicFree_body))))))) (fun _ h => h.cells) ga f9 fun nh gb => ?_
    clear f9
    refine anyC_op (i := 9) kz (wpOp_store dU gb (oi := 3) (cs := [.int .i64 0, .slice none 0 0, .bool false, .slice dS (k + 1) dT, .slice none 0 0]) kz fun ni aX gc gd => ?_)
    clear gb dU
    refine ⟨fun h => absurd rfl h, ?_⟩
    refine anyC_done kz ?_ _
    refine block_normal ?_
    refine then_normal ?_
    refine go_region [0, 1] kz ?_
    refine go_rn [0, 1] [] [(1, .v (.int .i64 v)), (6, .p 2 0), (9, .p 3 0), (10, .p 4 0), (60, .v (.slice A8 ((things l4).length) c9)), (61, .v (.int .i64 (((things l4).length : Nat) : Int))), (62, .v (.int .i64 (IntKind.i64.wrap (((k : Nat) : Int) + 1))))] gc gd fun nj ic => ?_
    clear gd
    refine wpOps_nil (then_normal ?_)
    obtain ⟨ge, ig, aY⟩ := gc.cutB ic 5 [⟨dW, 0, [.int .i64 ai, .int .i64 ac, .int .i64 ae, .int .i64 al, .int .i64 aj, .int .i64 af, .int .i64 aa, .slice ag ab.length ah], true⟩, ⟨dX, 0, [.int .i64 n1, .slice A6 s2.length c7, .bool b3, .slice A8 l4.length c9, .slice bD u5.length bE], true⟩, ⟨dY, 0, [.int .i64 0, .slice none 0 0, .bool false, .slice none 0 0, .slice none 0 0], true⟩, ⟨gu, 0, [.int .i64 0, .slice none 0 0, .bool false, .slice dS (k + 1) dT, .slice none 0 0], true⟩, ⟨gv, 0, [.int .i64 aa, .int .i64 ac, .int .i64 ae, .int .i64 (-1), .int .i64 (-1), .int .i64 af, .int .i64 aa, .slice ag ab.length ah], true⟩] [(1, .v (.int .i64 v)), (6, .p 2 0), (9, .p 3 0), (10, .p 4 0), (60, .v (.slice A8 ((things l4).length) c9)), (61, .v (.int .i64 (((things l4).length : Nat) : Int))), (62, .v (.int .i64 (IntKind.i64.wrap (((k : Nat) : Int) + 1))))]
    obtain ⟨ii, aZ⟩ := ig.cutR 1 [⟨dS, dT, 26, 5, k + 1, xs ++ [.int .i64 dF, .slice dK dG.length dL, .bool dH, .slice dM dI.length dN, .slice dO dJ.length dP]⟩]
    have ij : IntKind.i64.wrap (((k : Nat) : Int) + 1) = ((k + 1 : Nat) : Int) := wrap_succ (by omega)
    rw [ij] at ge
    exact ⟨(things l4).length - (k + 1), by omega, k + 1, dS, dT, xs ++ [Value.int .i64 dF, .slice dK dG.length dL, .bool dH, .slice dM dI.length dN, .slice dO dJ.length dP], (css ++ [[Value.int .i64 dF, .slice dK dG.length dL, .bool dH, .slice dM dI.length dN, .slice dO dJ.length dP]]), rfl, by omega, by rw [take_succ_of (fitL_get (p := fitT v d) (v := v) (f := (Fld.mk aa ac ae (-1) (-1) af aa ab)) fT)]; exact (hT.move ((((((((dA.trans dB).trans dC).trans aI).trans aA).trans aJ).trans aX).trans aY).trans aZ).step immM ((((((((dA.trans dB).trans dC).trans aI).trans aA).trans aJ).trans aX).trans aY).trans aZ).to').snoc (dE.move ((((aA.trans aJ).trans aX).trans aY).trans aZ).step immM ((((aA.trans aJ).trans aX).trans aY).trans aZ).to'), ge.pk, ii, (((((((((hP.trans dA).trans dB).trans dC).trans aI).trans aA).trans aJ).trans aX).trans aY).trans aZ)⟩
   ·
    have kx := of_decide_eq_false dp
    refine wp_exit ?_
    refine then_exit ?_
    refine then_exit ?_
    refine block_exit ?_
    refine then_normal ?_
    refine go_seq_region [0, 1] kz ?_
    refine go_rn [0] [1] [(6, .p 2 0), (76, .v (.agg #[.int .i64 0, .slice none 0 0, .bool false, .slice A_ k c_, .slice none 0 0]))] ay aV fun nk gf => ?_
    clear aV
    refine of_op (wpOp_store ay gf (oi := 2) (cs := [.int .i64 0, .slice none 0 0, .bool false, .slice A_ k c_, .slice none 0 0]) kz fun nl gg dV ik => ?_)
    clear gf ay
    refine wpOps_nil (then_normal ?_)
    refine wp_ret ?_
    refine block_ret ?_
    refine then_ret ?_
    refine leave ik dV.cells (v := .agg #[.int .i64 0, .slice none 0 0, .bool false, .slice A_ k c_, .slice none 0 0]) kz ?_
    have hk0 : k = (fitL (fitT v d) v (Fld.mk aa ac ae (-1) (-1) af aa ab) l4).length := by rw [fitL_len]; omega
    have hT' := (hT.move gg.step immM gg.to')
    rw [show (fitL (fitT v d) v (Fld.mk aa ac ae (-1) (-1) af aa ab) l4).take k = (fitL (fitT v d) v (Fld.mk aa ac ae (-1) (-1) af aa ab) l4) by rw [hk0, List.take_length]] at hT'
    exact tree_end dV rfl (Octs.nil _ _) hk0 (trees_fp dV (k := 0) rfl hT' hk0 (by rw [fitL_len]; omega)) rfl (TagsR.nil _ _) (fittedW_11 aK (by simp only [bh, av]; try simp))
theorem sFitted {d : Nat} (hfit : FitOK d) (cf : List Value) (f : Fld) (v : Int) (ct : List Value) (t : Tree) (w : World) (F : Nat → Nat → Prop) (hf : FldR w F cf f) (hpl : f.plain) (hd : depths f.sub ≤ d) (ht : TreeR w F ct t) :
  Calls Tryz.prog 36 #[.agg cf.toArray, .int .i64 v, .agg ct.toArray] w (GivesT w F (fittedW (fitT v d) v f t)) := by
 by_cases h : f.kind = 11
 ·exact sFitted11 hfit cf f v ct t w F hf hpl hd h ht
 ·obtain ⟨k, x1, x2, x3, x4, x5, x6, l, A, c, xs, rfl, hcs, h1, h2⟩ := hf.open_
  rw [fittedW_no (k := k) h]
  exact sFitted0 hfit cf _ v ct t w F hf hpl.2 hd h ht
theorem sFit (W : Fld → Tree → Tree) (A : Option Addr) (c : Nat) (l : List Fld) (v : Int) (ct : List Value) (t : Tree) (w : World) (F : Nat → Nat → Prop) (hW_ : ∀ cf f ct t w F, f ∈ l → FldR w F cf f → TreeR w F ct t → Calls Tryz.prog 36 #[.agg cf.toArray, .int .i64 v, .agg ct.toArray] w (GivesT w F (W f t))) (hl : FldsR w F A c l) (ht : TreeR w F ct t) :
  Calls Tryz.prog 15 #[.slice A l.length c, .int .i64 v, .agg ct.toArray] w (GivesT w F (fitW W l t)) := by
 obtain ⟨xfs, h1, h2⟩ := hl.ex
 have hsm := h1.small
 obtain ⟨n1, s2, b3, l4, u5, A6, c7, A8, c9, aP, aQ, eQ, rfl, rfl, eR, eS, gf, eT⟩ := ht.open_
 have eo := eR.small
 have ep := eS.small
 refine enter (n := 54) Tryz.func15 rfl Tryz.ntmps15 kz fun a hE => ?_
 have hW := WOk.start w Nil
 refine go_seq_region [0, 1] kz ?_
 refine of_op (wpOp_box hW hE (d := 5) (cs := [.int .i64 n1, .slice A6 s2.length c7, .bool b3, .slice A8 l4.length c9, .slice aP u5.length aQ]) kz fun cM gg gh eU eV eW c5 da => ?_)
 clear hE hW
 refine of_op (wpOp_alloc c5 da (d := 6) (cs := [.int .i64 0, .slice none 0 0, .bool false, .slice none 0 0, .slice none 0 0]) kz fun cN gi gj eX eY eZ cH db => ?_)
 clear da c5
 refine wpOps_nil (then_normal ?_)
 refine go_seq_region [0, 1, 2] kz ?_
 refine go_rn [0] [1, 2] [(0, .v (.slice A l.length c)), (1, .v (.int .i64 v)), (5, .p 0 0), (6, .p 1 0), (12, .v (.agg #[.int .i64 0, .slice none 0 0, .bool false, .slice none 0 0, .slice none 0 0]))] cH db fun gk dc => ?_
 clear db
 refine of_op (wpOp_alloc cH dc (d := 7) (cs := [.int .i64 0, .slice none 0 0, .bool false, .slice none 0 0, .slice none 0 0]) kz fun cO gl gm e5 e6 e7 de df => ?_)
 clear dc cH
 refine of_op (wpOp_store de df (oi := 2) (cs := [.int .i64 0, .slice none 0 0, .bool false, .slice none 0 0, .slice none 0 0]) kz fun gn e9 bG dg => ?_)
 clear df de
 refine wpOps_nil (then_normal ?_)
 refine wp_seq ?_
 refine go_sp [(0, .v (.slice A l.length c)), (1, .v (.int .i64 v)), (5, .p 0 0), (6, .p 1 0), (7, .p 2 0), (13, .v (.slice A l.length c)), (14, .v (.int .i64 ((l.length : Nat) : Int))), (15, .v (.int .i64 0))] bG dg fun gp dh => ?_
 clear dg
 refine wp_block ?_
 have di := bG.addNil 26 5
 have fa := bG.frNil 26 5
 clear bG
 refine wp_loop_ghost (fun n_ a_ w_ => ∃ (k : Nat) (A_ : Option Addr) (c_ : Nat) (xs : List Value) (css : List (List Value)), n_ = l.length - k ∧ k ≤ l.length ∧ (Trees w_ (Imm F w w_ [⟨cM, 0, [.int .i64 n1, .slice A6 s2.length c7, .bool b3, .slice A8 l4.length c9, .slice aP u5.length aQ], true⟩, ⟨cN, 0, [.int .i64 0, .slice none 0 0, .bool false, .slice none 0 0, .slice none 0 0], true⟩, ⟨cO, 0, [.int .i64 0, .slice none 0 0, .bool false, .slice A_ k c_, .slice none 0 0], true⟩] [⟨A_, c_, 26, 5, k, xs⟩]) xs ((fitsW W l (Tree.mk n1 s2 b3 l4 u5) 0).take k) css) ∧ LInv di 54 [⟨cM, 0, [.int .i64 n1, .slice A6 s2.length c7, .bool b3, .slice A8 l4.length c9, .slice aP u5.length aQ], true⟩, ⟨cN, 0, [.int .i64 0, .slice none 0 0, .bool false, .slice none 0 0, .slice none 0 0], true⟩, ⟨cO, 0, [.int .i64 0, .slice none 0 0, .bool false, .slice A_ k c_, .slice none 0 0], true⟩] [⟨A_, c_, 26, 5, k, xs⟩] [(0, .v (.slice A l.length c)), (1, .v (.int .i64 v)), (5, .p 0 0), (6, .p 1 0), (7, .p 2 0), (13, .v (.slice A l.length c)), (14, .v (.int .i64 ((l.length : Nat) : Int))), (15, .v (.int .i64 ((k : Nat) : Int)))] a_ w_) (l.length) ⟨0, none, 0, [], [], by omega, by omega, Trees.nil _ _, dh.pk, di, Fr.refl _ _ _⟩ ?_
 clear dh
 rintro gq gt gu ⟨k, A_, c_, xs, css, fb, fc, hT, dj, ab, dN⟩
 refine go_sp [(0, .v (.slice A l.length c)), (1, .v (.int .i64 v)), (5, .p 0 0), (6, .p 1 0), (7, .p 2 0), (13, .v (.slice A l.length c)), (14, .v (.int .i64 ((l.length : Nat) : Int))), (15, .v (.int .i64 ((k : Nat) : Int))), (16, .v (.bool (decide (((k : Nat) : Int) < ((l.length : Nat) : Int)))))] ab dj fun gv aR => ?_
 clear dj
 refine wp_seq ?_
 refine cond_of aR (b := decide (((k : Nat) : Int) < ((l.length : Nat) : Int))) kz (fun cI => ?_) (fun cI => ?_)
 ·
  have fe := of_decide_eq_true cI
  refine wp_skip ?_
  refine then_normal ?_
  refine wp_seq ?_
  refine wp_block ?_
  refine go_seq_region [0, 1, 2, 3, 4, 5] kz ?_
  refine go_rn [0] [1, 2, 3, 4, 5] [(0, .v (.slice A l.length c)), (1, .v (.int .i64 v)), (5, .p 0 0), (6, .p 1 0), (7, .p 2 0), (13, .v (.slice A l.length c)), (14, .v (.int .i64 ((l.length : Nat) : Int))), (15, .v (.int .i64 ((k : Nat) : Int))), (17, .v (.int .i64 ((k : Nat) : Int)))] ab aR fun gw dl => ?_
  clear aR
  obtain ⟨ff, fg, dO, fh, bH⟩ := Slots.get h1 (i := k) (by omega)
  obtain ⟨fi, cJ⟩ : ∃ x, l[k]? = some x := ⟨_, List.getElem?_eq_getElem (by omega)⟩
  have cK := h2 k fi cJ
  obtain ⟨cP, cQ, cR, cS, cT, cV, cW, cX, cY, cZ, fj, rfl, bI, fk, gx⟩ := cK.open_
  rw [bI] at cK
  have eu := fk.small
  rw [bI] at bH
  refine of_op (wpOp_index dl (t := 29) (A := A) (m := l.length) (q := ((k : Nat) : Int)) (d := 18) kz (e := 51) (size := 8) (bytes := 80) kz dO rfl (by omega) fun gy dp => ?_)
  clear dl
  refine of_op (wpOp_load dp (t := 51) (b := ff) (o := fg + k * 8) (d := 19) kz (cs := [.int .i64 cP, .int .i64 cQ, .int .i64 cR, .int .i64 cS, .int .i64 cT, .int .i64 cV, .int .i64 cW, .slice cY cX.length cZ]) (v := .agg #[.int .i64 cP, .int .i64 cQ, .int .i64 cR, .int .i64 cS, .int .i64 cT, .int .i64 cV, .int .i64 cW, .slice cY cX.length cZ]) kz (AtF.move bH ab.step nilM keepF).at_ fun gz dq => ?_)
  clear dp
  refine of_op (wpOp_alloc ab dq (d := 9) (cs := [.int .i64 0, .int .i64 0, .int .i64 0, .int .i64 0, .int .i64 0, .int .i64 0, .int .i64 0, .slice none 0 0]) kz fun gA gB gC fl ev aS aT bJ => ?_)
  clear dq ab
  refine go_rn [4] [5] [(0, .v (.slice A l.length c)), (1, .v (.int .i64 v)), (5, .p 0 0), (6, .p 1 0), (7, .p 2 0), (8, .v (.int .i64 ((k : Nat) : Int))), (9, .p 3 0), (13, .v (.slice A l.length c)), (14, .v (.int .i64 ((l.length : Nat) : Int))), (15, .v (.int .i64 ((k : Nat) : Int))), (19, .v (.agg #[.int .i64 cP, .int .i64 cQ, .int .i64 cR, .int .i64 cS, .int .i64 cT, .int .i64 cV, .int .i64 cW, .slice cY cX.length cZ]))] aT bJ fun fm bK => ?_
  clear bJ
  refine of_op (wpOp_store aT bK (oi := 3) (cs := [.int .i64 cP, .int .i64 cQ, .int .i64 cR, .int .i64 cS, .int .i64 cT, .int .i64 cV, .int .i64 cW, .slice cY cX.length cZ]) kz fun fo aU bL bM => ?_)
  clear bK aT
  refine wpOps_nil (then_normal ?_)
  refine go_drawK 11 kz bL fun fp aV aA dr => ?_
  clear bL
  refine go_rnD [0, 1, 2, 3, 4, 5] [(0, .v (.slice A l.length c)), (1, .v (.int .i64 v)), (5, .p 0 0), (6, .p 1 0), (7, .p 2 0), (13, .v (.slice A l.length c)), (14, .v (.int .i64 ((l.length : Nat) : Int))), (15, .v (.int .i64 ((k : Nat) : Int))), (21, .v (.slice A_ k c_)), (22, .v (.agg #[.int .i64 cP, .int .i64 cQ, .int .i64 cR, .int .i64 cS, .int .i64 cT, .int .i64 cV, .int .i64 cW, .slice cY cX.length cZ])), (23, .v (.int .i64 v)), (24, .v (.agg #[.int .i64 n1, .slice A6 s2.length c7, .bool b3, .slice A8 l4.length c9, .slice aP u5.length aQ])), (25, .v (.int .i64 ((k : Nat) : Int)))] 6 (panicFree_block (panicFree_then (panicFree_then (panicFree_block (panicFree_then panicFree_body))))) (fun _ h => h.cells) dr bM fun fq bN => ?_
  clear bM
  refine anyC_op (i := 6) kz (wpOp_call bN (f := 37) (vs := [.agg #[.int .i64 n1, .slice A6 s2.length c7, .bool b3, .slice A8 l4.length c9, .slice aP u5.length aQ], .int .i64 ((k : Nat) : Int)]) (d := 26) kz Tryz.call37 (sAt _ _ k _ _ (ht.move aA.step nilM aA.imm)) ?_)
  rintro e_ fr ⟨ew, rfl, dt, aB⟩
  have aW := dt.move aB nilM (fun b o h_ hb_ => aA.laid (G := F) aB b o (.inl h_) (Nat.lt_of_lt_of_le hb_ aB.size))
  obtain ⟨dP, dQ, dR, dS, dT, dU, dV, dW, dX, dY, dZ, ey, ez, aX, d4, d5, ft, fu⟩ := aW.open_
  rw [aX] at aW
  have d6 := d4.small
  have d7 := d5.small
  rw [aX]
  refine ⟨_, rfl, fun fv bO => ?_⟩
  have ar := aA.next_nil aB
  have aj := aA.frN aB
  clear bN
  have du := TT.ofW aj ar
  refine ⟨fun _ => du, ?_⟩
  refine anyC_op (i := 7) kz (wpOp_call bO (f := 36) (vs := [.agg #[.int .i64 cP, .int .i64 cQ, .int .i64 cR, .int .i64 cS, .int .i64 cT, .int .i64 cV, .int .i64 cW, .slice cY cX.length cZ], .int .i64 v, .agg #[.int .i64 dP, .slice dU dQ.length dV, .bool dR, .slice dW dS.length dX, .slice dY dT.length dZ]]) (d := 27) kz Tryz.call36 ( hW_ _ _ _ _ _ _ (List.mem_of_getElem? cJ) (cK.move ar.step nilM ar.imm) aW) ?_)
  rintro e_ fw ⟨eA, rfl, dv, aY⟩
  have aZ := dv.move (Step.refl _ Nil) nilM (ar.laid (G := F) aY)
  obtain ⟨ba, bd, bf, bg, bh, bi, bj, bk, bn, bp, bq, eB, eC, br, d8, d9, fx, fy⟩ := aZ.open_
  rw [br] at aZ
  have ea := d8.small
  have eb := d9.small
  rw [br]
  refine ⟨_, rfl, fun fz bP => ?_⟩
  have bt := ar.next_nil aY
  have au := ar.frN aY
  clear bO
  have dw := TT.ofW (aj.trans au) bt
  refine ⟨fun _ => dw, ?_⟩
  refine anyC_op (i := 8) kz (wpOp_lit bt bP (e := 26) (size := 5) (len := 1) (cs := [.int .i64 ba, .slice bi bd.length bj, .bool bf, .slice bk bg.length bn, .slice bp bh.length bq]) (d := 28) kz kz fun ec fA fB eD eE ak aC bQ => ?_)
  clear bP bt
  have dx := TT.ofW ((aj.trans au).trans ak) aC
  refine ⟨fun _ => dx, ?_⟩
  refine anyC_op (i := 9) kz (wpOp_append aC bQ (k := 0) (d := 29) (t := 23) (e := 26) (size := 5) (bytes := 88) (A := A_) (As := (some ⟨ec, 0, none⟩)) (m0 := k) (c := c_) (m := 1) (cs := 1) (xs := xs) (news := [.int .i64 ba, .slice bi bd.length bj, .bool bf, .slice bk bg.length bn, .slice bp bh.length bq]) kz kz rfl (own_src (aC.own 1 _ rfl) (allOne_ok kz)) (own_cap (aC.own 1 _ rfl)) (by omega) fun bu bv fC fD av bw bR => ?_)
  clear bQ aC
  have bS := TT.ofW (((aj.trans au).trans ak).trans av) bw
  refine ⟨fun _ => bS, ?_⟩
  refine go_rnD [10] [(0, .v (.slice A l.length c)), (1, .v (.int .i64 v)), (5, .p 0 0), (6, .p 1 0), (7, .p 2 0), (13, .v (.slice A l.length c)), (14, .v (.int .i64 ((l.length : Nat) : Int))), (15, .v (.int .i64 ((k : Nat) : Int))), (29, .v (.slice bu (k + 1) bv)), (30, .p 2 3)] 1 (panicFree_block (panicFree_then (panicFree_then (panicFree_block (panicFree_then panicFree_body))))) (fun _ h => h.cells) bS bR fun fE bT => ?_
  clear bR
  refine anyC_op (i := 11) kz (wpOp_store bw bT (oi := 2) (cs := [.int .i64 0, .slice none 0 0, .bool false, .slice bu (k + 1) bv, .slice none 0 0]) kz fun fF aD bU bV => ?_)
  clear bT bw
  refine ⟨fun h => absurd rfl h, ?_⟩
  refine anyC_done kz ?_ _
  refine block_normal ?_
  refine then_normal ?_
  refine go_region [0, 1] kz ?_
  refine go_rn [0, 1] [] [(0, .v (.slice A l.length c)), (1, .v (.int .i64 v)), (5, .p 0 0), (6, .p 1 0), (7, .p 2 0), (13, .v (.slice A l.length c)), (14, .v (.int .i64 ((l.length : Nat) : Int))), (15, .v (.int .i64 (IntKind.i64.wrap (((k : Nat) : Int) + 1))))] bU bV fun fG dy => ?_
  clear bV
  refine wpOps_nil (then_normal ?_)
  obtain ⟨bW, dz, aE⟩ := bU.cutB dy 3 [⟨cM, 0, [.int .i64 n1, .slice A6 s2.length c7, .bool b3, .slice A8 l4.length c9, .slice aP u5.length aQ], true⟩, ⟨cN, 0, [.int .i64 0, .slice none 0 0, .bool false, .slice none 0 0, .slice none 0 0], true⟩, ⟨cO, 0, [.int .i64 0, .slice none 0 0, .bool false, .slice bu (k + 1) bv, .slice none 0 0], true⟩] [(0, .v (.slice A l.length c)), (1, .v (.int .i64 v)), (5, .p 0 0), (6, .p 1 0), (7, .p 2 0), (13, .v (.slice A l.length c)), (14, .v (.int .i64 ((l.length : Nat) : Int))), (15, .v (.int .i64 (IntKind.i64.wrap (((k : Nat) : Int) + 1))))]
  obtain ⟨dA, aF⟩ := dz.cutR 1 [⟨bu, bv, 26, 5, k + 1, xs ++ [.int .i64 ba, .slice bi bd.length bj, .bool bf, .slice bk bg.length bn, .slice bp bh.length bq]⟩]
  have dB : IntKind.i64.wrap (((k : Nat) : Int) + 1) = ((k + 1 : Nat) : Int) := wrap_succ (by omega)
  rw [dB] at bW
  exact ⟨l.length - (k + 1), by omega, k + 1, bu, bv, xs ++ [Value.int .i64 ba, .slice bi bd.length bj, .bool bf, .slice bk bg.length bn, .slice bp bh.length bq], (css ++ [[Value.int .i64 ba, .slice bi bd.length bj, .bool bf, .slice bk bg.length bn, .slice bp bh.length bq]]), rfl, by omega, by rw [take_succ_of (fits_get cJ)]; exact (hT.move (((((((((aS.trans aU).trans aV).trans aj).trans au).trans ak).trans av).trans aD).trans aE).trans aF).step immM (((((((((aS.trans aU).trans aV).trans aj).trans au).trans ak).trans av).trans aD).trans aE).trans aF).to').snoc (aZ.move ((((ak.trans av).trans aD).trans aE).trans aF).step immM ((((ak.trans av).trans aD).trans aE).trans aF).to'), bW.pk, dA, ((((((((((dN.trans aS).trans aU).trans aV).trans aj).trans au).trans ak).trans av).trans aD).trans aE).trans aF)⟩
 ·
  have eF := of_decide_eq_false cI
  refine wp_exit ?_
  refine then_exit ?_
  refine then_exit ?_
  refine block_exit ?_
  refine then_normal ?_
  refine wp_seq ?_
  refine go_seq_region [0, 1, 2, 3, 4, 5] kz ?_
  refine go_rn [0, 1, 2] [3, 4, 5] [(6, .p 1 0), (7, .p 2 0), (32, .v (.slice A l.length c)), (34, .v (.slice aP u5.length aQ))] ab aR fun fH bX => ?_
  clear aR
  refine of_op (wpOp_call bX (f := 38) (vs := [.slice A l.length c, .slice aP u5.length aQ]) (d := 35) kz Tryz.call38 (sUnknown _ _ l _ _ u5 _ _ ⟨xfs, (h1.move ab.step nilM ab.imm), (fun i_ x_ h_ => ((h2 i_ x_ h_).move ab.step nilM ab.imm))⟩ (eT.move ab.step nilM ab.imm)) ?_)
  rintro e_ fI ⟨ay, aG, rfl, dC, bz⟩
  have dD := dC.move (Step.refl _ Nil) nilM (ab.laid (G := F) bz)
  refine ⟨_, rfl, fun fJ bY => ?_⟩
  have aM := ab.next_nil bz
  have bZ := ab.frN bz
  clear bX
  refine go_rn [4, 5] [] [(6, .p 1 0), (7, .p 2 0), (35, .v (.slice ay ((unknownT l u5).length) aG)), (36, .v (.int .i64 (((unknownT l u5).length : Nat) : Int))), (37, .v (.int .i64 0))] aM bY fun fK b0 => ?_
  clear bY
  refine wpOps_nil (then_normal ?_)
  refine wp_block ?_
  obtain ⟨eG, dE, ee⟩ := dD.ex
  have ef := dE.small
  have hk0 : k = (fitsW W l (Tree.mk n1 s2 b3 l4 u5) 0).length := by rw [fits_len]; omega
  have b5 := aM.addNil 63 2
  have af := aM.frNil 63 2
  clear aM
  refine wp_loop_ghost (fun n_ a_ w_ => ∃ (q : Nat) (A5_ : Option Addr) (c5_ : Nat) (ys : List Value) (dss : List (List Value)), n_ = (unknownT l u5).length - q ∧ q ≤ (unknownT l u5).length ∧ (Tags w_ (Imm F w w_ [⟨cM, 0, [.int .i64 n1, .slice A6 s2.length c7, .bool b3, .slice A8 l4.length c9, .slice aP u5.length aQ], true⟩, ⟨cN, 0, [.int .i64 0, .slice none 0 0, .bool false, .slice none 0 0, .slice none 0 0], true⟩, ⟨cO, 0, [.int .i64 0, .slice none 0 0, .bool false, .slice A_ k c_, .slice A5_ q c5_], true⟩] [⟨A_, c_, 26, 5, k, xs⟩, ⟨A5_, c5_, 63, 2, q, ys⟩]) ys ((wholeU (unknownT l u5)).take q) dss) ∧ LInv b5 54 [⟨cM, 0, [.int .i64 n1, .slice A6 s2.length c7, .bool b3, .slice A8 l4.length c9, .slice aP u5.length aQ], true⟩, ⟨cN, 0, [.int .i64 0, .slice none 0 0, .bool false, .slice none 0 0, .slice none 0 0], true⟩, ⟨cO, 0, [.int .i64 0, .slice none 0 0, .bool false, .slice A_ k c_, .slice A5_ q c5_], true⟩] [⟨A_, c_, 26, 5, k, xs⟩, ⟨A5_, c5_, 63, 2, q, ys⟩] [(6, .p 1 0), (7, .p 2 0), (35, .v (.slice ay ((unknownT l u5).length) aG)), (36, .v (.int .i64 (((unknownT l u5).length : Nat) : Int))), (37, .v (.int .i64 ((q : Nat) : Int)))] a_ w_) ((unknownT l u5).length) ⟨0, none, 0, [], [], by omega, by omega, Tags.nil _ _, b0.pk, b5, Fr.refl _ _ _⟩ ?_
  clear b0
  rintro fL fM fN ⟨q, A5_, c5_, ys, dss, eH, eI, hU, b6, aw, ac⟩
  refine go_sp [(6, .p 1 0), (7, .p 2 0), (35, .v (.slice ay ((unknownT l u5).length) aG)), (36, .v (.int .i64 (((unknownT l u5).length : Nat) : Int))), (37, .v (.int .i64 ((q : Nat) : Int))), (38, .v (.bool (decide (((q : Nat) : Int) < (((unknownT l u5).length : Nat) : Int)))))] aw b6 fun fO aH => ?_
  clear b6
  refine wp_seq ?_
  refine cond_of aH (b := decide (((q : Nat) : Int) < (((unknownT l u5).length : Nat) : Int))) kz (fun bA => ?_) (fun bA => ?_)
  ·
   have eJ := of_decide_eq_true bA
   refine wp_skip ?_
   refine then_normal ?_
   refine wp_seq ?_
   refine wp_block ?_
   refine go_seq_region [0, 1, 2, 3] kz ?_
   obtain ⟨eg, eh, dF, eK, bB⟩ := Slots.get dE (i := q) (by omega)
   obtain ⟨⟨ae, aa⟩, b8⟩ : ∃ x, (unknownT l u5)[q]? = some x := ⟨_, List.getElem?_eq_getElem (by omega)⟩
   obtain ⟨⟨ah, ai, cL, ca⟩, ei, ej⟩ := ee q ae aa b8
   rw [cL] at bB
   refine of_op (wpOp_index aH (t := 24) (A := ay) (m := ((unknownT l u5).length)) (q := ((q : Nat) : Int)) (d := 39) kz (e := 63) (size := 2) (bytes := 32) kz dF rfl (by omega) fun fP cb => ?_)
   clear aH
   refine of_op (wpOp_load cb (t := 63) (b := eg) (o := eh + q * 2) (d := 40) kz (cs := [.int .u32 ae, .slice ah aa.length ai]) (v := .agg #[.int .u32 ae, .slice ah aa.length ai]) kz (AtF.move bB (af.trans ac).step immM (af.trans ac).to').at_ fun fQ cc => ?_)
   clear cb
   refine of_op (wpOp_alloc aw cc (d := 11) (cs := [.int .u32 0, .slice none 0 0]) kz fun fR fS fT eL eM al cd ce => ?_)
   clear cc aw
   refine of_op (wpOp_store cd ce (oi := 3) (cs := [.int .u32 ae, .slice ah aa.length ai]) kz fun fU am cg cl => ?_)
   clear ce cd
   refine wpOps_nil (then_normal ?_)
   refine go_drawK 11 kz cg fun fV ao cm dG => ?_
   clear cg
   refine go_rnD [0, 1, 2, 3, 4, 5] [(6, .p 1 0), (7, .p 2 0), (35, .v (.slice ay ((unknownT l u5).length) aG)), (36, .v (.int .i64 (((unknownT l u5).length : Nat) : Int))), (37, .v (.int .i64 ((q : Nat) : Int))), (42, .v (.slice A5_ q c5_)), (44, .v (.int .u32 ae)), (46, .v (.slice ah aa.length ai))] 6 (panicFree_block (panicFree_then (panicFree_then (panicFree_block (panicFree_then panicFree_body))))) (fun _ h => h.cells) dG cl fun fW cq => ?_
   clear cl
   have ek := whole_le aa
   refine anyC_op (i := 6) kz (wpOp_call cq (f := 39) (vs := [.slice ah aa.length ai]) (d := 47) kz Tryz.call39 (sWhole _ _ aa (ca.move ((((af.trans ac).trans al).trans am).trans ao).step immM ((((af.trans ac).trans al).trans am).trans ao).to').le _) ?_)
   rintro e_ fX ⟨rfl, cr⟩
   refine ⟨_, rfl, fun fY cu => ?_⟩
   have bC := cm.next_nil cr
   have ag := cm.frN cr
   clear cq
   have cv := TT.ofW ag bC
   refine ⟨fun _ => cv, ?_⟩
   refine go_rnD [7] [(6, .p 1 0), (7, .p 2 0), (35, .v (.slice ay ((unknownT l u5).length) aG)), (36, .v (.int .i64 (((unknownT l u5).length : Nat) : Int))), (37, .v (.int .i64 ((q : Nat) : Int))), (42, .v (.slice A5_ q c5_)), (48, .v (.agg #[.int .u32 ae, .slice ah ((whole aa).length) ai]))] 4 (panicFree_block (panicFree_then (panicFree_then (panicFree_block (panicFree_then panicFree_body))))) (fun _ h => h.cells) cv cu fun fZ cw => ?_
   clear cu
   refine anyC_op (i := 8) kz (wpOp_lit bC cw (e := 63) (size := 2) (len := 1) (cs := [.int .u32 ae, .slice ah ((whole aa).length) ai]) (d := 49) kz kz fun em f0 f5 eN eO ap aI cy => ?_)
   clear cw bC
   have dH := TT.ofW (ag.trans ap) aI
   refine ⟨fun _ => dH, ?_⟩
   refine anyC_op (i := 9) kz (wpOp_append aI cy (k := 1) (d := 50) (t := 24) (e := 63) (size := 2) (bytes := 32) (A := A5_) (As := (some ⟨em, 0, none⟩)) (m0 := q) (c := c5_) (m := 1) (cs := 1) (xs := ys) (news := [.int .u32 ae, .slice ah ((whole aa).length) ai]) kz kz rfl (own_src (aI.own 2 _ rfl) (allOne_ok kz)) (own_cap (aI.own 2 _ rfl)) (by omega) fun bD bE f8 f9 ax bF cz => ?_)
   clear cy aI
   have cA := TT.ofW ((ag.trans ap).trans ax) bF
   refine ⟨fun _ => cA, ?_⟩
   refine go_rnD [10] [(6, .p 1 0), (7, .p 2 0), (35, .v (.slice ay ((unknownT l u5).length) aG)), (36, .v (.int .i64 (((unknownT l u5).length : Nat) : Int))), (37, .v (.int .i64 ((q : Nat) : Int))), (50, .v (.slice bD (q + 1) bE)), (51, .p 2 4)] 1 (panicFree_block (panicFree_then (panicFree_then (panicFree_block (panicFree_then panicFree_body))))) (fun _ h => h.cells) cA cz fun ga cB => ?_
   clear cz
   refine anyC_op (i := 11) kz (wpOp_store bF cB (oi := 2) (cs := [.int .i64 0, .slice none 0 0, .bool false, .slice A_ k c_, .slice bD (q + 1) bE]) kz fun gb aJ cC cD => ?_)
   clear cB bF
   refine ⟨fun h => absurd rfl h, ?_⟩
   refine anyC_done kz ?_ _
   refine block_normal ?_
   refine then_normal ?_
   refine go_region [0, 1] kz ?_
   refine go_rn [0, 1] [] [(6, .p 1 0), (7, .p 2 0), (35, .v (.slice ay ((unknownT l u5).length) aG)), (36, .v (.int .i64 (((unknownT l u5).length : Nat) : Int))), (37, .v (.int .i64 (IntKind.i64.wrap (((q : Nat) : Int) + 1))))] cC cD fun gc dI => ?_
   clear cD
   refine wpOps_nil (then_normal ?_)
   obtain ⟨cE, dJ, aK⟩ := cC.cutB dI 3 [⟨cM, 0, [.int .i64 n1, .slice A6 s2.length c7, .bool b3, .slice A8 l4.length c9, .slice aP u5.length aQ], true⟩, ⟨cN, 0, [.int .i64 0, .slice none 0 0, .bool false, .slice none 0 0, .slice none 0 0], true⟩, ⟨cO, 0, [.int .i64 0, .slice none 0 0, .bool false, .slice A_ k c_, .slice bD (q + 1) bE], true⟩] [(6, .p 1 0), (7, .p 2 0), (35, .v (.slice ay ((unknownT l u5).length) aG)), (36, .v (.int .i64 (((unknownT l u5).length : Nat) : Int))), (37, .v (.int .i64 (IntKind.i64.wrap (((q : Nat) : Int) + 1))))]
   obtain ⟨dK, aL⟩ := dJ.cutR 2 [⟨A_, c_, 26, 5, k, xs⟩, ⟨bD, bE, 63, 2, q + 1, ys ++ [.int .u32 ae, .slice ah ((whole aa).length) ai]⟩]
   have dL : IntKind.i64.wrap (((q : Nat) : Int) + 1) = ((q + 1 : Nat) : Int) := wrap_succ (by omega)
   rw [dL] at cE
   exact ⟨(unknownT l u5).length - (q + 1), by omega, q + 1, bD, bE, ys ++ [Value.int .u32 ae, .slice ah ((whole aa).length) ai], (dss ++ [[Value.int .u32 ae, .slice ah ((whole aa).length) ai]]), rfl, by omega, by rw [take_succ_of (wholeU_get b8)]; exact (hU.move ((((((((al.trans am).trans ao).trans ag).trans ap).trans ax).trans aJ).trans aK).trans aL).step immM ((((((((al.trans am).trans ao).trans ag).trans ap).trans ax).trans aJ).trans aK).trans aL).to').snoc (c := [.int .u32 ae, .slice ah ((whole aa).length) ai]) (x := (ae, whole aa)) ⟨⟨_, _, rfl, ((ca.move ((((((((((af.trans ac).trans al).trans am).trans ao).trans ag).trans ap).trans ax).trans aJ).trans aK).trans aL).step immM ((((((((((af.trans ac).trans al).trans am).trans ao).trans ag).trans ap).trans ax).trans aJ).trans aK).trans aL).to').take 32767)⟩, ei, ej⟩, cE.pk, dK, (((((((((ac.trans al).trans am).trans ao).trans ag).trans ap).trans ax).trans aJ).trans aK).trans aL)⟩
  ·
   have eP := of_decide_eq_false bA
   refine wp_exit ?_
   refine then_exit ?_
   refine then_exit ?_
   refine block_exit ?_
   refine then_normal ?_
   refine go_seq_region [0, 1] kz ?_
   refine go_rn [0] [1] [(6, .p 1 0), (53, .v (.agg #[.int .i64 0, .slice none 0 0, .bool false, .slice A_ k c_, .slice A5_ q c5_]))] aw aH fun gd cG => ?_
   clear aH
   refine of_op (wpOp_store aw cG (oi := 1) (cs := [.int .i64 0, .slice none 0 0, .bool false, .slice A_ k c_, .slice A5_ q c5_]) kz fun ge aN aO dM => ?_)
   clear cG aw
   refine wpOps_nil (then_normal ?_)
   refine wp_ret ?_
   refine leave dM aO.cells (v := .agg #[.int .i64 0, .slice none 0 0, .bool false, .slice A_ k c_, .slice A5_ q c5_]) kz ?_
   have hq0 : q = (wholeU (unknownT l u5)).length := by rw [wholeU_len]; omega
   have hT' := (hT.move (((bZ.trans af).trans ac).trans aN).step immM (((bZ.trans af).trans ac).trans aN).to')
   have hU' := (hU.move aN.step immM aN.to')
   rw [show (fitsW W l (Tree.mk n1 s2 b3 l4 u5) 0).take k = (fitsW W l (Tree.mk n1 s2 b3 l4 u5) 0) by rw [hk0, List.take_length]] at hT'
   rw [show (wholeU (unknownT l u5)).take q = (wholeU (unknownT l u5)) by rw [hq0, List.take_length]] at hU'
   exact tree_end aO rfl (Octs.nil _ _) hk0 (trees_fp aO (k := 0) rfl hT' hk0 (by rw [fits_len]; omega)) hq0 (tags_fp aO (k := 1) rfl hU' hq0 (by rw [wholeU_len]; omega)) rfl
theorem sFitOK : ∀ d, FitOK d
 | 0 => fun A c l v ct t w F hl hpl hd ht => sFit (fun _ _ => .zero) A c l v ct t w F (fun cf f ct t w F hm hf ht => by
   obtain ⟨i, hi⟩ := List.mem_iff_getElem?.1 hm
   have h := depths_get hi
   obtain ⟨k, x1, x2, x3, x4, x5, x6, l, A, c, xs, rfl, _⟩ := hf.open_
   rw [depth_mk] at h; omega) hl ht
 | d + 1 => fun A c l v ct t w F hl hpl hd ht => sFit (fittedW (fitT v d) v) A c l v ct t w F (fun cf f ct t w F hm hf ht => sFitted (sFitOK d) cf f v ct t w F hf (plains_mem hpl hm) (by
   obtain ⟨i, hi⟩ := List.mem_iff_getElem?.1 hm
   have h := depths_get hi
   obtain ⟨k, x1, x2, x3, x4, x5, x6, l, A, c, xs, rfl, _⟩ := hf.open_
   rw [depth_mk] at h
   show depths l ≤ d
   omega) ht) hl ht
def sStreamsGroupHeartbeatResponseF : List Fld := [(Fld.mk 3 0 (-1) (-1) (-1) 0 0 []), (Fld.mk 2 0 (-1) (-1) (-1) 0 0 []), (Fld.mk 8 0 (-1) 0 (-1) 0 0 []), (Fld.mk 8 0 (-1) (-1) (-1) 0 0 []), (Fld.mk 3 0 (-1) (-1) (-1) 0 0 []), (Fld.mk 3 0 (-1) (-1) (-1) 0 0 []), (Fld.mk 3 0 0 (-1) (-1) 0 0 []), (Fld.mk 3 0 (-1) (-1) (-1) 0 0 []), (Fld.mk 4 1 (-1) (-1) (-1) (-1) 0 []), (Fld.mk 11 0 (-1) 0 (-1) 0 10 [(Fld.mk 1 0 (-1) (-1) (-1) 0 0 []), (Fld.mk 8 0 (-1) (-1) (-1) 0 0 [])]), (Fld.mk 11 0 (-1) 0 (-1) 0 10 [(Fld.mk 8 0 (-1) (-1) (-1) 0 0 []), (Fld.mk 11 0 (-1) (-1) (-1) 0 3 [])]), (Fld.mk 11 0 (-1) 0 (-1) 0 10 [(Fld.mk 8 0 (-1) (-1) (-1) 0 0 []), (Fld.mk 11 0 (-1) (-1) (-1) 0 3 [])]), (Fld.mk 11 0 (-1) 0 (-1) 0 10 [(Fld.mk 8 0 (-1) (-1) (-1) 0 0 []), (Fld.mk 11 0 (-1) (-1) (-1) 0 3 [])]), (Fld.mk 0 1 (-1) (-1) (-1) 0 0 []), (Fld.mk 3 0 (-1) (-1) (-1) 0 0 []), (Fld.mk 11 0 (-1) 0 (-1) 0 10 [(Fld.mk 10 0 (-1) (-1) (-1) 0 0 [(Fld.mk 8 0 (-1) (-1) (-1) 0 0 []), (Fld.mk 5 0 (-1) (-1) (-1) 0 0 [])]), (Fld.mk 11 0 (-1) (-1) (-1) 0 10 [(Fld.mk 8 0 (-1) (-1) (-1) 0 0 []), (Fld.mk 11 0 (-1) (-1) (-1) 0 3 [])]), (Fld.mk 11 0 (-1) (-1) (-1) 0 10 [(Fld.mk 8 0 (-1) (-1) (-1) 0 0 []), (Fld.mk 11 0 (-1) (-1) (-1) 0 3 [])])])]
def sStreamsGroupHeartbeatResponseX : Int := 0
theorem sStreamsGroupHeartbeatResponse (w : World) (F : Nat → Nat → Prop) : Calls Tryz.prog 27 #[] w (GivesM w F sStreamsGroupHeartbeatResponseF sStreamsGroupHeartbeatResponseX) := by
 refine enter (n := 24) Tryz.func27 rfl Tryz.ntmps27 kz fun a hE => ?_
 have hW := WOk.start w Nil
 refine go_seq_region [0] kz ?_
 refine of_op (wpOp_alloc hW hE (d := 0) (cs := [.slice none 0 0, .int .i64 0]) kz fun b1 a2 w3 hb4 hz5 hF6 hW7 hE8 => ?_)
 clear hE hW
 refine wpOps_nil (then_normal ?_)
 refine go_seq_region [0, 1, 2, 3, 4, 5, 6, 7, 8, 9, 10, 11, 12, 13, 14, 15, 16, 17, 18, 19, 20, 21, 22, 23] kz ?_
 refine go_rn [0, 1, 2, 3, 4, 5, 6, 7, 8] [9, 10, 11, 12, 13, 14, 15, 16, 17, 18, 19, 20, 21, 22, 23] [(0, .p 0 0), (1, .v (.agg #[.int .i64 3, .int .i64 0, .int .i64 (-1), .int .i64 (-1), .int .i64 (-1), .int .i64 0, .int .i64 0, .slice none 0 0])), (2, .v (.agg #[.int .i64 2, .int .i64 0, .int .i64 (-1), .int .i64 (-1), .int .i64 (-1), .int .i64 0, .int .i64 0, .slice none 0 0])), (3, .v (.agg #[.int .i64 8, .int .i64 0, .int .i64 (-1), .int .i64 0, .int .i64 (-1), .int .i64 0, .int .i64 0, .slice none 0 0])), (4, .v (.agg #[.int .i64 8, .int .i64 0, .int .i64 (-1), .int .i64 (-1), .int .i64 (-1), .int .i64 0, .int .i64 0, .slice none 0 0])), (5, .v (.agg #[.int .i64 3, .int .i64 0, .int .i64 (-1), .int .i64 (-1), .int .i64 (-1), .int .i64 0, .int .i64 0, .slice none 0 0])), (6, .v (.agg #[.int .i64 3, .int .i64 0, .int .i64 (-1), .int .i64 (-1), .int .i64 (-1), .int .i64 0, .int .i64 0, .slice none 0 0])), (7, .v (.agg #[.int .i64 3, .int .i64 0, .int .i64 0, .int .i64 (-1), .int .i64 (-1), .int .i64 0, .int .i64 0, .slice none 0 0])), (8, .v (.agg #[.int .i64 3, .int .i64 0, .int .i64 (-1), .int .i64 (-1), .int .i64 (-1), .int .i64 0, .int .i64 0, .slice none 0 0])), (9, .v (.agg #[.int .i64 4, .int .i64 1, .int .i64 (-1), .int .i64 (-1), .int .i64 (-1), .int .i64 (-1), .int .i64 0, .slice none 0 0]))] hW7 hE8 fun a9 bT => ?_
 clear hE8
 refine of_op (wpOp_inline bT (f := 63) (vs := []) (d := 10) (n' := 4) kz Tryz.call63 Tryz.func63 rfl Tryz.ntmps63 kz fun dC bh => ?_)
 refine go_sp [] hW7 bh fun dD bi => ?_
 clear bh
 refine go_seq_region [0, 1, 2, 3] kz ?_
 refine go_rn [0, 1] [2, 3] [(1, .v (.agg #[.int .i64 1, .int .i64 0, .int .i64 (-1), .int .i64 (-1), .int .i64 (-1), .int .i64 0, .int .i64 0, .slice none 0 0])), (2, .v (.agg #[.int .i64 8, .int .i64 0, .int .i64 (-1), .int .i64 (-1), .int .i64 (-1), .int .i64 0, .int .i64 0, .slice none 0 0]))] hW7 bi fun dE bj => ?_
 clear bi
 refine of_op (wpOp_lit hW7 bj (e := 51) (size := 8) (len := 2) (cs := [.int .i64 1, .int .i64 0, .int .i64 (-1), .int .i64 (-1), .int .i64 (-1), .int .i64 0, .int .i64 0, .slice none 0 0, .int .i64 8, .int .i64 0, .int .i64 (-1), .int .i64 (-1), .int .i64 (-1), .int .i64 0, .int .i64 0, .slice none 0 0]) (d := 3) kz kz fun ak dF dG cE cG cH al bk => ?_)
 clear bj hW7
 refine go_rn [3] [] [(0, .v (.slice (some ⟨ak, 0, none⟩) 2 2))] al bk fun dH bU => ?_
 clear bk
 refine wpOps_nil (then_normal ?_)
 refine wp_ret ?_
 refine leave bU al.cells (v := .slice (some ⟨ak, 0, none⟩) 2 2) kz ?_
 refine ⟨_, rfl, fun dI bV => ?_⟩
 have bn : EnvOk 24 [⟨b1, 0, [.slice none 0 0, .int .i64 0], true⟩] [(10, .v (.slice (some ⟨ak, 0, none⟩) 2 2)), (0, .p 0 0), (1, .v (.agg #[.int .i64 3, .int .i64 0, .int .i64 (-1), .int .i64 (-1), .int .i64 (-1), .int .i64 0, .int .i64 0, .slice none 0 0])), (2, .v (.agg #[.int .i64 2, .int .i64 0, .int .i64 (-1), .int .i64 (-1), .int .i64 (-1), .int .i64 0, .int .i64 0, .slice none 0 0])), (3, .v (.agg #[.int .i64 8, .int .i64 0, .int .i64 (-1), .int .i64 0, .int .i64 (-1), .int .i64 0, .int .i64 0, .slice none 0 0])), (4, .v (.agg #[.int .i64 8, .int .i64 0, .int .i64 (-1), .int .i64 (-1), .int .i64 (-1), .int .i64 0, .int .i64 0, .slice none 0 0])), (5, .v (.agg #[.int .i64 3, .int .i64 0, .int .i64 (-1), .int .i64 (-1), .int .i64 (-1), .int .i64 0, .int .i64 0, .slice none 0 0])), (6, .v (.agg #[.int .i64 3, .int .i64 0, .int .i64 (-1), .int .i64 (-1), .int .i64 (-1), .int .i64 0, .int .i64 0, .slice none 0 0])), (7, .v (.agg #[.int .i64 3, .int .i64 0, .int .i64 0, .int .i64 (-1), .int .i64 (-1), .int .i64 0, .int .i64 0, .slice none 0 0])), (8, .v (.agg #[.int .i64 3, .int .i64 0, .int .i64 (-1), .int .i64 (-1), .int .i64 (-1), .int .i64 0, .int .i64 0, .slice none 0 0])), (9, .v (.agg #[.int .i64 4, .int .i64 1, .int .i64 (-1), .int .i64 (-1), .int .i64 (-1), .int .i64 (-1), .int .i64 0, .slice none 0 0]))] _ := bV.places (⟨rfl, rfl, trivial⟩)
 refine go_rn [10] [11, 12, 13, 14, 15, 16, 17, 18, 19, 20, 21, 22, 23] [(0, .p 0 0), (1, .v (.agg #[.int .i64 3, .int .i64 0, .int .i64 (-1), .int .i64 (-1), .int .i64 (-1), .int .i64 0, .int .i64 0, .slice none 0 0])), (2, .v (.agg #[.int .i64 2, .int .i64 0, .int .i64 (-1), .int .i64 (-1), .int .i64 (-1), .int .i64 0, .int .i64 0, .slice none 0 0])), (3, .v (.agg #[.int .i64 8, .int .i64 0, .int .i64 (-1), .int .i64 0, .int .i64 (-1), .int .i64 0, .int .i64 0, .slice none 0 0])), (4, .v (.agg #[.int .i64 8, .int .i64 0, .int .i64 (-1), .int .i64 (-1), .int .i64 (-1), .int .i64 0, .int .i64 0, .slice none 0 0])), (5, .v (.agg #[.int .i64 3, .int .i64 0, .int .i64 (-1), .int .i64 (-1), .int .i64 (-1), .int .i64 0, .int .i64 0, .slice none 0 0])), (6, .v (.agg #[.int .i64 3, .int .i64 0, .int .i64 (-1), .int .i64 (-1), .int .i64 (-1), .int .i64 0, .int .i64 0, .slice none 0 0])), (7, .v (.agg #[.int .i64 3, .int .i64 0, .int .i64 0, .int .i64 (-1), .int .i64 (-1), .int .i64 0, .int .i64 0, .slice none 0 0])), (8, .v (.agg #[.int .i64 3, .int .i64 0, .int .i64 (-1), .int .i64 (-1), .int .i64 (-1), .int .i64 0, .int .i64 0, .slice none 0 0])), (9, .v (.agg #[.int .i64 4, .int .i64 1, .int .i64 (-1), .int .i64 (-1), .int .i64 (-1), .int .i64 (-1), .int .i64 0, .slice none 0 0])), (11, .v (.agg #[.int .i64 11, .int .i64 0, .int .i64 (-1), .int .i64 0, .int .i64 (-1), .int .i64 0, .int .i64 10, .slice (some ⟨ak, 0, none⟩) 2 2]))] al bn fun dJ bW => ?_
 clear bn
 refine of_op (wpOp_inline bW (f := 64) (vs := []) (d := 12) (n' := 4) kz Tryz.call64 Tryz.func64 rfl Tryz.ntmps64 kz fun dK bp => ?_)
 refine go_sp [] al bp fun dL bq => ?_
 clear bp
 refine go_seq_region [0, 1, 2, 3] kz ?_
 refine go_rn [0, 1] [2, 3] [(1, .v (.agg #[.int .i64 8, .int .i64 0, .int .i64 (-1), .int .i64 (-1), .int .i64 (-1), .int .i64 0, .int .i64 0, .slice none 0 0])), (2, .v (.agg #[.int .i64 11, .int .i64 0, .int .i64 (-1), .int .i64 (-1), .int .i64 (-1), .int .i64 0, .int .i64 3, .slice none 0 0]))] al bq fun dM br => ?_
 clear bq
 refine of_op (wpOp_lit al br (e := 51) (size := 8) (len := 2) (cs := [.int .i64 8, .int .i64 0, .int .i64 (-1), .int .i64 (-1), .int .i64 (-1), .int .i64 0, .int .i64 0, .slice none 0 0, .int .i64 11, .int .i64 0, .int .i64 (-1), .int .i64 (-1), .int .i64 (-1), .int .i64 0, .int .i64 3, .slice none 0 0]) (d := 3) kz kz fun au dN dO cI cJ cK am bt => ?_)
 clear br al
 refine go_rn [3] [] [(0, .v (.slice (some ⟨au, 0, none⟩) 2 2))] am bt fun dP bX => ?_
 clear bt
 refine wpOps_nil (then_normal ?_)
 refine wp_ret ?_
 refine leave bX am.cells (v := .slice (some ⟨au, 0, none⟩) 2 2) kz ?_
 refine ⟨_, rfl, fun dQ bY => ?_⟩
 have bu : EnvOk 24 [⟨b1, 0, [.slice none 0 0, .int .i64 0], true⟩] [(12, .v (.slice (some ⟨au, 0, none⟩) 2 2)), (0, .p 0 0), (1, .v (.agg #[.int .i64 3, .int .i64 0, .int .i64 (-1), .int .i64 (-1), .int .i64 (-1), .int .i64 0, .int .i64 0, .slice none 0 0])), (2, .v (.agg #[.int .i64 2, .int .i64 0, .int .i64 (-1), .int .i64 (-1), .int .i64 (-1), .int .i64 0, .int .i64 0, .slice none 0 0])), (3, .v (.agg #[.int .i64 8, .int .i64 0, .int .i64 (-1), .int .i64 0, .int .i64 (-1), .int .i64 0, .int .i64 0, .slice none 0 0])), (4, .v (.agg #[.int .i64 8, .int .i64 0, .int .i64 (-1), .int .i64 (-1), .int .i64 (-1), .int .i64 0, .int .i64 0, .slice none 0 0])), (5, .v (.agg #[.int .i64 3, .int .i64 0, .int .i64 (-1), .int .i64 (-1), .int .i64 (-1), .int .i64 0, .int .i64 0, .slice none 0 0])), (6, .v (.agg #[.int .i64 3, .int .i64 0, .int .i64 (-1), .int .i64 (-1), .int .i64 (-1), .int .i64 0, .int .i64 0, .slice none 0 0])), (7, .v (.agg #[.int .i64 3, .int .i64 0, .int .i64 0, .int .i64 (-1), .int .i64 (-1), .int .i64 0, .int .i64 0, .slice none 0 0])), (8, .v (.agg #[.int .i64 3, .int .i64 0, .int .i64 (-1), .int .i64 (-1), .int .i64 (-1), .int .i64 0, .int .i64 0, .slice none 0 0])), (9, .v (.agg #[.int .i64 4, .int .i64 1, .int .i64 (-1), .int .i64 (-1), .int .i64 (-1), .int .i64 (-1), .int .i64 0, .slice none 0 0])), (11, .v (.agg #[.int .i64 11, .int .i64 0, .int .i64 (-1), .int .i64 0, .int .i64 (-1), .int .i64 0, .int .i64 10, .slice (some ⟨ak, 0, none⟩) 2 2]))] _ := bY.places (⟨rfl, rfl, trivial⟩)
 refine go_rn [12] [13, 14, 15, 16, 17, 18, 19, 20, 21, 22, 23] [(0, .p 0 0), (1, .v (.agg #[.int .i64 3, .int .i64 0, .int .i64 (-1), .int .i64 (-1), .int .i64 (-1), .int .i64 0, .int .i64 0, .slice none 0 0])), (2, .v (.agg #[.int .i64 2, .int .i64 0, .int .i64 (-1), .int .i64 (-1), .int .i64 (-1), .int .i64 0, .int .i64 0, .slice none 0 0])), (3, .v (.agg #[.int .i64 8, .int .i64 0, .int .i64 (-1), .int .i64 0, .int .i64 (-1), .int .i64 0, .int .i64 0, .slice none 0 0])), (4, .v (.agg #[.int .i64 8, .int .i64 0, .int .i64 (-1), .int .i64 (-1), .int .i64 (-1), .int .i64 0, .int .i64 0, .slice none 0 0])), (5, .v (.agg #[.int .i64 3, .int .i64 0, .int .i64 (-1), .int .i64 (-1), .int .i64 (-1), .int .i64 0, .int .i64 0, .slice none 0 0])), (6, .v (.agg #[.int .i64 3, .int .i64 0, .int .i64 (-1), .int .i64 (-1), .int .i64 (-1), .int .i64 0, .int .i64 0, .slice none 0 0])), (7, .v (.agg #[.int .i64 3, .int .i64 0, .int .i64 0, .int .i64 (-1), .int .i64 (-1), .int .i64 0, .int .i64 0, .slice none 0 0])), (8, .v (.agg #[.int .i64 3, .int .i64 0, .int .i64 (-1), .int .i64 (-1), .int .i64 (-1), .int .i64 0, .int .i64 0, .slice none 0 0])), (9, .v (.agg #[.int .i64 4, .int .i64 1, .int .i64 (-1), .int .i64 (-1), .int .i64 (-1), .int .i64 (-1), .int .i64 0, .slice none 0 0])), (11, .v (.agg #[.int .i64 11, .int .i64 0, .int .i64 (-1), .int .i64 0, .int .i64 (-1), .int .i64 0, .int .i64 10, .slice (some ⟨ak, 0, none⟩) 2 2])), (13, .v (.agg #[.int .i64 11, .int .i64 0, .int .i64 (-1), .int .i64 0, .int .i64 (-1), .int .i64 0, .int .i64 10, .slice (some ⟨au, 0, none⟩) 2 2]))] am bu fun dR bZ => ?_
 clear bu
 refine of_op (wpOp_inline bZ (f := 64) (vs := []) (d := 14) (n' := 4) kz Tryz.call64 Tryz.func64 rfl Tryz.ntmps64 kz fun dS bv => ?_)
 refine go_sp [] am bv fun dT bw => ?_
 clear bv
 refine go_seq_region [0, 1, 2, 3] kz ?_
 refine go_rn [0, 1] [2, 3] [(1, .v (.agg #[.int .i64 8, .int .i64 0, .int .i64 (-1), .int .i64 (-1), .int .i64 (-1), .int .i64 0, .int .i64 0, .slice none 0 0])), (2, .v (.agg #[.int .i64 11, .int .i64 0, .int .i64 (-1), .int .i64 (-1), .int .i64 (-1), .int .i64 0, .int .i64 3, .slice none 0 0]))] am bw fun dU bz => ?_
 clear bw
 refine of_op (wpOp_lit am bz (e := 51) (size := 8) (len := 2) (cs := [.int .i64 8, .int .i64 0, .int .i64 (-1), .int .i64 (-1), .int .i64 (-1), .int .i64 0, .int .i64 0, .slice none 0 0, .int .i64 11, .int .i64 0, .int .i64 (-1), .int .i64 (-1), .int .i64 (-1), .int .i64 0, .int .i64 3, .slice none 0 0]) (d := 3) kz kz fun av dV dW cL cM cN ao bA => ?_)
 clear bz am
 refine go_rn [3] [] [(0, .v (.slice (some ⟨av, 0, none⟩) 2 2))] ao bA fun dX b0 => ?_
 clear bA
 refine wpOps_nil (then_normal ?_)
 refine wp_ret ?_
 refine leave b0 ao.cells (v := .slice (some ⟨av, 0, none⟩) 2 2) kz ?_
 refine ⟨_, rfl, fun dY b5 => ?_⟩
 have bB : EnvOk 24 [⟨b1, 0, [.slice none 0 0, .int .i64 0], true⟩] [(14, .v (.slice (some ⟨av, 0, none⟩) 2 2)), (0, .p 0 0), (1, .v (.agg #[.int .i64 3, .int .i64 0, .int .i64 (-1), .int .i64 (-1), .int .i64 (-1), .int .i64 0, .int .i64 0, .slice none 0 0])), (2, .v (.agg #[.int .i64 2, .int .i64 0, .int .i64 (-1), .int .i64 (-1), .int .i64 (-1), .int .i64 0, .int .i64 0, .slice none 0 0])), (3, .v (.agg #[.int .i64 8, .int .i64 0, .int .i64 (-1), .int .i64 0, .int .i64 (-1), .int .i64 0, .int .i64 0, .slice none 0 0])), (4, .v (.agg #[.int .i64 8, .int .i64 0, .int .i64 (-1), .int .i64 (-1), .int .i64 (-1), .int .i64 0, .int .i64 0, .slice none 0 0])), (5, .v (.agg #[.int .i64 3, .int .i64 0, .int .i64 (-1), .int .i64 (-1), .int .i64 (-1), .int .i64 0, .int .i64 0, .slice none 0 0])), (6, .v (.agg #[.int .i64 3, .int .i64 0, .int .i64 (-1), .int .i64 (-1), .int .i64 (-1), .int .i64 0, .int .i64 0, .slice none 0 0])), (7, .v (.agg #[.int .i64 3, .int .i64 0, .int .i64 0, .int .i64 (-1), .int .i64 (-1), .int .i64 0, .int .i64 0, .slice none 0 0])), (8, .v (.agg #[.int .i64 3, .int .i64 0, .int .i64 (-1), .int .i64 (-1), .int .i64 (-1), .int .i64 0, .int .i64 0, .slice none 0 0])), (9, .v (.agg #[.int .i64 4, .int .i64 1, .int .i64 (-1), .int .i64 (-1), .int .i64 (-1), .int .i64 (-1), .int .i64 0, .slice none 0 0])), (11, .v (.agg #[.int .i64 11, .int .i64 0, .int .i64 (-1), .int .i64 0, .int .i64 (-1), .int .i64 0, .int .i64 10, .slice (some ⟨ak, 0, none⟩) 2 2])), (13, .v (.agg #[.int .i64 11, .int .i64 0, .int .i64 (-1), .int .i64 0, .int .i64 (-1), .int .i64 0, .int .i64 10, .slice (some ⟨au, 0, none⟩) 2 2]))] _ := b5.places (⟨rfl, rfl, trivial⟩)
 refine go_rn [14] [15, 16, 17, 18, 19, 20, 21, 22, 23] [(0, .p 0 0), (1, .v (.agg #[.int .i64 3, .int .i64 0, .int .i64 (-1), .int .i64 (-1), .int .i64 (-1), .int .i64 0, .int .i64 0, .slice none 0 0])), (2, .v (.agg #[.int .i64 2, .int .i64 0, .int .i64 (-1), .int .i64 (-1), .int .i64 (-1), .int .i64 0, .int .i64 0, .slice none 0 0])), (3, .v (.agg #[.int .i64 8, .int .i64 0, .int .i64 (-1), .int .i64 0, .int .i64 (-1), .int .i64 0, .int .i64 0, .slice none 0 0])), (4, .v (.agg #[.int .i64 8, .int .i64 0, .int .i64 (-1), .int .i64 (-1), .int .i64 (-1), .int .i64 0, .int .i64 0, .slice none 0 0])), (5, .v (.agg #[.int .i64 3, .int .i64 0, .int .i64 (-1), .int .i64 (-1), .int .i64 (-1), .int .i64 0, .int .i64 0, .slice none 0 0])), (6, .v (.agg #[.int .i64 3, .int .i64 0, .int .i64 (-1), .int .i64 (-1), .int .i64 (-1), .int .i64 0, .int .i64 0, .slice none 0 0])), (7, .v (.agg #[.int .i64 3, .int .i64 0, .int .i64 0, .int .i64 (-1), .int .i64 (-1), .int .i64 0, .int .i64 0, .slice none 0 0])), (8, .v (.agg #[.int .i64 3, .int .i64 0, .int .i64 (-1), .int .i64 (-1), .int .i64 (-1), .int .i64 0, .int .i64 0, .slice none 0 0])), (9, .v (.agg #[.int .i64 4, .int .i64 1, .int .i64 (-1), .int .i64 (-1), .int .i64 (-1), .int .i64 (-1), .int .i64 0, .slice none 0 0])), (11, .v (.agg #[.int .i64 11, .int .i64 0, .int .i64 (-1), .int .i64 0, .int .i64 (-1), .int .i64 0, .int .i64 10, .slice (some ⟨ak, 0, none⟩) 2 2])), (13, .v (.agg #[.int .i64 11, .int .i64 0, .int .i64 (-1), .int .i64 0, .int .i64 (-1), .int .i64 0, .int .i64 10, .slice (some ⟨au, 0, none⟩) 2 2])), (15, .v (.agg #[.int .i64 11, .int .i64 0, .int .i64 (-1), .int .i64 0, .int .i64 (-1), .int .i64 0, .int .i64 10, .slice (some ⟨av, 0, none⟩) 2 2]))] ao bB fun dZ b6 => ?_
 clear bB
 refine of_op (wpOp_inline b6 (f := 64) (vs := []) (d := 16) (n' := 4) kz Tryz.call64 Tryz.func64 rfl Tryz.ntmps64 kz fun d4 bC => ?_)
 refine go_sp [] ao bC fun d5 bD => ?_
 clear bC
 refine go_seq_region [0, 1, 2, 3] kz ?_
 refine go_rn [0, 1] [2, 3] [(1, .v (.agg #[.int .i64 8, .int .i64 0, .int .i64 (-1), .int .i64 (-1), .int .i64 (-1), .int .i64 0, .int .i64 0, .slice none 0 0])), (2, .v (.agg #[.int .i64 11, .int .i64 0, .int .i64 (-1), .int .i64 (-1), .int .i64 (-1), .int .i64 0, .int .i64 3, .slice none 0 0]))] ao bD fun d6 bE => ?_
 clear bD
 refine of_op (wpOp_lit ao bE (e := 51) (size := 8) (len := 2) (cs := [.int .i64 8, .int .i64 0, .int .i64 (-1), .int .i64 (-1), .int .i64 (-1), .int .i64 0, .int .i64 0, .slice none 0 0, .int .i64 11, .int .i64 0, .int .i64 (-1), .int .i64 (-1), .int .i64 (-1), .int .i64 0, .int .i64 3, .slice none 0 0]) (d := 3) kz kz fun aH d7 d8 cO cP cQ ah bF => ?_)
 clear bE ao
 refine go_rn [3] [] [(0, .v (.slice (some ⟨aH, 0, none⟩) 2 2))] ah bF fun d9 b8 => ?_
 clear bF
 refine wpOps_nil (then_normal ?_)
 refine wp_ret ?_
 refine leave b8 ah.cells (v := .slice (some ⟨aH, 0, none⟩) 2 2) kz ?_
 refine ⟨_, rfl, fun ea ca => ?_⟩
 have bG : EnvOk 24 [⟨b1, 0, [.slice none 0 0, .int .i64 0], true⟩] [(16, .v (.slice (some ⟨aH, 0, none⟩) 2 2)), (0, .p 0 0), (1, .v (.agg #[.int .i64 3, .int .i64 0, .int .i64 (-1), .int .i64 (-1), .int .i64 (-1), .int .i64 0, .int .i64 0, .slice none 0 0])), (2, .v (.agg #[.int .i64 2, .int .i64 0, .int .i64 (-1), .int .i64 (-1), .int .i64 (-1), .int .i64 0, .int .i64 0, .slice none 0 0])), (3, .v (.agg #[.int .i64 8, .int .i64 0, .int .i64 (-1), .int .i64 0, .int .i64 (-1), .int .i64 0, .int .i64 0, .slice none 0 0])), (4, .v (.agg #[.int .i64 8, .int .i64 0, .int .i64 (-1), .int .i64 (-1), .int .i64 (-1), .int .i64 0, .int .i64 0, .slice none 0 0])), (5, .v (.agg #[.int .i64 3, .int .i64 0, .int .i64 (-1), .int .i64 (-1), .int .i64 (-1), .int .i64 0, .int .i64 0, .slice none 0 0])), (6, .v (.agg #[.int .i64 3, .int .i64 0, .int .i64 (-1), .int .i64 (-1), .int .i64 (-1), .int .i64 0, .int .i64 0, .slice none 0 0])), (7, .v (.agg #[.int .i64 3, .int .i64 0, .int .i64 0, .int .i64 (-1), .int .i64 (-1), .int .i64 0, .int .i64 0, .slice none 0 0])), (8, .v (.agg #[.int .i64 3, .int .i64 0, .int .i64 (-1), .int .i64 (-1), .int .i64 (-1), .int .i64 0, .int .i64 0, .slice none 0 0])), (9, .v (.agg #[.int .i64 4, .int .i64 1, .int .i64 (-1), .int .i64 (-1), .int .i64 (-1), .int .i64 (-1), .int .i64 0, .slice none 0 0])), (11, .v (.agg #[.int .i64 11, .int .i64 0, .int .i64 (-1), .int .i64 0, .int .i64 (-1), .int .i64 0, .int .i64 10, .slice (some ⟨ak, 0, none⟩) 2 2])), (13, .v (.agg #[.int .i64 11, .int .i64 0, .int .i64 (-1), .int .i64 0, .int .i64 (-1), .int .i64 0, .int .i64 10, .slice (some ⟨au, 0, none⟩) 2 2])), (15, .v (.agg #[.int .i64 11, .int .i64 0, .int .i64 (-1), .int .i64 0, .int .i64 (-1), .int .i64 0, .int .i64 10, .slice (some ⟨av, 0, none⟩) 2 2]))] _ := ca.places (⟨rfl, rfl, trivial⟩)
 refine go_rn [16, 17, 18] [19, 20, 21, 22, 23] [(0, .p 0 0), (1, .v (.agg #[.int .i64 3, .int .i64 0, .int .i64 (-1), .int .i64 (-1), .int .i64 (-1), .int .i64 0, .int .i64 0, .slice none 0 0])), (2, .v (.agg #[.int .i64 2, .int .i64 0, .int .i64 (-1), .int .i64 (-1), .int .i64 (-1), .int .i64 0, .int .i64 0, .slice none 0 0])), (3, .v (.agg #[.int .i64 8, .int .i64 0, .int .i64 (-1), .int .i64 0, .int .i64 (-1), .int .i64 0, .int .i64 0, .slice none 0 0])), (4, .v (.agg #[.int .i64 8, .int .i64 0, .int .i64 (-1), .int .i64 (-1), .int .i64 (-1), .int .i64 0, .int .i64 0, .slice none 0 0])), (5, .v (.agg #[.int .i64 3, .int .i64 0, .int .i64 (-1), .int .i64 (-1), .int .i64 (-1), .int .i64 0, .int .i64 0, .slice none 0 0])), (6, .v (.agg #[.int .i64 3, .int .i64 0, .int .i64 (-1), .int .i64 (-1), .int .i64 (-1), .int .i64 0, .int .i64 0, .slice none 0 0])), (7, .v (.agg #[.int .i64 3, .int .i64 0, .int .i64 0, .int .i64 (-1), .int .i64 (-1), .int .i64 0, .int .i64 0, .slice none 0 0])), (8, .v (.agg #[.int .i64 3, .int .i64 0, .int .i64 (-1), .int .i64 (-1), .int .i64 (-1), .int .i64 0, .int .i64 0, .slice none 0 0])), (9, .v (.agg #[.int .i64 4, .int .i64 1, .int .i64 (-1), .int .i64 (-1), .int .i64 (-1), .int .i64 (-1), .int .i64 0, .slice none 0 0])), (11, .v (.agg #[.int .i64 11, .int .i64 0, .int .i64 (-1), .int .i64 0, .int .i64 (-1), .int .i64 0, .int .i64 10, .slice (some ⟨ak, 0, none⟩) 2 2])), (13, .v (.agg #[.int .i64 11, .int .i64 0, .int .i64 (-1), .int .i64 0, .int .i64 (-1), .int .i64 0, .int .i64 10, .slice (some ⟨au, 0, none⟩) 2 2])), (15, .v (.agg #[.int .i64 11, .int .i64 0, .int .i64 (-1), .int .i64 0, .int .i64 (-1), .int .i64 0, .int .i64 10, .slice (some ⟨av, 0, none⟩) 2 2])), (17, .v (.agg #[.int .i64 11, .int .i64 0, .int .i64 (-1), .int .i64 0, .int .i64 (-1), .int .i64 0, .int .i64 10, .slice (some ⟨aH, 0, none⟩) 2 2])), (18, .v (.agg #[.int .i64 0, .int .i64 1, .int .i64 (-1), .int .i64 (-1), .int .i64 (-1), .int .i64 0, .int .i64 0, .slice none 0 0])), (19, .v (.agg #[.int .i64 3, .int .i64 0, .int .i64 (-1), .int .i64 (-1), .int .i64 (-1), .int .i64 0, .int .i64 0, .slice none 0 0]))] ah bG fun eb cb => ?_
 clear bG
 refine of_op (wpOp_inline cb (f := 65) (vs := []) (d := 20) (n' := 8) kz Tryz.call65 Tryz.func65 rfl Tryz.ntmps65 kz fun ec bH => ?_)
 refine go_sp [] ah bH fun ee cc => ?_
 clear bH
 refine go_seq_region [0, 1, 2, 3, 4, 5, 6, 7] kz ?_
 refine of_op (wpOp_inline cc (f := 113) (vs := []) (d := 1) (n' := 4) kz Tryz.call113 Tryz.func113 rfl Tryz.ntmps113 kz fun ef aI => ?_)
 refine go_sp [] ah aI fun cR aJ => ?_
 clear aI
 refine go_seq_region [0, 1, 2, 3] kz ?_
 refine go_rn [0, 1] [2, 3] [(1, .v (.agg #[.int .i64 8, .int .i64 0, .int .i64 (-1), .int .i64 (-1), .int .i64 (-1), .int .i64 0, .int .i64 0, .slice none 0 0])), (2, .v (.agg #[.int .i64 5, .int .i64 0, .int .i64 (-1), .int .i64 (-1), .int .i64 (-1), .int .i64 0, .int .i64 0, .slice none 0 0]))] ah aJ fun cS aK => ?_
 clear aJ
 refine of_op (wpOp_lit ah aK (e := 51) (size := 8) (len := 2) (cs := [.int .i64 8, .int .i64 0, .int .i64 (-1), .int .i64 (-1), .int .i64 (-1), .int .i64 0, .int .i64 0, .slice none 0 0, .int .i64 5, .int .i64 0, .int .i64 (-1), .int .i64 (-1), .int .i64 (-1), .int .i64 0, .int .i64 0, .slice none 0 0]) (d := 3) kz kz fun ac cT cV cd ce cg ae aL => ?_)
 clear aK ah
 refine go_rn [3] [] [(0, .v (.slice (some ⟨ac, 0, none⟩) 2 2))] ae aL fun cW bI => ?_
 clear aL
 refine wpOps_nil (then_normal ?_)
 refine wp_ret ?_
 refine leave bI ae.cells (v := .slice (some ⟨ac, 0, none⟩) 2 2) kz ?_
 refine ⟨_, rfl, fun cX bJ => ?_⟩
 have aM : EnvOk 8 [⟨b1, 0, [.slice none 0 0, .int .i64 0], true⟩] [(1, .v (.slice (some ⟨ac, 0, none⟩) 2 2))] _ := bJ.places (⟨rfl, rfl, trivial⟩)
 refine go_rn [1] [2, 3, 4, 5, 6, 7] [(2, .v (.agg #[.int .i64 10, .int .i64 0, .int .i64 (-1), .int .i64 (-1), .int .i64 (-1), .int .i64 0, .int .i64 0, .slice (some ⟨ac, 0, none⟩) 2 2]))] ae aM fun cY bK => ?_
 clear aM
 refine of_op (wpOp_inline bK (f := 114) (vs := []) (d := 3) (n' := 4) kz Tryz.call114 Tryz.func114 rfl Tryz.ntmps114 kz fun cZ aN => ?_)
 refine go_sp [] ae aN fun c5 aO => ?_
 clear aN
 refine go_seq_region [0, 1, 2, 3] kz ?_
 refine go_rn [0, 1] [2, 3] [(1, .v (.agg #[.int .i64 8, .int .i64 0, .int .i64 (-1), .int .i64 (-1), .int .i64 (-1), .int .i64 0, .int .i64 0, .slice none 0 0])), (2, .v (.agg #[.int .i64 11, .int .i64 0, .int .i64 (-1), .int .i64 (-1), .int .i64 (-1), .int .i64 0, .int .i64 3, .slice none 0 0]))] ae aO fun da aP => ?_
 clear aO
 refine of_op (wpOp_lit ae aP (e := 51) (size := 8) (len := 2) (cs := [.int .i64 8, .int .i64 0, .int .i64 (-1), .int .i64 (-1), .int .i64 (-1), .int .i64 0, .int .i64 0, .slice none 0 0, .int .i64 11, .int .i64 0, .int .i64 (-1), .int .i64 (-1), .int .i64 (-1), .int .i64 0, .int .i64 3, .slice none 0 0]) (d := 3) kz kz fun ag db dc cl cm cq af aQ => ?_)
 clear aP ae
 refine go_rn [3] [] [(0, .v (.slice (some ⟨ag, 0, none⟩) 2 2))] af aQ fun de bL => ?_
 clear aQ
 refine wpOps_nil (then_normal ?_)
 refine wp_ret ?_
 refine leave bL af.cells (v := .slice (some ⟨ag, 0, none⟩) 2 2) kz ?_
 refine ⟨_, rfl, fun df bM => ?_⟩
 have aR : EnvOk 8 [⟨b1, 0, [.slice none 0 0, .int .i64 0], true⟩] [(3, .v (.slice (some ⟨ag, 0, none⟩) 2 2)), (2, .v (.agg #[.int .i64 10, .int .i64 0, .int .i64 (-1), .int .i64 (-1), .int .i64 (-1), .int .i64 0, .int .i64 0, .slice (some ⟨ac, 0, none⟩) 2 2]))] _ := bM.places (⟨rfl, rfl, trivial⟩)
 refine go_rn [3] [4, 5, 6, 7] [(2, .v (.agg #[.int .i64 10, .int .i64 0, .int .i64 (-1), .int .i64 (-1), .int .i64 (-1), .int .i64 0, .int .i64 0, .slice (some ⟨ac, 0, none⟩) 2 2])), (4, .v (.agg #[.int .i64 11, .int .i64 0, .int .i64 (-1), .int .i64 (-1), .int .i64 (-1), .int .i64 0, .int .i64 10, .slice (some ⟨ag, 0, none⟩) 2 2]))] af aR fun dg bN => ?_
 clear aR
 refine of_op (wpOp_inline bN (f := 115) (vs := []) (d := 5) (n' := 4) kz Tryz.call115 Tryz.func115 rfl Tryz.ntmps115 kz fun dh aS => ?_)
 refine go_sp [] af aS fun di aT => ?_
 clear aS
 refine go_seq_region [0, 1, 2, 3] kz ?_
 refine go_rn [0, 1] [2, 3] [(1, .v (.agg #[.int .i64 8, .int .i64 0, .int .i64 (-1), .int .i64 (-1), .int .i64 (-1), .int .i64 0, .int .i64 0, .slice none 0 0])), (2, .v (.agg #[.int .i64 11, .int .i64 0, .int .i64 (-1), .int .i64 (-1), .int .i64 (-1), .int .i64 0, .int .i64 3, .slice none 0 0]))] af aT fun dj aU => ?_
 clear aT
 refine of_op (wpOp_lit af aU (e := 51) (size := 8) (len := 2) (cs := [.int .i64 8, .int .i64 0, .int .i64 (-1), .int .i64 (-1), .int .i64 (-1), .int .i64 0, .int .i64 0, .slice none 0 0, .int .i64 11, .int .i64 0, .int .i64 (-1), .int .i64 (-1), .int .i64 (-1), .int .i64 0, .int .i64 3, .slice none 0 0]) (d := 3) kz kz fun ap dl dp cr cu cv ai aV => ?_)
 clear aU af
 refine go_rn [3] [] [(0, .v (.slice (some ⟨ap, 0, none⟩) 2 2))] ai aV fun dq bO => ?_
 clear aV
 refine wpOps_nil (then_normal ?_)
 refine wp_ret ?_
 refine leave bO ai.cells (v := .slice (some ⟨ap, 0, none⟩) 2 2) kz ?_
 refine ⟨_, rfl, fun dr bP => ?_⟩
 have aW : EnvOk 8 [⟨b1, 0, [.slice none 0 0, .int .i64 0], true⟩] [(5, .v (.slice (some ⟨ap, 0, none⟩) 2 2)), (2, .v (.agg #[.int .i64 10, .int .i64 0, .int .i64 (-1), .int .i64 (-1), .int .i64 (-1), .int .i64 0, .int .i64 0, .slice (some ⟨ac, 0, none⟩) 2 2])), (4, .v (.agg #[.int .i64 11, .int .i64 0, .int .i64 (-1), .int .i64 (-1), .int .i64 (-1), .int .i64 0, .int .i64 10, .slice (some ⟨ag, 0, none⟩) 2 2]))] _ := bP.places (⟨rfl, rfl, trivial⟩)
 refine go_rn [5] [6, 7] [(2, .v (.agg #[.int .i64 10, .int .i64 0, .int .i64 (-1), .int .i64 (-1), .int .i64 (-1), .int .i64 0, .int .i64 0, .slice (some ⟨ac, 0, none⟩) 2 2])), (4, .v (.agg #[.int .i64 11, .int .i64 0, .int .i64 (-1), .int .i64 (-1), .int .i64 (-1), .int .i64 0, .int .i64 10, .slice (some ⟨ag, 0, none⟩) 2 2])), (6, .v (.agg #[.int .i64 11, .int .i64 0, .int .i64 (-1), .int .i64 (-1), .int .i64 (-1), .int .i64 0, .int .i64 10, .slice (some ⟨ap, 0, none⟩) 2 2]))] ai aW fun dt aX => ?_
 clear aW
 refine of_op (wpOp_lit ai aX (e := 51) (size := 8) (len := 3) (cs := [.int .i64 10, .int .i64 0, .int .i64 (-1), .int .i64 (-1), .int .i64 (-1), .int .i64 0, .int .i64 0, .slice (some ⟨ac, 0, none⟩) 2 2, .int .i64 11, .int .i64 0, .int .i64 (-1), .int .i64 (-1), .int .i64 (-1), .int .i64 0, .int .i64 10, .slice (some ⟨ag, 0, none⟩) 2 2, .int .i64 11, .int .i64 0, .int .i64 (-1), .int .i64 (-1), .int .i64 (-1), .int .i64 0, .int .i64 10, .slice (some ⟨ap, 0, none⟩) 2 2]) (d := 7) kz kz fun ar du dv cw cy cz aj aY => ?_)
 clear aX ai
 refine go_rn [7] [] [(0, .v (.slice (some ⟨ar, 0, none⟩) 3 3))] aj aY fun dw bQ => ?_
 clear aY
 refine wpOps_nil (then_normal ?_)
 refine wp_ret ?_
 refine leave bQ aj.cells (v := .slice (some ⟨ar, 0, none⟩) 3 3) kz ?_
 refine ⟨_, rfl, fun dx bR => ?_⟩
 have aZ : EnvOk 24 [⟨b1, 0, [.slice none 0 0, .int .i64 0], true⟩] [(20, .v (.slice (some ⟨ar, 0, none⟩) 3 3)), (0, .p 0 0), (1, .v (.agg #[.int .i64 3, .int .i64 0, .int .i64 (-1), .int .i64 (-1), .int .i64 (-1), .int .i64 0, .int .i64 0, .slice none 0 0])), (2, .v (.agg #[.int .i64 2, .int .i64 0, .int .i64 (-1), .int .i64 (-1), .int .i64 (-1), .int .i64 0, .int .i64 0, .slice none 0 0])), (3, .v (.agg #[.int .i64 8, .int .i64 0, .int .i64 (-1), .int .i64 0, .int .i64 (-1), .int .i64 0, .int .i64 0, .slice none 0 0])), (4, .v (.agg #[.int .i64 8, .int .i64 0, .int .i64 (-1), .int .i64 (-1), .int .i64 (-1), .int .i64 0, .int .i64 0, .slice none 0 0])), (5, .v (.agg #[.int .i64 3, .int .i64 0, .int .i64 (-1), .int .i64 (-1), .int .i64 (-1), .int .i64 0, .int .i64 0, .slice none 0 0])), (6, .v (.agg #[.int .i64 3, .int .i64 0, .int .i64 (-1), .int .i64 (-1), .int .i64 (-1), .int .i64 0, .int .i64 0, .slice none 0 0])), (7, .v (.agg #[.int .i64 3, .int .i64 0, .int .i64 0, .int .i64 (-1), .int .i64 (-1), .int .i64 0, .int .i64 0, .slice none 0 0])), (8, .v (.agg #[.int .i64 3, .int .i64 0, .int .i64 (-1), .int .i64 (-1), .int .i64 (-1), .int .i64 0, .int .i64 0, .slice none 0 0])), (9, .v (.agg #[.int .i64 4, .int .i64 1, .int .i64 (-1), .int .i64 (-1), .int .i64 (-1), .int .i64 (-1), .int .i64 0, .slice none 0 0])), (11, .v (.agg #[.int .i64 11, .int .i64 0, .int .i64 (-1), .int .i64 0, .int .i64 (-1), .int .i64 0, .int .i64 10, .slice (some ⟨ak, 0, none⟩) 2 2])), (13, .v (.agg #[.int .i64 11, .int .i64 0, .int .i64 (-1), .int .i64 0, .int .i64 (-1), .int .i64 0, .int .i64 10, .slice (some ⟨au, 0, none⟩) 2 2])), (15, .v (.agg #[.int .i64 11, .int .i64 0, .int .i64 (-1), .int .i64 0, .int .i64 (-1), .int .i64 0, .int .i64 10, .slice (some ⟨av, 0, none⟩) 2 2])), (17, .v (.agg #[.int .i64 11, .int .i64 0, .int .i64 (-1), .int .i64 0, .int .i64 (-1), .int .i64 0, .int .i64 10, .slice (some ⟨aH, 0, none⟩) 2 2])), (18, .v (.agg #[.int .i64 0, .int .i64 1, .int .i64 (-1), .int .i64 (-1), .int .i64 (-1), .int .i64 0, .int .i64 0, .slice none 0 0])), (19, .v (.agg #[.int .i64 3, .int .i64 0, .int .i64 (-1), .int .i64 (-1), .int .i64 (-1), .int .i64 0, .int .i64 0, .slice none 0 0]))] _ := bR.places (⟨rfl, rfl, trivial⟩)
 refine go_rn [20] [21, 22, 23] [(0, .p 0 0), (1, .v (.agg #[.int .i64 3, .int .i64 0, .int .i64 (-1), .int .i64 (-1), .int .i64 (-1), .int .i64 0, .int .i64 0, .slice none 0 0])), (2, .v (.agg #[.int .i64 2, .int .i64 0, .int .i64 (-1), .int .i64 (-1), .int .i64 (-1), .int .i64 0, .int .i64 0, .slice none 0 0])), (3, .v (.agg #[.int .i64 8, .int .i64 0, .int .i64 (-1), .int .i64 0, .int .i64 (-1), .int .i64 0, .int .i64 0, .slice none 0 0])), (4, .v (.agg #[.int .i64 8, .int .i64 0, .int .i64 (-1), .int .i64 (-1), .int .i64 (-1), .int .i64 0, .int .i64 0, .slice none 0 0])), (5, .v (.agg #[.int .i64 3, .int .i64 0, .int .i64 (-1), .int .i64 (-1), .int .i64 (-1), .int .i64 0, .int .i64 0, .slice none 0 0])), (6, .v (.agg #[.int .i64 3, .int .i64 0, .int .i64 (-1), .int .i64 (-1), .int .i64 (-1), .int .i64 0, .int .i64 0, .slice none 0 0])), (7, .v (.agg #[.int .i64 3, .int .i64 0, .int .i64 0, .int .i64 (-1), .int .i64 (-1), .int .i64 0, .int .i64 0, .slice none 0 0])), (8, .v (.agg #[.int .i64 3, .int .i64 0, .int .i64 (-1), .int .i64 (-1), .int .i64 (-1), .int .i64 0, .int .i64 0, .slice none 0 0])), (9, .v (.agg #[.int .i64 4, .int .i64 1, .int .i64 (-1), .int .i64 (-1), .int .i64 (-1), .int .i64 (-1), .int .i64 0, .slice none 0 0])), (11, .v (.agg #[.int .i64 11, .int .i64 0, .int .i64 (-1), .int .i64 0, .int .i64 (-1), .int .i64 0, .int .i64 10, .slice (some ⟨ak, 0, none⟩) 2 2])), (13, .v (.agg #[.int .i64 11, .int .i64 0, .int .i64 (-1), .int .i64 0, .int .i64 (-1), .int .i64 0, .int .i64 10, .slice (some ⟨au, 0, none⟩) 2 2])), (15, .v (.agg #[.int .i64 11, .int .i64 0, .int .i64 (-1), .int .i64 0, .int .i64 (-1), .int .i64 0, .int .i64 10, .slice (some ⟨av, 0, none⟩) 2 2])), (17, .v (.agg #[.int .i64 11, .int .i64 0, .int .i64 (-1), .int .i64 0, .int .i64 (-1), .int .i64 0, .int .i64 10, .slice (some ⟨aH, 0, none⟩) 2 2])), (18, .v (.agg #[.int .i64 0, .int .i64 1, .int .i64 (-1), .int .i64 (-1), .int .i64 (-1), .int .i64 0, .int .i64 0, .slice none 0 0])), (19, .v (.agg #[.int .i64 3, .int .i64 0, .int .i64 (-1), .int .i64 (-1), .int .i64 (-1), .int .i64 0, .int .i64 0, .slice none 0 0])), (21, .v (.agg #[.int .i64 11, .int .i64 0, .int .i64 (-1), .int .i64 0, .int .i64 (-1), .int .i64 0, .int .i64 10, .slice (some ⟨ar, 0, none⟩) 3 3]))] aj aZ fun dy ba => ?_
 clear aZ
 refine of_op (wpOp_lit aj ba (e := 51) (size := 8) (len := 16) (cs := [.int .i64 3, .int .i64 0, .int .i64 (-1), .int .i64 (-1), .int .i64 (-1), .int .i64 0, .int .i64 0, .slice none 0 0, .int .i64 2, .int .i64 0, .int .i64 (-1), .int .i64 (-1), .int .i64 (-1), .int .i64 0, .int .i64 0, .slice none 0 0, .int .i64 8, .int .i64 0, .int .i64 (-1), .int .i64 0, .int .i64 (-1), .int .i64 0, .int .i64 0, .slice none 0 0, .int .i64 8, .int .i64 0, .int .i64 (-1), .int .i64 (-1), .int .i64 (-1), .int .i64 0, .int .i64 0, .slice none 0 0, .int .i64 3, .int .i64 0, .int .i64 (-1), .int .i64 (-1), .int .i64 (-1), .int .i64 0, .int .i64 0, .slice none 0 0, .int .i64 3, .int .i64 0, .int .i64 (-1), .int .i64 (-1), .int .i64 (-1), .int .i64 0, .int .i64 0, .slice none 0 0, .int .i64 3, .int .i64 0, .int .i64 0, .int .i64 (-1), .int .i64 (-1), .int .i64 0, .int .i64 0, .slice none 0 0, .int .i64 3, .int .i64 0, .int .i64 (-1), .int .i64 (-1), .int .i64 (-1), .int .i64 0, .int .i64 0, .slice none 0 0, .int .i64 4, .int .i64 1, .int .i64 (-1), .int .i64 (-1), .int .i64 (-1), .int .i64 (-1), .int .i64 0, .slice none 0 0, .int .i64 11, .int .i64 0, .int .i64 (-1), .int .i64 0, .int .i64 (-1), .int .i64 0, .int .i64 10, .slice (some ⟨ak, 0, none⟩) 2 2, .int .i64 11, .int .i64 0, .int .i64 (-1), .int .i64 0, .int .i64 (-1), .int .i64 0, .int .i64 10, .slice (some ⟨au, 0, none⟩) 2 2, .int .i64 11, .int .i64 0, .int .i64 (-1), .int .i64 0, .int .i64 (-1), .int .i64 0, .int .i64 10, .slice (some ⟨av, 0, none⟩) 2 2, .int .i64 11, .int .i64 0, .int .i64 (-1), .int .i64 0, .int .i64 (-1), .int .i64 0, .int .i64 10, .slice (some ⟨aH, 0, none⟩) 2 2, .int .i64 0, .int .i64 1, .int .i64 (-1), .int .i64 (-1), .int .i64 (-1), .int .i64 0, .int .i64 0, .slice none 0 0, .int .i64 3, .int .i64 0, .int .i64 (-1), .int .i64 (-1), .int .i64 (-1), .int .i64 0, .int .i64 0, .slice none 0 0, .int .i64 11, .int .i64 0, .int .i64 (-1), .int .i64 0, .int .i64 (-1), .int .i64 0, .int .i64 10, .slice (some ⟨ar, 0, none⟩) 3 3]) (d := 22) kz kz fun bg dz dA cA cB cC aw bd => ?_)
 clear ba aj
 refine go_rn [22] [23] [(0, .p 0 0), (23, .v (.agg #[.slice (some ⟨bg, 0, none⟩) 16 16, .int .i64 0]))] aw bd fun dB bf => ?_
 clear bd
 refine of_op (wpOp_store aw bf (oi := 0) (cs := [.slice (some ⟨bg, 0, none⟩) 16 16, .int .i64 0]) kz fun aa cD ab bS => ?_)
 clear bf aw
 refine wpOps_nil (then_normal ?_)
 refine wp_ret ?_
 refine leave bS ab.cells (v := .agg #[.slice (some ⟨bg, 0, none⟩) 16 16, .int .i64 0]) kz ?_
 have ax := Flds.slots (F := F) ab (k := 0) (n := 2) (xs := [.int .i64 1, .int .i64 0, .int .i64 (-1), .int .i64 (-1), .int .i64 (-1), .int .i64 0, .int .i64 0, .slice none 0 0, .int .i64 8, .int .i64 0, .int .i64 (-1), .int .i64 (-1), .int .i64 (-1), .int .i64 0, .int .i64 0, .slice none 0 0]) rfl (Flds.snoc (Flds.snoc (Flds.nil _ _) (c := [.int .i64 1, .int .i64 0, .int .i64 (-1), .int .i64 (-1), .int .i64 (-1), .int .i64 0, .int .i64 0, .slice none 0 0]) (x := (Fld.mk 1 0 (-1) (-1) (-1) 0 0 [])) (FldR.mk (l := []) _ (noFlds aa (Fp F w)).1 (noFlds aa (Fp F w)).2)) (c := [.int .i64 8, .int .i64 0, .int .i64 (-1), .int .i64 (-1), .int .i64 (-1), .int .i64 0, .int .i64 0, .slice none 0 0]) (x := (Fld.mk 8 0 (-1) (-1) (-1) 0 0 [])) (FldR.mk (l := []) _ (noFlds aa (Fp F w)).1 (noFlds aa (Fp F w)).2)) rfl (by decide)
 have ay := Flds.slots (F := F) ab (k := 1) (n := 2) (xs := [.int .i64 8, .int .i64 0, .int .i64 (-1), .int .i64 (-1), .int .i64 (-1), .int .i64 0, .int .i64 0, .slice none 0 0, .int .i64 11, .int .i64 0, .int .i64 (-1), .int .i64 (-1), .int .i64 (-1), .int .i64 0, .int .i64 3, .slice none 0 0]) rfl (Flds.snoc (Flds.snoc (Flds.nil _ _) (c := [.int .i64 8, .int .i64 0, .int .i64 (-1), .int .i64 (-1), .int .i64 (-1), .int .i64 0, .int .i64 0, .slice none 0 0]) (x := (Fld.mk 8 0 (-1) (-1) (-1) 0 0 [])) (FldR.mk (l := []) _ (noFlds aa (Fp F w)).1 (noFlds aa (Fp F w)).2)) (c := [.int .i64 11, .int .i64 0, .int .i64 (-1), .int .i64 (-1), .int .i64 (-1), .int .i64 0, .int .i64 3, .slice none 0 0]) (x := (Fld.mk 11 0 (-1) (-1) (-1) 0 3 [])) (FldR.mk (l := []) _ (noFlds aa (Fp F w)).1 (noFlds aa (Fp F w)).2)) rfl (by decide)
 have aA := Flds.slots (F := F) ab (k := 2) (n := 2) (xs := [.int .i64 8, .int .i64 0, .int .i64 (-1), .int .i64 (-1), .int .i64 (-1), .int .i64 0, .int .i64 0, .slice none 0 0, .int .i64 11, .int .i64 0, .int .i64 (-1), .int .i64 (-1), .int .i64 (-1), .int .i64 0, .int .i64 3, .slice none 0 0]) rfl (Flds.snoc (Flds.snoc (Flds.nil _ _) (c := [.int .i64 8, .int .i64 0, .int .i64 (-1), .int .i64 (-1), .int .i64 (-1), .int .i64 0, .int .i64 0, .slice none 0 0]) (x := (Fld.mk 8 0 (-1) (-1) (-1) 0 0 [])) (FldR.mk (l := []) _ (noFlds aa (Fp F w)).1 (noFlds aa (Fp F w)).2)) (c := [.int .i64 11, .int .i64 0, .int .i64 (-1), .int .i64 (-1), .int .i64 (-1), .int .i64 0, .int .i64 3, .slice none 0 0]) (x := (Fld.mk 11 0 (-1) (-1) (-1) 0 3 [])) (FldR.mk (l := []) _ (noFlds aa (Fp F w)).1 (noFlds aa (Fp F w)).2)) rfl (by decide)
 have aB := Flds.slots (F := F) ab (k := 3) (n := 2) (xs := [.int .i64 8, .int .i64 0, .int .i64 (-1), .int .i64 (-1), .int .i64 (-1), .int .i64 0, .int .i64 0, .slice none 0 0, .int .i64 11, .int .i64 0, .int .i64 (-1), .int .i64 (-1), .int .i64 (-1), .int .i64 0, .int .i64 3, .slice none 0 0]) rfl (Flds.snoc (Flds.snoc (Flds.nil _ _) (c := [.int .i64 8, .int .i64 0, .int .i64 (-1), .int .i64 (-1), .int .i64 (-1), .int .i64 0, .int .i64 0, .slice none 0 0]) (x := (Fld.mk 8 0 (-1) (-1) (-1) 0 0 [])) (FldR.mk (l := []) _ (noFlds aa (Fp F w)).1 (noFlds aa (Fp F w)).2)) (c := [.int .i64 11, .int .i64 0, .int .i64 (-1), .int .i64 (-1), .int .i64 (-1), .int .i64 0, .int .i64 3, .slice none 0 0]) (x := (Fld.mk 11 0 (-1) (-1) (-1) 0 3 [])) (FldR.mk (l := []) _ (noFlds aa (Fp F w)).1 (noFlds aa (Fp F w)).2)) rfl (by decide)
 have aC := Flds.slots (F := F) ab (k := 4) (n := 2) (xs := [.int .i64 8, .int .i64 0, .int .i64 (-1), .int .i64 (-1), .int .i64 (-1), .int .i64 0, .int .i64 0, .slice none 0 0, .int .i64 5, .int .i64 0, .int .i64 (-1), .int .i64 (-1), .int .i64 (-1), .int .i64 0, .int .i64 0, .slice none 0 0]) rfl (Flds.snoc (Flds.snoc (Flds.nil _ _) (c := [.int .i64 8, .int .i64 0, .int .i64 (-1), .int .i64 (-1), .int .i64 (-1), .int .i64 0, .int .i64 0, .slice none 0 0]) (x := (Fld.mk 8 0 (-1) (-1) (-1) 0 0 [])) (FldR.mk (l := []) _ (noFlds aa (Fp F w)).1 (noFlds aa (Fp F w)).2)) (c := [.int .i64 5, .int .i64 0, .int .i64 (-1), .int .i64 (-1), .int .i64 (-1), .int .i64 0, .int .i64 0, .slice none 0 0]) (x := (Fld.mk 5 0 (-1) (-1) (-1) 0 0 [])) (FldR.mk (l := []) _ (noFlds aa (Fp F w)).1 (noFlds aa (Fp F w)).2)) rfl (by decide)
 have aD := Flds.slots (F := F) ab (k := 5) (n := 2) (xs := [.int .i64 8, .int .i64 0, .int .i64 (-1), .int .i64 (-1), .int .i64 (-1), .int .i64 0, .int .i64 0, .slice none 0 0, .int .i64 11, .int .i64 0, .int .i64 (-1), .int .i64 (-1), .int .i64 (-1), .int .i64 0, .int .i64 3, .slice none 0 0]) rfl (Flds.snoc (Flds.snoc (Flds.nil _ _) (c := [.int .i64 8, .int .i64 0, .int .i64 (-1), .int .i64 (-1), .int .i64 (-1), .int .i64 0, .int .i64 0, .slice none 0 0]) (x := (Fld.mk 8 0 (-1) (-1) (-1) 0 0 [])) (FldR.mk (l := []) _ (noFlds aa (Fp F w)).1 (noFlds aa (Fp F w)).2)) (c := [.int .i64 11, .int .i64 0, .int .i64 (-1), .int .i64 (-1), .int .i64 (-1), .int .i64 0, .int .i64 3, .slice none 0 0]) (x := (Fld.mk 11 0 (-1) (-1) (-1) 0 3 [])) (FldR.mk (l := []) _ (noFlds aa (Fp F w)).1 (noFlds aa (Fp F w)).2)) rfl (by decide)
 have aE := Flds.slots (F := F) ab (k := 6) (n := 2) (xs := [.int .i64 8, .int .i64 0, .int .i64 (-1), .int .i64 (-1), .int .i64 (-1), .int .i64 0, .int .i64 0, .slice none 0 0, .int .i64 11, .int .i64 0, .int .i64 (-1), .int .i64 (-1), .int .i64 (-1), .int .i64 0, .int .i64 3, .slice none 0 0]) rfl (Flds.snoc (Flds.snoc (Flds.nil _ _) (c := [.int .i64 8, .int .i64 0, .int .i64 (-1), .int .i64 (-1), .int .i64 (-1), .int .i64 0, .int .i64 0, .slice none 0 0]) (x := (Fld.mk 8 0 (-1) (-1) (-1) 0 0 [])) (FldR.mk (l := []) _ (noFlds aa (Fp F w)).1 (noFlds aa (Fp F w)).2)) (c := [.int .i64 11, .int .i64 0, .int .i64 (-1), .int .i64 (-1), .int .i64 (-1), .int .i64 0, .int .i64 3, .slice none 0 0]) (x := (Fld.mk 11 0 (-1) (-1) (-1) 0 3 [])) (FldR.mk (l := []) _ (noFlds aa (Fp F w)).1 (noFlds aa (Fp F w)).2)) rfl (by decide)
 have aF := Flds.slots (F := F) ab (k := 7) (n := 3) (xs := [.int .i64 10, .int .i64 0, .int .i64 (-1), .int .i64 (-1), .int .i64 (-1), .int .i64 0, .int .i64 0, .slice (some ⟨ac, 0, none⟩) 2 2, .int .i64 11, .int .i64 0, .int .i64 (-1), .int .i64 (-1), .int .i64 (-1), .int .i64 0, .int .i64 10, .slice (some ⟨ag, 0, none⟩) 2 2, .int .i64 11, .int .i64 0, .int .i64 (-1), .int .i64 (-1), .int .i64 (-1), .int .i64 0, .int .i64 10, .slice (some ⟨ap, 0, none⟩) 2 2]) rfl (Flds.snoc (Flds.snoc (Flds.snoc (Flds.nil _ _) (c := [.int .i64 10, .int .i64 0, .int .i64 (-1), .int .i64 (-1), .int .i64 (-1), .int .i64 0, .int .i64 0, .slice (some ⟨ac, 0, none⟩) 2 2]) (x := (Fld.mk 10 0 (-1) (-1) (-1) 0 0 [(Fld.mk 8 0 (-1) (-1) (-1) 0 0 []), (Fld.mk 5 0 (-1) (-1) (-1) 0 0 [])])) (FldR.mk (l := [(Fld.mk 8 0 (-1) (-1) (-1) 0 0 []), (Fld.mk 5 0 (-1) (-1) (-1) 0 0 [])]) _ aC.1 aC.2)) (c := [.int .i64 11, .int .i64 0, .int .i64 (-1), .int .i64 (-1), .int .i64 (-1), .int .i64 0, .int .i64 10, .slice (some ⟨ag, 0, none⟩) 2 2]) (x := (Fld.mk 11 0 (-1) (-1) (-1) 0 10 [(Fld.mk 8 0 (-1) (-1) (-1) 0 0 []), (Fld.mk 11 0 (-1) (-1) (-1) 0 3 [])])) (FldR.mk (l := [(Fld.mk 8 0 (-1) (-1) (-1) 0 0 []), (Fld.mk 11 0 (-1) (-1) (-1) 0 3 [])]) _ aD.1 aD.2)) (c := [.int .i64 11, .int .i64 0, .int .i64 (-1), .int .i64 (-1), .int .i64 (-1), .int .i64 0, .int .i64 10, .slice (some ⟨ap, 0, none⟩) 2 2]) (x := (Fld.mk 11 0 (-1) (-1) (-1) 0 10 [(Fld.mk 8 0 (-1) (-1) (-1) 0 0 []), (Fld.mk 11 0 (-1) (-1) (-1) 0 3 [])])) (FldR.mk (l := [(Fld.mk 8 0 (-1) (-1) (-1) 0 0 []), (Fld.mk 11 0 (-1) (-1) (-1) 0 3 [])]) _ aE.1 aE.2)) rfl (by decide)
 have aG := Flds.slots (F := F) ab (k := 8) (n := 16) (xs := [.int .i64 3, .int .i64 0, .int .i64 (-1), .int .i64 (-1), .int .i64 (-1), .int .i64 0, .int .i64 0, .slice none 0 0, .int .i64 2, .int .i64 0, .int .i64 (-1), .int .i64 (-1), .int .i64 (-1), .int .i64 0, .int .i64 0, .slice none 0 0, .int .i64 8, .int .i64 0, .int .i64 (-1), .int .i64 0, .int .i64 (-1), .int .i64 0, .int .i64 0, .slice none 0 0, .int .i64 8, .int .i64 0, .int .i64 (-1), .int .i64 (-1), .int .i64 (-1), .int .i64 0, .int .i64 0, .slice none 0 0, .int .i64 3, .int .i64 0, .int .i64 (-1), .int .i64 (-1), .int .i64 (-1), .int .i64 0, .int .i64 0, .slice none 0 0, .int .i64 3, .int .i64 0, .int .i64 (-1), .int .i64 (-1), .int .i64 (-1), .int .i64 0, .int .i64 0, .slice none 0 0, .int .i64 3, .int .i64 0, .int .i64 0, .int .i64 (-1), .int .i64 (-1), .int .i64 0, .int .i64 0, .slice none 0 0, .int .i64 3, .int .i64 0, .int .i64 (-1), .int .i64 (-1), .int .i64 (-1), .int .i64 0, .int .i64 0, .slice none 0 0, .int .i64 4, .int .i64 1, .int .i64 (-1), .int .i64 (-1), .int .i64 (-1), .int .i64 (-1), .int .i64 0, .slice none 0 0, .int .i64 11, .int .i64 0, .int .i64 (-1), .int .i64 0, .int .i64 (-1), .int .i64 0, .int .i64 10, .slice (some ⟨ak, 0, none⟩) 2 2, .int .i64 11, .int .i64 0, .int .i64 (-1), .int .i64 0, .int .i64 (-1), .int .i64 0, .int .i64 10, .slice (some ⟨au, 0, none⟩) 2 2, .int .i64 11, .int .i64 0, .int .i64 (-1), .int .i64 0, .int .i64 (-1), .int .i64 0, .int .i64 10, .slice (some ⟨av, 0, none⟩) 2 2, .int .i64 11, .int .i64 0, .int .i64 (-1), .int .i64 0, .int .i64 (-1), .int .i64 0, .int .i64 10, .slice (some ⟨aH, 0, none⟩) 2 2, .int .i64 0, .int .i64 1, .int .i64 (-1), .int .i64 (-1), .int .i64 (-1), .int .i64 0, .int .i64 0, .slice none 0 0, .int .i64 3, .int .i64 0, .int .i64 (-1), .int .i64 (-1), .int .i64 (-1), .int .i64 0, .int .i64 0, .slice none 0 0, .int .i64 11, .int .i64 0, .int .i64 (-1), .int .i64 0, .int .i64 (-1), .int .i64 0, .int .i64 10, .slice (some ⟨ar, 0, none⟩) 3 3]) rfl (Flds.snoc (Flds.snoc (Flds.snoc (Flds.snoc (Flds.snoc (Flds.snoc (Flds.snoc (Flds.snoc (Flds.snoc (Flds.snoc (Flds.snoc (Flds.snoc (Flds.snoc (Flds.snoc (Flds.snoc (Flds.snoc (Flds.nil _ _) (c := [.int .i64 3, .int .i64 0, .int .i64 (-1), .int .i64 (-1), .int .i64 (-1), .int .i64 0, .int .i64 0, .slice none 0 0]) (x := (Fld.mk 3 0 (-1) (-1) (-1) 0 0 [])) (FldR.mk (l := []) _ (noFlds aa (Fp F w)).1 (noFlds aa (Fp F w)).2)) (c := [.int .i64 2, .int .i64 0, .int .i64 (-1), .int .i64 (-1), .int .i64 (-1), .int .i64 0, .int .i64 0, .slice none 0 0]) (x := (Fld.mk 2 0 (-1) (-1) (-1) 0 0 [])) (FldR.mk (l := []) _ (noFlds aa (Fp F w)).1 (noFlds aa (Fp F w)).2)) (c := [.int .i64 8, .int .i64 0, .int .i64 (-1), .int .i64 0, .int .i64 (-1), .int .i64 0, .int .i64 0, .slice none 0 0]) (x := (Fld.mk 8 0 (-1) 0 (-1) 0 0 [])) (FldR.mk (l := []) _ (noFlds aa (Fp F w)).1 (noFlds aa (Fp F w)).2)) (c := [.int .i64 8, .int .i64 0, .int .i64 (-1), .int .i64 (-1), .int .i64 (-1), .int .i64 0, .int .i64 0, .slice none 0 0]) (x := (Fld.mk 8 0 (-1) (-1) (-1) 0 0 [])) (FldR.mk (l := []) _ (noFlds aa (Fp F w)).1 (noFlds aa (Fp F w)).2)) (c := [.int .i64 3, .int .i64 0, .int .i64 (-1), .int .i64 (-1), .int .i64 (-1), .int .i64 0, .int .i64 0, .slice none 0 0]) (x := (Fld.mk 3 0 (-1) (-1) (-1) 0 0 [])) (FldR.mk (l := []) _ (noFlds aa (Fp F w)).1 (noFlds aa (Fp F w)).2)) (c := [.int .i64 3, .int .i64 0, .int .i64 (-1), .int .i64 (-1), .int .i64 (-1), .int .i64 0, .int .i64 0, .slice none 0 0]) (x := (Fld.mk 3 0 (-1) (-1) (-1) 0 0 [])) (FldR.mk (l := []) _ (noFlds aa (Fp F w)).1 (noFlds aa (Fp F w)).2)) (c := [.int .i64 3, .int .i64 0, .int .i64 0, .int .i64 (-1), .int .i64 (-1), .int .i64 0, .int .i64 0, .slice none 0 0]) (x := (Fld.mk 3 0 0 (-1) (-1) 0 0 [])) (FldR.mk (l := []) _ (noFlds aa (Fp F w)).1 (noFlds aa (Fp F w)).2)) (c := [.int .i64 3, .int .i64 0, .int .i64 (-1), .int .i64 (-1), .int .i64 (-1), .int .i64 0, .int .i64 0, .slice none 0 0]) (x := (Fld.mk 3 0 (-1) (-1) (-1) 0 0 [])) (FldR.mk (l := []) _ (noFlds aa (Fp F w)).1 (noFlds aa (Fp F w)).2)) (c := [.int .i64 4, .int .i64 1, .int .i64 (-1), .int .i64 (-1), .int .i64 (-1), .int .i64 (-1), .int .i64 0, .slice none 0 0]) (x := (Fld.mk 4 1 (-1) (-1) (-1) (-1) 0 [])) (FldR.mk (l := []) _ (noFlds aa (Fp F w)).1 (noFlds aa (Fp F w)).2)) (c := [.int .i64 11, .int .i64 0, .int .i64 (-1), .int .i64 0, .int .i64 (-1), .int .i64 0, .int .i64 10, .slice (some ⟨ak, 0, none⟩) 2 2]) (x := (Fld.mk 11 0 (-1) 0 (-1) 0 10 [(Fld.mk 1 0 (-1) (-1) (-1) 0 0 []), (Fld.mk 8 0 (-1) (-1) (-1) 0 0 [])])) (FldR.mk (l := [(Fld.mk 1 0 (-1) (-1) (-1) 0 0 []), (Fld.mk 8 0 (-1) (-1) (-1) 0 0 [])]) _ ax.1 ax.2)) (c := [.int .i64 11, .int .i64 0, .int .i64 (-1), .int .i64 0, .int .i64 (-1), .int .i64 0, .int .i64 10, .slice (some ⟨au, 0, none⟩) 2 2]) (x := (Fld.mk 11 0 (-1) 0 (-1) 0 10 [(Fld.mk 8 0 (-1) (-1) (-1) 0 0 []), (Fld.mk 11 0 (-1) (-1) (-1) 0 3 [])])) (FldR.mk (l := [(Fld.mk 8 0 (-1) (-1) (-1) 0 0 []), (Fld.mk 11 0 (-1) (-1) (-1) 0 3 [])]) _ ay.1 ay.2)) (c := [.int .i64 11, .int .i64 0, .int .i64 (-1), .int .i64 0, .int .i64 (-1), .int .i64 0, .int .i64 10, .slice (some ⟨av, 0, none⟩) 2 2]) (x := (Fld.mk 11 0 (-1) 0 (-1) 0 10 [(Fld.mk 8 0 (-1) (-1) (-1) 0 0 []), (Fld.mk 11 0 (-1) (-1) (-1) 0 3 [])])) (FldR.mk (l := [(Fld.mk 8 0 (-1) (-1) (-1) 0 0 []), (Fld.mk 11 0 (-1) (-1) (-1) 0 3 [])]) _ aA.1 aA.2)) (c := [.int .i64 11, .int .i64 0, .int .i64 (-1), .int .i64 0, .int .i64 (-1), .int .i64 0, .int .i64 10, .slice (some ⟨aH, 0, none⟩) 2 2]) (x := (Fld.mk 11 0 (-1) 0 (-1) 0 10 [(Fld.mk 8 0 (-1) (-1) (-1) 0 0 []), (Fld.mk 11 0 (-1) (-1) (-1) 0 3 [])])) (FldR.mk (l := [(Fld.mk 8 0 (-1) (-1) (-1) 0 0 []), (Fld.mk 11 0 (-1) (-1) (-1) 0 3 [])]) _ aB.1 aB.2)) (c := [.int .i64 0, .int .i64 1, .int .i64 (-1), .int .i64 (-1), .int .i64 (-1), .int .i64 0, .int .i64 0, .slice none 0 0]) (x := (Fld.mk 0 1 (-1) (-1) (-1) 0 0 [])) (FldR.mk (l := []) _ (noFlds aa (Fp F w)).1 (noFlds aa (Fp F w)).2)) (c := [.int .i64 3, .int .i64 0, .int .i64 (-1), .int .i64 (-1), .int .i64 (-1), .int .i64 0, .int .i64 0, .slice none 0 0]) (x := (Fld.mk 3 0 (-1) (-1) (-1) 0 0 [])) (FldR.mk (l := []) _ (noFlds aa (Fp F w)).1 (noFlds aa (Fp F w)).2)) (c := [.int .i64 11, .int .i64 0, .int .i64 (-1), .int .i64 0, .int .i64 (-1), .int .i64 0, .int .i64 10, .slice (some ⟨ar, 0, none⟩) 3 3]) (x := (Fld.mk 11 0 (-1) 0 (-1) 0 10 [(Fld.mk 10 0 (-1) (-1) (-1) 0 0 [(Fld.mk 8 0 (-1) (-1) (-1) 0 0 []), (Fld.mk 5 0 (-1) (-1) (-1) 0 0 [])]), (Fld.mk 11 0 (-1) (-1) (-1) 0 10 [(Fld.mk 8 0 (-1) (-1) (-1) 0 0 []), (Fld.mk 11 0 (-1) (-1) (-1) 0 3 [])]), (Fld.mk 11 0 (-1) (-1) (-1) 0 10 [(Fld.mk 8 0 (-1) (-1) (-1) 0 0 []), (Fld.mk 11 0 (-1) (-1) (-1) 0 3 [])])])) (FldR.mk (l := [(Fld.mk 10 0 (-1) (-1) (-1) 0 0 [(Fld.mk 8 0 (-1) (-1) (-1) 0 0 []), (Fld.mk 5 0 (-1) (-1) (-1) 0 0 [])]), (Fld.mk 11 0 (-1) (-1) (-1) 0 10 [(Fld.mk 8 0 (-1) (-1) (-1) 0 0 []), (Fld.mk 11 0 (-1) (-1) (-1) 0 3 [])]), (Fld.mk 11 0 (-1) (-1) (-1) 0 10 [(Fld.mk 8 0 (-1) (-1) (-1) 0 0 []), (Fld.mk 11 0 (-1) (-1) (-1) 0 3 [])])]) _ aF.1 aF.2)) rfl (by decide)
 exact ⟨_, _, rfl, ⟨_, aG.1, aG.2⟩, ab.step⟩
end Go.Proofs.YtbjopfcbpobnpaaGreat.ME
namespace Go.Proofs.YtbjopfcbpobnpaaGreat.ME
open Go
open Go.RowKit
set_option linter.unusedVariables false
set_option linter.unusedSimpArgs false
set_option maxRecDepth 20000
def canStreamsGroupHeartbeatResponseStatus (T : Tree) : Prop := (True) ∧ ((T.at_ 1).S.length ≤ 1000000) ∧ canU T.U ∧ True
def canTaskIDs (T : Tree) : Prop := ((T.at_ 0).S.length ≤ 1000000) ∧ ((lst (T.at_ 1)).length ≤ 1000000) ∧ canU T.U ∧ True
def canEndpoint (T : Tree) : Prop := ((T.at_ 0).S.length ≤ 1000000) ∧ (True) ∧ canU T.U ∧ True
def canStreamsGroupHeartbeatResponsePartitionsByUserEndpointActivePartition (T : Tree) : Prop := ((T.at_ 0).S.length ≤ 1000000) ∧ ((lst (T.at_ 1)).length ≤ 1000000) ∧ canU T.U ∧ True
def canStreamsGroupHeartbeatResponsePartitionsByUserEndpointStandbyPartition (T : Tree) : Prop := ((T.at_ 0).S.length ≤ 1000000) ∧ ((lst (T.at_ 1)).length ≤ 1000000) ∧ canU T.U ∧ True
def canStreamsGroupHeartbeatResponsePartitionsByUserEndpoint (T : Tree) : Prop := (canEndpoint (T.at_ 0)) ∧ ((lst (T.at_ 1)).length ≤ 1000000 ∧ ∀ x ∈ lst (T.at_ 1), canStreamsGroupHeartbeatResponsePartitionsByUserEndpointActivePartition x) ∧ ((lst (T.at_ 2)).length ≤ 1000000 ∧ ∀ x ∈ lst (T.at_ 2), canStreamsGroupHeartbeatResponsePartitionsByUserEndpointStandbyPartition x) ∧ canU T.U ∧ True
def canStreamsGroupHeartbeatResponse (T : Tree) : Prop := (True) ∧ (True) ∧ ((octOf (T.at_ 2)).length ≤ 1000000) ∧ ((T.at_ 3).S.length ≤ 1000000) ∧ (True) ∧ (True) ∧ (True) ∧ (True) ∧ (True) ∧ ((lst (T.at_ 9)).length ≤ 1000000 ∧ ∀ x ∈ lst (T.at_ 9), canStreamsGroupHeartbeatResponseStatus x) ∧ ((lst (T.at_ 10)).length ≤ 1000000 ∧ ∀ x ∈ lst (T.at_ 10), canTaskIDs x) ∧ ((lst (T.at_ 11)).length ≤ 1000000 ∧ ∀ x ∈ lst (T.at_ 11), canTaskIDs x) ∧ ((lst (T.at_ 12)).length ≤ 1000000 ∧ ∀ x ∈ lst (T.at_ 12), canTaskIDs x) ∧ (True) ∧ (True) ∧ ((lst (T.at_ 15)).length ≤ 1000000 ∧ ∀ x ∈ lst (T.at_ 15), canStreamsGroupHeartbeatResponsePartitionsByUserEndpoint x) ∧ canU T.U ∧ True
theorem canfitStreamsGroupHeartbeatResponse (v : Int) (t : Tree) : canStreamsGroupHeartbeatResponse (fitT v 8 sStreamsGroupHeartbeatResponseF t) := by
 unfold canStreamsGroupHeartbeatResponse
 exact ⟨(trivial), (trivial), (octs_le (d := 7) (show sStreamsGroupHeartbeatResponseF[2]? = _ from rfl) (by decide)), (by rw [fit_t (d := 7) (show sStreamsGroupHeartbeatResponseF[3]? = _ from rfl) (by decide)]; exact Nat.le_trans (whole_le _) (by decide)), (trivial), (trivial), (trivial), (trivial), (trivial), (⟨lst_le (d := 7) (show sStreamsGroupHeartbeatResponseF[9]? = _ from rfl), lst_mem (d := 7) (Q := canStreamsGroupHeartbeatResponseStatus) (show sStreamsGroupHeartbeatResponseF[9]? = _ from rfl) fun y => by
   have h := fit_10 (v := v) (d := 7) (x1 := 0) (x2 := -1) (x5 := 0) (x6 := 10) (s := [(Fld.mk 1 0 (-1) (-1) (-1) 0 0 []), (Fld.mk 8 0 (-1) (-1) (-1) 0 0 [])]) (b := Fld.nul (Fld.mk 10 0 (-1) (-1) (-1) 0 10 [(Fld.mk 1 0 (-1) (-1) (-1) 0 0 []), (Fld.mk 8 0 (-1) (-1) (-1) 0 0 [])]) v y) (x := y)
   unfold canStreamsGroupHeartbeatResponseStatus
   simp only [h.1, h.2]
   exact ⟨(trivial), (by rw [fit_t (d := 6) (show [(Fld.mk 1 0 (-1) (-1) (-1) 0 0 []), (Fld.mk 8 0 (-1) (-1) (-1) 0 0 [])][1]? = _ from rfl) (by decide)]; exact Nat.le_trans (whole_le _) (by decide)), (canU_fit), (trivial)⟩⟩), (⟨lst_le (d := 7) (show sStreamsGroupHeartbeatResponseF[10]? = _ from rfl), lst_mem (d := 7) (Q := canTaskIDs) (show sStreamsGroupHeartbeatResponseF[10]? = _ from rfl) fun y => by
   have h := fit_10 (v := v) (d := 7) (x1 := 0) (x2 := -1) (x5 := 0) (x6 := 10) (s := [(Fld.mk 8 0 (-1) (-1) (-1) 0 0 []), (Fld.mk 11 0 (-1) (-1) (-1) 0 3 [])]) (b := Fld.nul (Fld.mk 10 0 (-1) (-1) (-1) 0 10 [(Fld.mk 8 0 (-1) (-1) (-1) 0 0 []), (Fld.mk 11 0 (-1) (-1) (-1) 0 3 [])]) v y) (x := y)
   unfold canTaskIDs
   simp only [h.1, h.2]
   exact ⟨(by rw [fit_t (d := 6) (show [(Fld.mk 8 0 (-1) (-1) (-1) 0 0 []), (Fld.mk 11 0 (-1) (-1) (-1) 0 3 [])][0]? = _ from rfl) (by decide)]; exact Nat.le_trans (whole_le _) (by decide)), (lst_le (d := 6) (show [(Fld.mk 8 0 (-1) (-1) (-1) 0 0 []), (Fld.mk 11 0 (-1) (-1) (-1) 0 3 [])][1]? = _ from rfl)), (canU_fit), (trivial)⟩⟩), (⟨lst_le (d := 7) (show sStreamsGroupHeartbeatResponseF[11]? = _ from rfl), lst_mem (d := 7) (Q := canTaskIDs) (show sStreamsGroupHeartbeatResponseF[11]? = _ from rfl) fun y => by
   have h := fit_10 (v := v) (d := 7) (x1 := 0) (x2 := -1) (x5 := 0) (x6 := 10) (s := [(Fld.mk 8 0 (-1) (-1) (-1) 0 0 []), (Fld.mk 11 0 (-1) (-1) (-1) 0 3 [])]) (b := Fld.nul (Fld.mk 10 0 (-1) (-1) (-1) 0 10 [(Fld.mk 8 0 (-1) (-1) (-1) 0 0 []), (Fld.mk 11 0 (-1) (-1) (-1) 0 3 [])]) v y) (x := y)
   unfold canTaskIDs
   simp only [h.1, h.2]
   exact ⟨(by rw [fit_t (d := 6) (show [(Fld.mk 8 0 (-1) (-1) (-1) 0 0 []), (Fld.mk 11 0 (-1) (-1) (-1) 0 3 [])][0]? = _ from rfl) (by decide)]; exact Nat.le_trans (whole_le _) (by decide)), (lst_le (d := 6) (show [(Fld.mk 8 0 (-1) (-1) (-1) 0 0 []), (Fld.mk 11 0 (-1) (-1) (-1) 0 3 [])][1]? = _ from rfl)), (canU_fit), (trivial)⟩⟩), (⟨lst_le (d := 7) (show sStreamsGroupHeartbeatResponseF[12]? = _ from rfl), lst_mem (d := 7) (Q := canTaskIDs) (show sStreamsGroupHeartbeatResponseF[12]? = _ from rfl) fun y => by
   have h := fit_10 (v := v) (d := 7) (x1 := 0) (x2 := -1) (x5 := 0) (x6 := 10) (s := [(Fld.mk 8 0 (-1) (-1) (-1) 0 0 []), (Fld.mk 11 0 (-1) (-1) (-1) 0 3 [])]) (b := Fld.nul (Fld.mk 10 0 (-1) (-1) (-1) 0 10 [(Fld.mk 8 0 (-1) (-1) (-1) 0 0 []), (Fld.mk 11 0 (-1) (-1) (-1) 0 3 [])]) v y) (x := y)
   unfold canTaskIDs
   simp only [h.1, h.2]
   exact ⟨(by rw [fit_t (d := 6) (show [(Fld.mk 8 0 (-1) (-1) (-1) 0 0 []), (Fld.mk 11 0 (-1) (-1) (-1) 0 3 [])][0]? = _ from rfl) (by decide)]; exact Nat.le_trans (whole_le _) (by decide)), (lst_le (d := 6) (show [(Fld.mk 8 0 (-1) (-1) (-1) 0 0 []), (Fld.mk 11 0 (-1) (-1) (-1) 0 3 [])][1]? = _ from rfl)), (canU_fit), (trivial)⟩⟩), (trivial), (trivial), (⟨lst_le (d := 7) (show sStreamsGroupHeartbeatResponseF[15]? = _ from rfl), lst_mem (d := 7) (Q := canStreamsGroupHeartbeatResponsePartitionsByUserEndpoint) (show sStreamsGroupHeartbeatResponseF[15]? = _ from rfl) fun y => by
   have h := fit_10 (v := v) (d := 7) (x1 := 0) (x2 := -1) (x5 := 0) (x6 := 10) (s := [(Fld.mk 10 0 (-1) (-1) (-1) 0 0 [(Fld.mk 8 0 (-1) (-1) (-1) 0 0 []), (Fld.mk 5 0 (-1) (-1) (-1) 0 0 [])]), (Fld.mk 11 0 (-1) (-1) (-1) 0 10 [(Fld.mk 8 0 (-1) (-1) (-1) 0 0 []), (Fld.mk 11 0 (-1) (-1) (-1) 0 3 [])]), (Fld.mk 11 0 (-1) (-1) (-1) 0 10 [(Fld.mk 8 0 (-1) (-1) (-1) 0 0 []), (Fld.mk 11 0 (-1) (-1) (-1) 0 3 [])])]) (b := Fld.nul (Fld.mk 10 0 (-1) (-1) (-1) 0 10 [(Fld.mk 10 0 (-1) (-1) (-1) 0 0 [(Fld.mk 8 0 (-1) (-1) (-1) 0 0 []), (Fld.mk 5 0 (-1) (-1) (-1) 0 0 [])]), (Fld.mk 11 0 (-1) (-1) (-1) 0 10 [(Fld.mk 8 0 (-1) (-1) (-1) 0 0 []), (Fld.mk 11 0 (-1) (-1) (-1) 0 3 [])]), (Fld.mk 11 0 (-1) (-1) (-1) 0 10 [(Fld.mk 8 0 (-1) (-1) (-1) 0 0 []), (Fld.mk 11 0 (-1) (-1) (-1) 0 3 [])])]) v y) (x := y)
   unfold canStreamsGroupHeartbeatResponsePartitionsByUserEndpoint
   simp only [h.1, h.2]
   exact ⟨(by
     have h := fit_10s (v := v) (d := 6) (t := y) (show [(Fld.mk 10 0 (-1) (-1) (-1) 0 0 [(Fld.mk 8 0 (-1) (-1) (-1) 0 0 []), (Fld.mk 5 0 (-1) (-1) (-1) 0 0 [])]), (Fld.mk 11 0 (-1) (-1) (-1) 0 10 [(Fld.mk 8 0 (-1) (-1) (-1) 0 0 []), (Fld.mk 11 0 (-1) (-1) (-1) 0 3 [])]), (Fld.mk 11 0 (-1) (-1) (-1) 0 10 [(Fld.mk 8 0 (-1) (-1) (-1) 0 0 []), (Fld.mk 11 0 (-1) (-1) (-1) 0 3 [])])][0]? = _ from rfl)
     unfold canEndpoint
     simp only [h.1, h.2.1]
     exact ⟨(by rw [fit_t (d := 5) (show [(Fld.mk 8 0 (-1) (-1) (-1) 0 0 []), (Fld.mk 5 0 (-1) (-1) (-1) 0 0 [])][0]? = _ from rfl) (by decide)]; exact Nat.le_trans (whole_le _) (by decide)), (trivial), (canU_fit), (trivial)⟩), (⟨lst_le (d := 6) (show [(Fld.mk 10 0 (-1) (-1) (-1) 0 0 [(Fld.mk 8 0 (-1) (-1) (-1) 0 0 []), (Fld.mk 5 0 (-1) (-1) (-1) 0 0 [])]), (Fld.mk 11 0 (-1) (-1) (-1) 0 10 [(Fld.mk 8 0 (-1) (-1) (-1) 0 0 []), (Fld.mk 11 0 (-1) (-1) (-1) 0 3 [])]), (Fld.mk 11 0 (-1) (-1) (-1) 0 10 [(Fld.mk 8 0 (-1) (-1) (-1) 0 0 []), (Fld.mk 11 0 (-1) (-1) (-1) 0 3 [])])][1]? = _ from rfl), lst_mem (d := 6) (Q := canStreamsGroupHeartbeatResponsePartitionsByUserEndpointActivePartition) (show [(Fld.mk 10 0 (-1) (-1) (-1) 0 0 [(Fld.mk 8 0 (-1) (-1) (-1) 0 0 []), (Fld.mk 5 0 (-1) (-1) (-1) 0 0 [])]), (Fld.mk 11 0 (-1) (-1) (-1) 0 10 [(Fld.mk 8 0 (-1) (-1) (-1) 0 0 []), (Fld.mk 11 0 (-1) (-1) (-1) 0 3 [])]), (Fld.mk 11 0 (-1) (-1) (-1) 0 10 [(Fld.mk 8 0 (-1) (-1) (-1) 0 0 []), (Fld.mk 11 0 (-1) (-1) (-1) 0 3 [])])][1]? = _ from rfl) fun y => by
     have h := fit_10 (v := v) (d := 6) (x1 := 0) (x2 := -1) (x5 := 0) (x6 := 10) (s := [(Fld.mk 8 0 (-1) (-1) (-1) 0 0 []), (Fld.mk 11 0 (-1) (-1) (-1) 0 3 [])]) (b := Fld.nul (Fld.mk 10 0 (-1) (-1) (-1) 0 10 [(Fld.mk 8 0 (-1) (-1) (-1) 0 0 []), (Fld.mk 11 0 (-1) (-1) (-1) 0 3 [])]) v y) (x := y)
     unfold canStreamsGroupHeartbeatResponsePartitionsByUserEndpointActivePartition
     simp only [h.1, h.2]
     exact ⟨(by rw [fit_t (d := 5) (show [(Fld.mk 8 0 (-1) (-1) (-1) 0 0 []), (Fld.mk 11 0 (-1) (-1) (-1) 0 3 [])][0]? = _ from rfl) (by decide)]; exact Nat.le_trans (whole_le _) (by decide)), (lst_le (d := 5) (show [(Fld.mk 8 0 (-1) (-1) (-1) 0 0 []), (Fld.mk 11 0 (-1) (-1) (-1) 0 3 [])][1]? = _ from rfl)), (canU_fit), (trivial)⟩⟩), (⟨lst_le (d := 6) (show [(Fld.mk 10 0 (-1) (-1) (-1) 0 0 [(Fld.mk 8 0 (-1) (-1) (-1) 0 0 []), (Fld.mk 5 0 (-1) (-1) (-1) 0 0 [])]), (Fld.mk 11 0 (-1) (-1) (-1) 0 10 [(Fld.mk 8 0 (-1) (-1) (-1) 0 0 []), (Fld.mk 11 0 (-1) (-1) (-1) 0 3 [])]), (Fld.mk 11 0 (-1) (-1) (-1) 0 10 [(Fld.mk 8 0 (-1) (-1) (-1) 0 0 []), (Fld.mk 11 0 (-1) (-1) (-1) 0 3 [])])][2]? = _ from rfl), lst_mem (d := 6) (Q := canStreamsGroupHeartbeatResponsePartitionsByUserEndpointStandbyPartition) (show [(Fld.mk 10 0 (-1) (-1) (-1) 0 0 [(Fld.mk 8 0 (-1) (-1) (-1) 0 0 []), (Fld.mk 5 0 (-1) (-1) (-1) 0 0 [])]), (Fld.mk 11 0 (-1) (-1) (-1) 0 10 [(Fld.mk 8 0 (-1) (-1) (-1) 0 0 []), (Fld.mk 11 0 (-1) (-1) (-1) 0 3 [])]), (Fld.mk 11 0 (-1) (-1) (-1) 0 10 [(Fld.mk 8 0 (-1) (-1) (-1) 0 0 []), (Fld.mk 11 0 (-1) (-1) (-1) 0 3 [])])][2]? = _ from rfl) fun y => by
     have h := fit_10 (v := v) (d := 6) (x1 := 0) (x2 := -1) (x5 := 0) (x6 := 10) (s := [(Fld.mk 8 0 (-1) (-1) (-1) 0 0 []), (Fld.mk 11 0 (-1) (-1) (-1) 0 3 [])]) (b := Fld.nul (Fld.mk 10 0 (-1) (-1) (-1) 0 10 [(Fld.mk 8 0 (-1) (-1) (-1) 0 0 []), (Fld.mk 11 0 (-1) (-1) (-1) 0 3 [])]) v y) (x := y)
     unfold canStreamsGroupHeartbeatResponsePartitionsByUserEndpointStandbyPartition
     simp only [h.1, h.2]
     exact ⟨(by rw [fit_t (d := 5) (show [(Fld.mk 8 0 (-1) (-1) (-1) 0 0 []), (Fld.mk 11 0 (-1) (-1) (-1) 0 3 [])][0]? = _ from rfl) (by decide)]; exact Nat.le_trans (whole_le _) (by decide)), (lst_le (d := 5) (show [(Fld.mk 8 0 (-1) (-1) (-1) 0 0 []), (Fld.mk 11 0 (-1) (-1) (-1) 0 3 [])][1]? = _ from rfl)), (canU_fit), (trivial)⟩⟩), (canU_fit), (trivial)⟩⟩), (canU_fit), (trivial)⟩
set_option maxHeartbeats 4000000 in
theorem pureStreamsGroupHeartbeatResponse (v : Int) (h0 : 0 ≤ v) (h1 : v < 32768) (t : Tree) : tStreamsGroupHeartbeatResponse v (fitT v 8 sStreamsGroupHeartbeatResponseF t) = writeB 8 sStreamsGroupHeartbeatResponseF sStreamsGroupHeartbeatResponseX v t := by
 have bi : ((fitT v 8 sStreamsGroupHeartbeatResponseF t).at_ 0).N = (t.at_ 0).N := fit_N (d := 7) (show sStreamsGroupHeartbeatResponseF[0]? = _ from rfl) (by decide)
 have bj : ((fitT v 8 sStreamsGroupHeartbeatResponseF t).at_ 1).N = (t.at_ 1).N := fit_N (d := 7) (show sStreamsGroupHeartbeatResponseF[1]? = _ from rfl) (by decide)
 have aE := fit_o (v := v) (d := 7) (t := t) (l := sStreamsGroupHeartbeatResponseF) (i := 2) (show sStreamsGroupHeartbeatResponseF[2]? = _ from rfl) (by decide)
 have bk := fit_t (v := v) (d := 7) (t := t) (l := sStreamsGroupHeartbeatResponseF) (i := 3) (show sStreamsGroupHeartbeatResponseF[3]? = _ from rfl) (by decide)
 have bn : ((fitT v 8 sStreamsGroupHeartbeatResponseF t).at_ 4).N = (t.at_ 4).N := fit_N (d := 7) (show sStreamsGroupHeartbeatResponseF[4]? = _ from rfl) (by decide)
 have bp : ((fitT v 8 sStreamsGroupHeartbeatResponseF t).at_ 5).N = (t.at_ 5).N := fit_N (d := 7) (show sStreamsGroupHeartbeatResponseF[5]? = _ from rfl) (by decide)
 have bq : ((fitT v 8 sStreamsGroupHeartbeatResponseF t).at_ 6).N = (t.at_ 6).N := fit_N (d := 7) (show sStreamsGroupHeartbeatResponseF[6]? = _ from rfl) (by decide)
 have br : ((fitT v 8 sStreamsGroupHeartbeatResponseF t).at_ 7).N = (t.at_ 7).N := fit_N (d := 7) (show sStreamsGroupHeartbeatResponseF[7]? = _ from rfl) (by decide)
 have bt : ((fitT v 8 sStreamsGroupHeartbeatResponseF t).at_ 8).N = (t.at_ 8).N := fit_N (d := 7) (show sStreamsGroupHeartbeatResponseF[8]? = _ from rfl) (by decide)
 obtain ⟨f337n, bu⟩ := fit_11 (v := v) (d := 7) (t := t) (l := sStreamsGroupHeartbeatResponseF) (i := 9) (show sStreamsGroupHeartbeatResponseF[9]? = _ from rfl)
 obtain ⟨f338n, bv⟩ := fit_11 (v := v) (d := 7) (t := t) (l := sStreamsGroupHeartbeatResponseF) (i := 10) (show sStreamsGroupHeartbeatResponseF[10]? = _ from rfl)
 obtain ⟨f339n, bw⟩ := fit_11 (v := v) (d := 7) (t := t) (l := sStreamsGroupHeartbeatResponseF) (i := 11) (show sStreamsGroupHeartbeatResponseF[11]? = _ from rfl)
 obtain ⟨f340n, bz⟩ := fit_11 (v := v) (d := 7) (t := t) (l := sStreamsGroupHeartbeatResponseF) (i := 12) (show sStreamsGroupHeartbeatResponseF[12]? = _ from rfl)
 have bA : ((fitT v 8 sStreamsGroupHeartbeatResponseF t).at_ 13).N = (t.at_ 13).N := fit_N (d := 7) (show sStreamsGroupHeartbeatResponseF[13]? = _ from rfl) (by decide)
 have bB : ((fitT v 8 sStreamsGroupHeartbeatResponseF t).at_ 14).N = (t.at_ 14).N := fit_N (d := 7) (show sStreamsGroupHeartbeatResponseF[14]? = _ from rfl) (by decide)
 obtain ⟨f343n, bC⟩ := fit_11 (v := v) (d := 7) (t := t) (l := sStreamsGroupHeartbeatResponseF) (i := 15) (show sStreamsGroupHeartbeatResponseF[15]? = _ from rfl)
 have aF : ∀ aj : Tree, (fun ai : Tree => (be 1 ((IntKind.i8.wrap (ai.at_ 0).N))) ++ ((if (decide (v ≥ 0)) = true then (uv ((ai.at_ 1).S.length + 1) ++ (ai.at_ 1).S) else (be 2 (ai.at_ 1).S.length ++ (ai.at_ 1).S)) ++ (if (decide (v ≥ 0)) = true then (uv ai.U.length) ++ (tagsR ai.U) else []))) (fitted0 (fitT v 7) (Fld.mk 10 0 (-1) (-1) (-1) 0 10 [(Fld.mk 1 0 (-1) (-1) (-1) 0 0 []), (Fld.mk 8 0 (-1) (-1) (-1) 0 0 [])]) (Fld.nul (Fld.mk 10 0 (-1) (-1) (-1) 0 10 [(Fld.mk 1 0 (-1) (-1) (-1) 0 0 []), (Fld.mk 8 0 (-1) (-1) (-1) 0 0 [])]) v aj) aj) = partB 7 [(Fld.mk 1 0 (-1) (-1) (-1) 0 0 []), (Fld.mk 8 0 (-1) (-1) (-1) 0 0 [])] v (decide (v ≥ 0)) aj := by
  intro aj
  dsimp only
  obtain ⟨aG, aH⟩ := fit_10 (v := v) (d := 7) (x1 := 0) (x2 := -1) (x5 := 0) (x6 := 10) (s := [(Fld.mk 1 0 (-1) (-1) (-1) 0 0 []), (Fld.mk 8 0 (-1) (-1) (-1) 0 0 [])]) (b := Fld.nul (Fld.mk 10 0 (-1) (-1) (-1) 0 10 [(Fld.mk 1 0 (-1) (-1) (-1) 0 0 []), (Fld.mk 8 0 (-1) (-1) (-1) 0 0 [])]) v aj) (x := aj)
  simp only [aG, aH]
  have bD : ((fitT v 7 [(Fld.mk 1 0 (-1) (-1) (-1) 0 0 []), (Fld.mk 8 0 (-1) (-1) (-1) 0 0 [])] aj).at_ 0).N = (aj.at_ 0).N := fit_N (d := 6) (show [(Fld.mk 1 0 (-1) (-1) (-1) 0 0 []), (Fld.mk 8 0 (-1) (-1) (-1) 0 0 [])][0]? = _ from rfl) (by decide)
  have bE := fit_t (v := v) (d := 6) (t := aj) (l := [(Fld.mk 1 0 (-1) (-1) (-1) 0 0 []), (Fld.mk 8 0 (-1) (-1) (-1) 0 0 [])]) (i := 1) (show [(Fld.mk 1 0 (-1) (-1) (-1) 0 0 []), (Fld.mk 8 0 (-1) (-1) (-1) 0 0 [])][1]? = _ from rfl) (by decide)
  simp only [fit_U, tagsR_whole, wholeU_len, List.flatMap_map, List.length_map, bD, bE]
  try simp only [be4_i32', be2_i16, be8_i64, be1_i8, be2_wrap, sixteenB_uuid, bool8, be8_f64]
  by_cases c0 : v ≤ 0 <;> by_cases c1 : v ≥ 1 <;> first | (exfalso; omega) | simp [partB, partW, bodyB, Fld.tag, Fld.has, fieldB, Fld.kind, Fld.null, Fld.of, Fld.sub, valueB, widthI, tagsN, tagsK, knownI, countedB, uv0, nul_no, c0, c1, h0]
 have aI : ∀ ak : Tree, (fun ae : Tree => (if (decide (v ≥ 0)) = true then (uv ((ae.at_ 0).S.length + 1) ++ (ae.at_ 0).S) else (be 2 (ae.at_ 0).S.length ++ (ae.at_ 0).S)) ++ (((if (decide (v ≥ 0)) = true then (uv ((lst (ae.at_ 1)).length + 1)) else (be 4 (lst (ae.at_ 1)).length)) ++ ((lst (ae.at_ 1)).flatMap fun av => be 4 ((IntKind.i32.wrap av.N)))) ++ (if (decide (v ≥ 0)) = true then (uv ae.U.length) ++ (tagsR ae.U) else []))) (fitted0 (fitT v 7) (Fld.mk 10 0 (-1) (-1) (-1) 0 10 [(Fld.mk 8 0 (-1) (-1) (-1) 0 0 []), (Fld.mk 11 0 (-1) (-1) (-1) 0 3 [])]) (Fld.nul (Fld.mk 10 0 (-1) (-1) (-1) 0 10 [(Fld.mk 8 0 (-1) (-1) (-1) 0 0 []), (Fld.mk 11 0 (-1) (-1) (-1) 0 3 [])]) v ak) ak) = partB 7 [(Fld.mk 8 0 (-1) (-1) (-1) 0 0 []), (Fld.mk 11 0 (-1) (-1) (-1) 0 3 [])] v (decide (v ≥ 0)) ak := by
  intro ak
  dsimp only
  obtain ⟨aJ, aK⟩ := fit_10 (v := v) (d := 7) (x1 := 0) (x2 := -1) (x5 := 0) (x6 := 10) (s := [(Fld.mk 8 0 (-1) (-1) (-1) 0 0 []), (Fld.mk 11 0 (-1) (-1) (-1) 0 3 [])]) (b := Fld.nul (Fld.mk 10 0 (-1) (-1) (-1) 0 10 [(Fld.mk 8 0 (-1) (-1) (-1) 0 0 []), (Fld.mk 11 0 (-1) (-1) (-1) 0 3 [])]) v ak) (x := ak)
  simp only [aJ, aK]
  have bF := fit_t (v := v) (d := 6) (t := ak) (l := [(Fld.mk 8 0 (-1) (-1) (-1) 0 0 []), (Fld.mk 11 0 (-1) (-1) (-1) 0 3 [])]) (i := 0) (show [(Fld.mk 8 0 (-1) (-1) (-1) 0 0 []), (Fld.mk 11 0 (-1) (-1) (-1) 0 3 [])][0]? = _ from rfl) (by decide)
  obtain ⟨f353n, bG⟩ := fit_11 (v := v) (d := 6) (t := ak) (l := [(Fld.mk 8 0 (-1) (-1) (-1) 0 0 []), (Fld.mk 11 0 (-1) (-1) (-1) 0 3 [])]) (i := 1) (show [(Fld.mk 8 0 (-1) (-1) (-1) 0 0 []), (Fld.mk 11 0 (-1) (-1) (-1) 0 3 [])][1]? = _ from rfl)
  have aL : ∀ aw : Tree, (fun av : Tree => be 4 ((IntKind.i32.wrap av.N))) (fitted0 (fitT v 6) (Fld.mk 3 0 (-1) (-1) (-1) 0 3 []) (Fld.nul (Fld.mk 3 0 (-1) (-1) (-1) 0 3 []) v aw) aw) = be 4 aw.N := by
   intro aw
   dsimp only
   cases aw; simp [fitted0, Fld.kind, Tree.N, be4_i32', be2_i16, be8_i64, be1_i8]
  simp only [fit_U, tagsR_whole, wholeU_len, List.flatMap_map, List.length_map, bF, f353n, bG]
  simp only [aL]
  try simp only [be4_i32', be2_i16, be8_i64, be1_i8, be2_wrap, sixteenB_uuid, bool8, be8_f64]
  by_cases c0 : v ≤ 0 <;> by_cases c1 : v ≥ 1 <;> first | (exfalso; omega) | simp [partB, partW, bodyB, Fld.tag, Fld.has, fieldB, Fld.kind, Fld.null, Fld.of, Fld.sub, valueB, widthI, tagsN, tagsK, knownI, countedB, uv0, nul_no, c0, c1, h0]
 have aM : ∀ al : Tree, (fun af : Tree => (if (decide (v ≥ 0)) = true then (uv ((af.at_ 0).S.length + 1) ++ (af.at_ 0).S) else (be 2 (af.at_ 0).S.length ++ (af.at_ 0).S)) ++ (((if (decide (v ≥ 0)) = true then (uv ((lst (af.at_ 1)).length + 1)) else (be 4 (lst (af.at_ 1)).length)) ++ ((lst (af.at_ 1)).flatMap fun ax => be 4 ((IntKind.i32.wrap ax.N)))) ++ (if (decide (v ≥ 0)) = true then (uv af.U.length) ++ (tagsR af.U) else []))) (fitted0 (fitT v 7) (Fld.mk 10 0 (-1) (-1) (-1) 0 10 [(Fld.mk 8 0 (-1) (-1) (-1) 0 0 []), (Fld.mk 11 0 (-1) (-1) (-1) 0 3 [])]) (Fld.nul (Fld.mk 10 0 (-1) (-1) (-1) 0 10 [(Fld.mk 8 0 (-1) (-1) (-1) 0 0 []), (Fld.mk 11 0 (-1) (-1) (-1) 0 3 [])]) v al) al) = partB 7 [(Fld.mk 8 0 (-1) (-1) (-1) 0 0 []), (Fld.mk 11 0 (-1) (-1) (-1) 0 3 [])] v (decide (v ≥ 0)) al := by
  intro al
  dsimp only
  obtain ⟨aN, aO⟩ := fit_10 (v := v) (d := 7) (x1 := 0) (x2 := -1) (x5 := 0) (x6 := 10) (s := [(Fld.mk 8 0 (-1) (-1) (-1) 0 0 []), (Fld.mk 11 0 (-1) (-1) (-1) 0 3 [])]) (b := Fld.nul (Fld.mk 10 0 (-1) (-1) (-1) 0 10 [(Fld.mk 8 0 (-1) (-1) (-1) 0 0 []), (Fld.mk 11 0 (-1) (-1) (-1) 0 3 [])]) v al) (x := al)
  simp only [aN, aO]
  have bH := fit_t (v := v) (d := 6) (t := al) (l := [(Fld.mk 8 0 (-1) (-1) (-1) 0 0 []), (Fld.mk 11 0 (-1) (-1) (-1) 0 3 [])]) (i := 0) (show [(Fld.mk 8 0 (-1) (-1) (-1) 0 0 []), (Fld.mk 11 0 (-1) (-1) (-1) 0 3 [])][0]? = _ from rfl) (by decide)
  obtain ⟨f360n, bI⟩ := fit_11 (v := v) (d := 6) (t := al) (l := [(Fld.mk 8 0 (-1) (-1) (-1) 0 0 []), (Fld.mk 11 0 (-1) (-1) (-1) 0 3 [])]) (i := 1) (show [(Fld.mk 8 0 (-1) (-1) (-1) 0 0 []), (Fld.mk 11 0 (-1) (-1) (-1) 0 3 [])][1]? = _ from rfl)
  have aP : ∀ ay : Tree, (fun ax : Tree => be 4 ((IntKind.i32.wrap ax.N))) (fitted0 (fitT v 6) (Fld.mk 3 0 (-1) (-1) (-1) 0 3 []) (Fld.nul (Fld.mk 3 0 (-1) (-1) (-1) 0 3 []) v ay) ay) = be 4 ay.N := by
   intro ay
   dsimp only
   cases ay; simp [fitted0, Fld.kind, Tree.N, be4_i32', be2_i16, be8_i64, be1_i8]
  simp only [fit_U, tagsR_whole, wholeU_len, List.flatMap_map, List.length_map, bH, f360n, bI]
  simp only [aP]
  try simp only [be4_i32', be2_i16, be8_i64, be1_i8, be2_wrap, sixteenB_uuid, bool8, be8_f64]
  by_cases c0 : v ≤ 0 <;> by_cases c1 : v ≥ 1 <;> first | (exfalso; omega) | simp [partB, partW, bodyB, Fld.tag, Fld.has, fieldB, Fld.kind, Fld.null, Fld.of, Fld.sub, valueB, widthI, tagsN, tagsK, knownI, countedB, uv0, nul_no, c0, c1, h0]
 have aQ : ∀ am : Tree, (fun ag : Tree => (if (decide (v ≥ 0)) = true then (uv ((ag.at_ 0).S.length + 1) ++ (ag.at_ 0).S) else (be 2 (ag.at_ 0).S.length ++ (ag.at_ 0).S)) ++ (((if (decide (v ≥ 0)) = true then (uv ((lst (ag.at_ 1)).length + 1)) else (be 4 (lst (ag.at_ 1)).length)) ++ ((lst (ag.at_ 1)).flatMap fun aA => be 4 ((IntKind.i32.wrap aA.N)))) ++ (if (decide (v ≥ 0)) = true then (uv ag.U.length) ++ (tagsR ag.U) else []))) (fitted0 (fitT v 7) (Fld.mk 10 0 (-1) (-1) (-1) 0 10 [(Fld.mk 8 0 (-1) (-1) (-1) 0 0 []), (Fld.mk 11 0 (-1) (-1) (-1) 0 3 [])]) (Fld.nul (Fld.mk 10 0 (-1) (-1) (-1) 0 10 [(Fld.mk 8 0 (-1) (-1) (-1) 0 0 []), (Fld.mk 11 0 (-1) (-1) (-1) 0 3 [])]) v am) am) = partB 7 [(Fld.mk 8 0 (-1) (-1) (-1) 0 0 []), (Fld.mk 11 0 (-1) (-1) (-1) 0 3 [])] v (decide (v ≥ 0)) am := by
  intro am
  dsimp only
  obtain ⟨aR, aS⟩ := fit_10 (v := v) (d := 7) (x1 := 0) (x2 := -1) (x5 := 0) (x6 := 10) (s := [(Fld.mk 8 0 (-1) (-1) (-1) 0 0 []), (Fld.mk 11 0 (-1) (-1) (-1) 0 3 [])]) (b := Fld.nul (Fld.mk 10 0 (-1) (-1) (-1) 0 10 [(Fld.mk 8 0 (-1) (-1) (-1) 0 0 []), (Fld.mk 11 0 (-1) (-1) (-1) 0 3 [])]) v am) (x := am)
  simp only [aR, aS]
  have bJ := fit_t (v := v) (d := 6) (t := am) (l := [(Fld.mk 8 0 (-1) (-1) (-1) 0 0 []), (Fld.mk 11 0 (-1) (-1) (-1) 0 3 [])]) (i := 0) (show [(Fld.mk 8 0 (-1) (-1) (-1) 0 0 []), (Fld.mk 11 0 (-1) (-1) (-1) 0 3 [])][0]? = _ from rfl) (by decide)
  obtain ⟨f367n, bK⟩ := fit_11 (v := v) (d := 6) (t := am) (l := [(Fld.mk 8 0 (-1) (-1) (-1) 0 0 []), (Fld.mk 11 0 (-1) (-1) (-1) 0 3 [])]) (i := 1) (show [(Fld.mk 8 0 (-1) (-1) (-1) 0 0 []), (Fld.mk 11 0 (-1) (-1) (-1) 0 3 [])][1]? = _ from rfl)
  have aT : ∀ aB : Tree, (fun aA : Tree => be 4 ((IntKind.i32.wrap aA.N))) (fitted0 (fitT v 6) (Fld.mk 3 0 (-1) (-1) (-1) 0 3 []) (Fld.nul (Fld.mk 3 0 (-1) (-1) (-1) 0 3 []) v aB) aB) = be 4 aB.N := by
   intro aB
   dsimp only
   cases aB; simp [fitted0, Fld.kind, Tree.N, be4_i32', be2_i16, be8_i64, be1_i8]
  simp only [fit_U, tagsR_whole, wholeU_len, List.flatMap_map, List.length_map, bJ, f367n, bK]
  simp only [aT]
  try simp only [be4_i32', be2_i16, be8_i64, be1_i8, be2_wrap, sixteenB_uuid, bool8, be8_f64]
  by_cases c0 : v ≤ 0 <;> by_cases c1 : v ≥ 1 <;> first | (exfalso; omega) | simp [partB, partW, bodyB, Fld.tag, Fld.has, fieldB, Fld.kind, Fld.null, Fld.of, Fld.sub, valueB, widthI, tagsN, tagsK, knownI, countedB, uv0, nul_no, c0, c1, h0]
 have aU : ∀ ah : Tree, (fun ac : Tree => ((if (decide (v ≥ 0)) = true then (uv (((ac.at_ 0).at_ 0).S.length + 1) ++ ((ac.at_ 0).at_ 0).S) else (be 2 ((ac.at_ 0).at_ 0).S.length ++ ((ac.at_ 0).at_ 0).S)) ++ ((be 2 ((IntKind.u16.wrap ((ac.at_ 0).at_ 1).N))) ++ (if (decide (v ≥ 0)) = true then (uv (ac.at_ 0).U.length) ++ (tagsR (ac.at_ 0).U) else []))) ++ (((if (decide (v ≥ 0)) = true then (uv ((lst (ac.at_ 1)).length + 1)) else (be 4 (lst (ac.at_ 1)).length)) ++ ((lst (ac.at_ 1)).flatMap fun aa => (if (decide (v ≥ 0)) = true then (uv ((aa.at_ 0).S.length + 1) ++ (aa.at_ 0).S) else (be 2 (aa.at_ 0).S.length ++ (aa.at_ 0).S)) ++ (((if (decide (v ≥ 0)) = true then (uv ((lst (aa.at_ 1)).length + 1)) else (be 4 (lst (aa.at_ 1)).length)) ++ ((lst (aa.at_ 1)).flatMap fun ao => be 4 ((IntKind.i32.wrap ao.N)))) ++ (if (decide (v ≥ 0)) = true then (uv aa.U.length) ++ (tagsR aa.U) else [])))) ++ (((if (decide (v ≥ 0)) = true then (uv ((lst (ac.at_ 2)).length + 1)) else (be 4 (lst (ac.at_ 2)).length)) ++ ((lst (ac.at_ 2)).flatMap fun ab => (if (decide (v ≥ 0)) = true then (uv ((ab.at_ 0).S.length + 1) ++ (ab.at_ 0).S) else (be 2 (ab.at_ 0).S.length ++ (ab.at_ 0).S)) ++ (((if (decide (v ≥ 0)) = true then (uv ((lst (ab.at_ 1)).length + 1)) else (be 4 (lst (ab.at_ 1)).length)) ++ ((lst (ab.at_ 1)).flatMap fun ap => be 4 ((IntKind.i32.wrap ap.N)))) ++ (if (decide (v ≥ 0)) = true then (uv ab.U.length) ++ (tagsR ab.U) else [])))) ++ (if (decide (v ≥ 0)) = true then (uv ac.U.length) ++ (tagsR ac.U) else [])))) (fitted0 (fitT v 7) (Fld.mk 10 0 (-1) (-1) (-1) 0 10 [(Fld.mk 10 0 (-1) (-1) (-1) 0 0 [(Fld.mk 8 0 (-1) (-1) (-1) 0 0 []), (Fld.mk 5 0 (-1) (-1) (-1) 0 0 [])]), (Fld.mk 11 0 (-1) (-1) (-1) 0 10 [(Fld.mk 8 0 (-1) (-1) (-1) 0 0 []), (Fld.mk 11 0 (-1) (-1) (-1) 0 3 [])]), (Fld.mk 11 0 (-1) (-1) (-1) 0 10 [(Fld.mk 8 0 (-1) (-1) (-1) 0 0 []), (Fld.mk 11 0 (-1) (-1) (-1) 0 3 [])])]) (Fld.nul (Fld.mk 10 0 (-1) (-1) (-1) 0 10 [(Fld.mk 10 0 (-1) (-1) (-1) 0 0 [(Fld.mk 8 0 (-1) (-1) (-1) 0 0 []), (Fld.mk 5 0 (-1) (-1) (-1) 0 0 [])]), (Fld.mk 11 0 (-1) (-1) (-1) 0 10 [(Fld.mk 8 0 (-1) (-1) (-1) 0 0 []), (Fld.mk 11 0 (-1) (-1) (-1) 0 3 [])]), (Fld.mk 11 0 (-1) (-1) (-1) 0 10 [(Fld.mk 8 0 (-1) (-1) (-1) 0 0 []), (Fld.mk 11 0 (-1) (-1) (-1) 0 3 [])])]) v ah) ah) = partB 7 [(Fld.mk 10 0 (-1) (-1) (-1) 0 0 [(Fld.mk 8 0 (-1) (-1) (-1) 0 0 []), (Fld.mk 5 0 (-1) (-1) (-1) 0 0 [])]), (Fld.mk 11 0 (-1) (-1) (-1) 0 10 [(Fld.mk 8 0 (-1) (-1) (-1) 0 0 []), (Fld.mk 11 0 (-1) (-1) (-1) 0 3 [])]), (Fld.mk 11 0 (-1) (-1) (-1) 0 10 [(Fld.mk 8 0 (-1) (-1) (-1) 0 0 []), (Fld.mk 11 0 (-1) (-1) (-1) 0 3 [])])] v (decide (v ≥ 0)) ah := by
  intro ah
  dsimp only
  obtain ⟨aV, aW⟩ := fit_10 (v := v) (d := 7) (x1 := 0) (x2 := -1) (x5 := 0) (x6 := 10) (s := [(Fld.mk 10 0 (-1) (-1) (-1) 0 0 [(Fld.mk 8 0 (-1) (-1) (-1) 0 0 []), (Fld.mk 5 0 (-1) (-1) (-1) 0 0 [])]), (Fld.mk 11 0 (-1) (-1) (-1) 0 10 [(Fld.mk 8 0 (-1) (-1) (-1) 0 0 []), (Fld.mk 11 0 (-1) (-1) (-1) 0 3 [])]), (Fld.mk 11 0 (-1) (-1) (-1) 0 10 [(Fld.mk 8 0 (-1) (-1) (-1) 0 0 []), (Fld.mk 11 0 (-1) (-1) (-1) 0 3 [])])]) (b := Fld.nul (Fld.mk 10 0 (-1) (-1) (-1) 0 10 [(Fld.mk 10 0 (-1) (-1) (-1) 0 0 [(Fld.mk 8 0 (-1) (-1) (-1) 0 0 []), (Fld.mk 5 0 (-1) (-1) (-1) 0 0 [])]), (Fld.mk 11 0 (-1) (-1) (-1) 0 10 [(Fld.mk 8 0 (-1) (-1) (-1) 0 0 []), (Fld.mk 11 0 (-1) (-1) (-1) 0 3 [])]), (Fld.mk 11 0 (-1) (-1) (-1) 0 10 [(Fld.mk 8 0 (-1) (-1) (-1) 0 0 []), (Fld.mk 11 0 (-1) (-1) (-1) 0 3 [])])]) v ah) (x := ah)
  simp only [aV, aW]
  obtain ⟨bL, f373u, f373n⟩ := fit_10s (v := v) (d := 6) (t := ah) (l := [(Fld.mk 10 0 (-1) (-1) (-1) 0 0 [(Fld.mk 8 0 (-1) (-1) (-1) 0 0 []), (Fld.mk 5 0 (-1) (-1) (-1) 0 0 [])]), (Fld.mk 11 0 (-1) (-1) (-1) 0 10 [(Fld.mk 8 0 (-1) (-1) (-1) 0 0 []), (Fld.mk 11 0 (-1) (-1) (-1) 0 3 [])]), (Fld.mk 11 0 (-1) (-1) (-1) 0 10 [(Fld.mk 8 0 (-1) (-1) (-1) 0 0 []), (Fld.mk 11 0 (-1) (-1) (-1) 0 3 [])])]) (i := 0) (show [(Fld.mk 10 0 (-1) (-1) (-1) 0 0 [(Fld.mk 8 0 (-1) (-1) (-1) 0 0 []), (Fld.mk 5 0 (-1) (-1) (-1) 0 0 [])]), (Fld.mk 11 0 (-1) (-1) (-1) 0 10 [(Fld.mk 8 0 (-1) (-1) (-1) 0 0 []), (Fld.mk 11 0 (-1) (-1) (-1) 0 3 [])]), (Fld.mk 11 0 (-1) (-1) (-1) 0 10 [(Fld.mk 8 0 (-1) (-1) (-1) 0 0 []), (Fld.mk 11 0 (-1) (-1) (-1) 0 3 [])])][0]? = _ from rfl)
  have bM := fit_t (v := v) (d := 5) (t := (ah.at_ 0)) (l := [(Fld.mk 8 0 (-1) (-1) (-1) 0 0 []), (Fld.mk 5 0 (-1) (-1) (-1) 0 0 [])]) (i := 0) (show [(Fld.mk 8 0 (-1) (-1) (-1) 0 0 []), (Fld.mk 5 0 (-1) (-1) (-1) 0 0 [])][0]? = _ from rfl) (by decide)
  have bN : ((fitT v 6 [(Fld.mk 8 0 (-1) (-1) (-1) 0 0 []), (Fld.mk 5 0 (-1) (-1) (-1) 0 0 [])] (ah.at_ 0)).at_ 1).N = ((ah.at_ 0).at_ 1).N := fit_N (d := 5) (show [(Fld.mk 8 0 (-1) (-1) (-1) 0 0 []), (Fld.mk 5 0 (-1) (-1) (-1) 0 0 [])][1]? = _ from rfl) (by decide)
  obtain ⟨f376n, bO⟩ := fit_11 (v := v) (d := 6) (t := ah) (l := [(Fld.mk 10 0 (-1) (-1) (-1) 0 0 [(Fld.mk 8 0 (-1) (-1) (-1) 0 0 []), (Fld.mk 5 0 (-1) (-1) (-1) 0 0 [])]), (Fld.mk 11 0 (-1) (-1) (-1) 0 10 [(Fld.mk 8 0 (-1) (-1) (-1) 0 0 []), (Fld.mk 11 0 (-1) (-1) (-1) 0 3 [])]), (Fld.mk 11 0 (-1) (-1) (-1) 0 10 [(Fld.mk 8 0 (-1) (-1) (-1) 0 0 []), (Fld.mk 11 0 (-1) (-1) (-1) 0 3 [])])]) (i := 1) (show [(Fld.mk 10 0 (-1) (-1) (-1) 0 0 [(Fld.mk 8 0 (-1) (-1) (-1) 0 0 []), (Fld.mk 5 0 (-1) (-1) (-1) 0 0 [])]), (Fld.mk 11 0 (-1) (-1) (-1) 0 10 [(Fld.mk 8 0 (-1) (-1) (-1) 0 0 []), (Fld.mk 11 0 (-1) (-1) (-1) 0 3 [])]), (Fld.mk 11 0 (-1) (-1) (-1) 0 10 [(Fld.mk 8 0 (-1) (-1) (-1) 0 0 []), (Fld.mk 11 0 (-1) (-1) (-1) 0 3 [])])][1]? = _ from rfl)
  obtain ⟨f377n, bP⟩ := fit_11 (v := v) (d := 6) (t := ah) (l := [(Fld.mk 10 0 (-1) (-1) (-1) 0 0 [(Fld.mk 8 0 (-1) (-1) (-1) 0 0 []), (Fld.mk 5 0 (-1) (-1) (-1) 0 0 [])]), (Fld.mk 11 0 (-1) (-1) (-1) 0 10 [(Fld.mk 8 0 (-1) (-1) (-1) 0 0 []), (Fld.mk 11 0 (-1) (-1) (-1) 0 3 [])]), (Fld.mk 11 0 (-1) (-1) (-1) 0 10 [(Fld.mk 8 0 (-1) (-1) (-1) 0 0 []), (Fld.mk 11 0 (-1) (-1) (-1) 0 3 [])])]) (i := 2) (show [(Fld.mk 10 0 (-1) (-1) (-1) 0 0 [(Fld.mk 8 0 (-1) (-1) (-1) 0 0 []), (Fld.mk 5 0 (-1) (-1) (-1) 0 0 [])]), (Fld.mk 11 0 (-1) (-1) (-1) 0 10 [(Fld.mk 8 0 (-1) (-1) (-1) 0 0 []), (Fld.mk 11 0 (-1) (-1) (-1) 0 3 [])]), (Fld.mk 11 0 (-1) (-1) (-1) 0 10 [(Fld.mk 8 0 (-1) (-1) (-1) 0 0 []), (Fld.mk 11 0 (-1) (-1) (-1) 0 3 [])])][2]? = _ from rfl)
  have aX : ∀ ar : Tree, (fun aa : Tree => (if (decide (v ≥ 0)) = true then (uv ((aa.at_ 0).S.length + 1) ++ (aa.at_ 0).S) else (be 2 (aa.at_ 0).S.length ++ (aa.at_ 0).S)) ++ (((if (decide (v ≥ 0)) = true then (uv ((lst (aa.at_ 1)).length + 1)) else (be 4 (lst (aa.at_ 1)).length)) ++ ((lst (aa.at_ 1)).flatMap fun ao => be 4 ((IntKind.i32.wrap ao.N)))) ++ (if (decide (v ≥ 0)) = true then (uv aa.U.length) ++ (tagsR aa.U) else []))) (fitted0 (fitT v 6) (Fld.mk 10 0 (-1) (-1) (-1) 0 10 [(Fld.mk 8 0 (-1) (-1) (-1) 0 0 []), (Fld.mk 11 0 (-1) (-1) (-1) 0 3 [])]) (Fld.nul (Fld.mk 10 0 (-1) (-1) (-1) 0 10 [(Fld.mk 8 0 (-1) (-1) (-1) 0 0 []), (Fld.mk 11 0 (-1) (-1) (-1) 0 3 [])]) v ar) ar) = partB 6 [(Fld.mk 8 0 (-1) (-1) (-1) 0 0 []), (Fld.mk 11 0 (-1) (-1) (-1) 0 3 [])] v (decide (v ≥ 0)) ar := by
   intro ar
   dsimp only
   obtain ⟨aY, aZ⟩ := fit_10 (v := v) (d := 6) (x1 := 0) (x2 := -1) (x5 := 0) (x6 := 10) (s := [(Fld.mk 8 0 (-1) (-1) (-1) 0 0 []), (Fld.mk 11 0 (-1) (-1) (-1) 0 3 [])]) (b := Fld.nul (Fld.mk 10 0 (-1) (-1) (-1) 0 10 [(Fld.mk 8 0 (-1) (-1) (-1) 0 0 []), (Fld.mk 11 0 (-1) (-1) (-1) 0 3 [])]) v ar) (x := ar)
   simp only [aY, aZ]
   have bQ := fit_t (v := v) (d := 5) (t := ar) (l := [(Fld.mk 8 0 (-1) (-1) (-1) 0 0 []), (Fld.mk 11 0 (-1) (-1) (-1) 0 3 [])]) (i := 0) (show [(Fld.mk 8 0 (-1) (-1) (-1) 0 0 []), (Fld.mk 11 0 (-1) (-1) (-1) 0 3 [])][0]? = _ from rfl) (by decide)
   obtain ⟨f382n, bR⟩ := fit_11 (v := v) (d := 5) (t := ar) (l := [(Fld.mk 8 0 (-1) (-1) (-1) 0 0 []), (Fld.mk 11 0 (-1) (-1) (-1) 0 3 [])]) (i := 1) (show [(Fld.mk 8 0 (-1) (-1) (-1) 0 0 []), (Fld.mk 11 0 (-1) (-1) (-1) 0 3 [])][1]? = _ from rfl)
   have ba : ∀ aC : Tree, (fun ao : Tree => be 4 ((IntKind.i32.wrap ao.N))) (fitted0 (fitT v 5) (Fld.mk 3 0 (-1) (-1) (-1) 0 3 []) (Fld.nul (Fld.mk 3 0 (-1) (-1) (-1) 0 3 []) v aC) aC) = be 4 aC.N := by
    intro aC
    dsimp only
    cases aC; simp [fitted0, Fld.kind, Tree.N, be4_i32', be2_i16, be8_i64, be1_i8]
   simp only [fit_U, tagsR_whole, wholeU_len, List.flatMap_map, List.length_map, bQ, f382n, bR]
   simp only [ba]
   try simp only [be4_i32', be2_i16, be8_i64, be1_i8, be2_wrap, sixteenB_uuid, bool8, be8_f64]
   by_cases c0 : v ≤ 0 <;> by_cases c1 : v ≥ 1 <;> first | (exfalso; omega) | simp [partB, partW, bodyB, Fld.tag, Fld.has, fieldB, Fld.kind, Fld.null, Fld.of, Fld.sub, valueB, widthI, tagsN, tagsK, knownI, countedB, uv0, nul_no, c0, c1, h0]
  have bd : ∀ au : Tree, (fun ab : Tree => (if (decide (v ≥ 0)) = true then (uv ((ab.at_ 0).S.length + 1) ++ (ab.at_ 0).S) else (be 2 (ab.at_ 0).S.length ++ (ab.at_ 0).S)) ++ (((if (decide (v ≥ 0)) = true then (uv ((lst (ab.at_ 1)).length + 1)) else (be 4 (lst (ab.at_ 1)).length)) ++ ((lst (ab.at_ 1)).flatMap fun ap => be 4 ((IntKind.i32.wrap ap.N)))) ++ (if (decide (v ≥ 0)) = true then (uv ab.U.length) ++ (tagsR ab.U) else []))) (fitted0 (fitT v 6) (Fld.mk 10 0 (-1) (-1) (-1) 0 10 [(Fld.mk 8 0 (-1) (-1) (-1) 0 0 []), (Fld.mk 11 0 (-1) (-1) (-1) 0 3 [])]) (Fld.nul (Fld.mk 10 0 (-1) (-1) (-1) 0 10 [(Fld.mk 8 0 (-1) (-1) (-1) 0 0 []), (Fld.mk 11 0 (-1) (-1) (-1) 0 3 [])]) v au) au) = partB 6 [(Fld.mk 8 0 (-1) (-1) (-1) 0 0 []), (Fld.mk 11 0 (-1) (-1) (-1) 0 3 [])] v (decide (v ≥ 0)) au := by
   intro au
   dsimp only
   obtain ⟨bf, bg⟩ := fit_10 (v := v) (d := 6) (x1 := 0) (x2 := -1) (x5 := 0) (x6 := 10) (s := [(Fld.mk 8 0 (-1) (-1) (-1) 0 0 []), (Fld.mk 11 0 (-1) (-1) (-1) 0 3 [])]) (b := Fld.nul (Fld.mk 10 0 (-1) (-1) (-1) 0 10 [(Fld.mk 8 0 (-1) (-1) (-1) 0 0 []), (Fld.mk 11 0 (-1) (-1) (-1) 0 3 [])]) v au) (x := au)
   simp only [bf, bg]
   have bS := fit_t (v := v) (d := 5) (t := au) (l := [(Fld.mk 8 0 (-1) (-1) (-1) 0 0 []), (Fld.mk 11 0 (-1) (-1) (-1) 0 3 [])]) (i := 0) (show [(Fld.mk 8 0 (-1) (-1) (-1) 0 0 []), (Fld.mk 11 0 (-1) (-1) (-1) 0 3 [])][0]? = _ from rfl) (by decide)
   obtain ⟨f389n, bT⟩ := fit_11 (v := v) (d := 5) (t := au) (l := [(Fld.mk 8 0 (-1) (-1) (-1) 0 0 []), (Fld.mk 11 0 (-1) (-1) (-1) 0 3 [])]) (i := 1) (show [(Fld.mk 8 0 (-1) (-1) (-1) 0 0 []), (Fld.mk 11 0 (-1) (-1) (-1) 0 3 [])][1]? = _ from rfl)
   have bh : ∀ aD : Tree, (fun ap : Tree => be 4 ((IntKind.i32.wrap ap.N))) (fitted0 (fitT v 5) (Fld.mk 3 0 (-1) (-1) (-1) 0 3 []) (Fld.nul (Fld.mk 3 0 (-1) (-1) (-1) 0 3 []) v aD) aD) = be 4 aD.N := by
    intro aD
    dsimp only
    cases aD; simp [fitted0, Fld.kind, Tree.N, be4_i32', be2_i16, be8_i64, be1_i8]
   simp only [fit_U, tagsR_whole, wholeU_len, List.flatMap_map, List.length_map, bS, f389n, bT]
   simp only [bh]
   try simp only [be4_i32', be2_i16, be8_i64, be1_i8, be2_wrap, sixteenB_uuid, bool8, be8_f64]
   by_cases c0 : v ≤ 0 <;> by_cases c1 : v ≥ 1 <;> first | (exfalso; omega) | simp [partB, partW, bodyB, Fld.tag, Fld.has, fieldB, Fld.kind, Fld.null, Fld.of, Fld.sub, valueB, widthI, tagsN, tagsK, knownI, countedB, uv0, nul_no, c0, c1, h0]
  simp only [fit_U, tagsR_whole, wholeU_len, List.flatMap_map, List.length_map, bL, f373u, bM, bN, f376n, bO, f377n, bP]
  simp only [aX, bd]
  try simp only [be4_i32', be2_i16, be8_i64, be1_i8, be2_wrap, sixteenB_uuid, bool8, be8_f64]
  by_cases c0 : v ≤ 0 <;> by_cases c1 : v ≥ 1 <;> first | (exfalso; omega) | simp [partB, partW, bodyB, Fld.tag, Fld.has, fieldB, Fld.kind, Fld.null, Fld.of, Fld.sub, valueB, widthI, tagsN, tagsK, knownI, countedB, uv0, nul_no, c0, c1, h0]
 unfold tStreamsGroupHeartbeatResponse
 simp only [fit_U, tagsR_whole, wholeU_len, List.flatMap_map, List.length_map, bi, bj, aE.1, aE.2, bk, bn, bp, bq, br, bt, f337n, bu, f338n, bv, f339n, bw, f340n, bz, bA, bB, f343n, bC]
 simp only [aF, aI, aM, aQ, aU]
 try simp only [be4_i32', be2_i16, be8_i64, be1_i8, be2_wrap, sixteenB_uuid, bool8, be8_f64]
 by_cases c0 : v ≤ 0 <;> by_cases c1 : v ≥ 1 <;> by_cases n0 : Fld.nul (Fld.mk 8 0 (-1) 0 (-1) 0 0 []) v (t.at_ 2) = true <;> by_cases n1 : Fld.nul (Fld.mk 11 0 (-1) 0 (-1) 0 10 [(Fld.mk 1 0 (-1) (-1) (-1) 0 0 []), (Fld.mk 8 0 (-1) (-1) (-1) 0 0 [])]) v (t.at_ 9) = true <;> by_cases n2 : Fld.nul (Fld.mk 11 0 (-1) 0 (-1) 0 10 [(Fld.mk 8 0 (-1) (-1) (-1) 0 0 []), (Fld.mk 11 0 (-1) (-1) (-1) 0 3 [])]) v (t.at_ 10) = true <;> by_cases n3 : Fld.nul (Fld.mk 11 0 (-1) 0 (-1) 0 10 [(Fld.mk 8 0 (-1) (-1) (-1) 0 0 []), (Fld.mk 11 0 (-1) (-1) (-1) 0 3 [])]) v (t.at_ 11) = true <;> by_cases n4 : Fld.nul (Fld.mk 11 0 (-1) 0 (-1) 0 10 [(Fld.mk 8 0 (-1) (-1) (-1) 0 0 []), (Fld.mk 11 0 (-1) (-1) (-1) 0 3 [])]) v (t.at_ 12) = true <;> by_cases n5 : Fld.nul (Fld.mk 11 0 (-1) 0 (-1) 0 10 [(Fld.mk 10 0 (-1) (-1) (-1) 0 0 [(Fld.mk 8 0 (-1) (-1) (-1) 0 0 []), (Fld.mk 5 0 (-1) (-1) (-1) 0 0 [])]), (Fld.mk 11 0 (-1) (-1) (-1) 0 10 [(Fld.mk 8 0 (-1) (-1) (-1) 0 0 []), (Fld.mk 11 0 (-1) (-1) (-1) 0 3 [])]), (Fld.mk 11 0 (-1) (-1) (-1) 0 10 [(Fld.mk 8 0 (-1) (-1) (-1) 0 0 []), (Fld.mk 11 0 (-1) (-1) (-1) 0 3 [])])]) v (t.at_ 15) = true <;> (try have m0 := nul_ge n0) <;> (try have m1 := nul_ge n1) <;> (try have m2 := nul_ge n2) <;> (try have m3 := nul_ge n3) <;> (try have m4 := nul_ge n4) <;> (try have m5 := nul_ge n5) <;> first | (exfalso; omega) | simp [writeB, sStreamsGroupHeartbeatResponseX, sStreamsGroupHeartbeatResponseF, partB, partW, bodyB, Fld.tag, Fld.has, fieldB, Fld.kind, Fld.null, Fld.of, Fld.sub, valueB, widthI, tagsN, tagsK, knownI, countedB, uv0, nul_no, c0, c1, n0, n1, n2, n3, n4, n5, h0]
end Go.Proofs.YtbjopfcbpobnpaaGreat.ME
namespace Go.Proofs.YtbjopfcbpobnpaaGreat.ME
open Go
set_option linter.unusedVariables false
set_option linter.unusedSimpArgs false
def dv0 : DV := .leaf
structure Row_ (size : Nat) (cells : DV → List Value) (ok : DV → Prop) (rel : DV → Tree → Prop) (xs : List Value) (ds : List DV) (ts : List Tree) : Prop where
 flat : Flat size xs (ds.map cells)
 each : ∀ d ∈ ds, ok d
 len : ds.length = ts.length
 rel_ : ∀ (i : Nat) (d : DV) (t : Tree), ds[i]? = some d → ts[i]? = some t → rel d t
theorem Row_.nil {size : Nat} {cells : DV → List Value} {ok : DV → Prop} {rel : DV → Tree → Prop} : Row_ size cells ok rel [] [] [] :=
 ⟨Flat.nil size, (fun _ h => by cases h), rfl, fun i d t h => by simp at h⟩
theorem Row_.mono {size : Nat} {cells : DV → List Value} {ok ok' : DV → Prop} {rel : DV → Tree → Prop} {xs : List Value} {ds : List DV} {ts : List Tree} (h : Row_ size cells ok rel xs ds ts) (hk : ∀ d, ok d → ok' d) : Row_ size cells ok' rel xs ds ts :=
 ⟨h.flat, fun d hd => hk d (h.each d hd), h.len, h.rel_⟩
theorem Row_.snoc {size : Nat} {cells : DV → List Value} {ok : DV → Prop} {rel : DV → Tree → Prop} {xs : List Value} {ds : List DV} {ts : List Tree} (h : Row_ size cells ok rel xs ds ts) {d : DV} {t : Tree} (hc : (cells d).length = size) (ho : ok d) (hr : rel d t) :
  Row_ size cells ok rel (xs ++ cells d) (ds ++ [d]) (ts ++ [t]) := by
 refine ⟨?_, fun d' hd => ?_, by simp [h.len], fun i d' t' h1 h2 => ?_⟩
 ·rw [List.map_append, List.map_cons, List.map_nil]
  exact h.flat.snoc hc
 ·rcases List.mem_append.1 hd with hd | hd
  ·exact h.each d' hd
  ·rw [List.mem_singleton.1 hd]; exact ho
 ·have hl := h.len
  rcases get_snoc h1 with h1 | ⟨h1, rfl⟩
  ·rcases get_snoc h2 with h2 | ⟨h2, _⟩
   ·exact h.rel_ i d' t' h1 h2
   ·have := (List.getElem?_eq_some_iff.1 h1).1; omega
  ·rcases get_snoc h2 with h2 | ⟨_, rfl⟩
   ·have := (List.getElem?_eq_some_iff.1 h2).1; omega
   ·exact hr
theorem Row_.slots {w : World} {e size c n : Nat} {A : Option Addr} {cells : DV → List Value} {ok : DV → Prop} {rel : DV → Tree → Prop} {xs : List Value} {ds : List DV} {ts : List Tree} (h : Row_ size cells ok rel xs ds ts) (ho : w.ownsRow 0 e size (.slice A n c) n xs) (hn : n = ts.length) (h1 : ∀ d, ∀ u ∈ cells d, u.oneCell' = true) (hsm : ts.length ≤ 1099511627776) {F : Nat → Nat → Prop} (hF : ∀ g, A.map (·.block) = some g → ∀ o, F g o) :
  Slots w F size A c n (fun i => cells (ds.getD i dv0)) ∧ (∀ i, i < n → ok (ds.getD i dv0)) ∧ ∀ i, i < n → rel (ds.getD i dv0) (ts.getD i .zero) := by
 have hl := h.len
 have hnd : n = ds.length := by omega
 subst hnd
 have hcl : (ds.map cells).length = ds.length := List.length_map ..
 have hs := h.flat.slots (A := A) (c := c) (F := F) (by rw [hcl]; exact ho) (fun u hu => by
  rw [h.flat.eq] at hu
  obtain ⟨cs, hcs, hu⟩ := List.mem_flatten.1 hu
  obtain ⟨d, _, rfl⟩ := List.mem_map.1 hcs
  exact h1 d u hu) (by rw [hcl]; omega) hF
 rw [hcl] at hs
 have hg : ∀ i, i < ds.length → (ds.map cells).getD i [] = cells (ds.getD i dv0) := fun i hi => by
  rw [List.getD_eq_getElem?_getD, List.getElem?_map, List.getD_eq_getElem?_getD, List.getElem?_eq_getElem hi]; rfl
 refine ⟨⟨hs.le, hs.small, hs.none_, fun ad hA h0 => ?_⟩, fun i hi => ?_, fun i hi => ?_⟩
 ·obtain ⟨b, o, h2, h3⟩ := hs.some_ ad hA h0
  exact ⟨b, o, h2, fun i hi => by have := h3 i hi; rw [hg i hi] at this; exact this⟩
 ·rw [List.getD_eq_getElem?_getD, List.getElem?_eq_getElem hi]
  exact h.each _ (List.getElem_mem hi)
 ·have hi' : i < ts.length := by omega
  refine h.rel_ i _ _ ?_ ?_
  ·rw [List.getD_eq_getElem?_getD, List.getElem?_eq_getElem hi]; rfl
  ·rw [List.getD_eq_getElem?_getD, List.getElem?_eq_getElem hi']; rfl
end Go.Proofs.YtbjopfcbpobnpaaGreat.ME
namespace Go.Proofs.YtbjopfcbpobnpaaGreat.ME
open Go
open Go.RowKit
set_option linter.unusedVariables false
set_option linter.unusedSimpArgs false
def Moves (ok : World → (Nat → Nat → Prop) → DV → Prop) : Prop := ∀ {w w' : World} {F F' M : Nat → Nat → Prop} (d : DV), Step w w' M → (∀ b o, F b o → b < w.heap.size → ¬ M b o) → (∀ b o, F b o → b < w.heap.size → F' b o) → ok w F d → ok w' F' d
def okNone (_ : World) (_ : Nat → Nat → Prop) (_ : DV) : Prop := True
theorem mvNone : Moves okNone := fun _ _ _ _ _ => trivial
structure RowL (w : World) (F : Nat → Nat → Prop) (size : Nat) (cells : DV → List Value) (ok : World → (Nat → Nat → Prop) → DV → Prop) (rel : DV → Tree → Prop) (xs : List Value) (ds : List DV) (ts : List Tree) : Prop where
 mv : Moves ok
 row : Row_ size cells (ok w F) rel xs ds ts
structure LstR (w : World) (F : Nat → Nat → Prop) (size : Nat) (cells : DV → List Value) (ok : World → (Nat → Nat → Prop) → DV → Prop) (rel : DV → Tree → Prop) (A : Option Addr) (c : Nat) (f : Nat → DV) (ts : List Tree) : Prop where
 mv : Moves ok
 slots : Slots w F size A c ts.length (fun i => cells (f i))
 each : ∀ i, i < ts.length → ok w F (f i)
 rel_ : ∀ i, i < ts.length → rel (f i) (ts.getD i .zero)
section
variable {w w' w0 : World} {F F' M : Nat → Nat → Prop} {size : Nat} {cells : DV → List Value} {ok : World → (Nat → Nat → Prop) → DV → Prop} {rel : DV → Tree → Prop} {xs : List Value} {ds : List DV} {ts : List Tree} {A : Option Addr} {c : Nat} {f : Nat → DV} {tb : Tb} {rs rs' : List Rw}
theorem RowL.move (h : RowL w F size cells ok rel xs ds ts) (hs : Step w w' M) (hM : ∀ b o, F b o → b < w.heap.size → ¬ M b o) (hF : ∀ b o, F b o → b < w.heap.size → F' b o) : RowL w' F' size cells ok rel xs ds ts :=
 ⟨h.mv, h.row.mono fun d hd => h.mv d hs hM hF hd⟩
theorem RowL.nil (mv : Moves ok) : RowL w F size cells ok rel [] [] [] := ⟨mv, Row_.nil⟩
theorem RowL.snoc {l : List Tree} {k : Nat} {t : Tree} {d : DV} (h : RowL w F size cells ok rel xs ds (l.take k)) (hk : l[k]? = some t) (hc : (cells d).length = size) (ho : ok w F d) (hr : rel d t) : RowL w F size cells ok rel (xs ++ cells d) (ds ++ [d]) (l.take (k + 1)) := by
 rw [take_succ_of hk]
 exact ⟨h.mv, h.row.snoc hc ho hr⟩
theorem LstR.move (h : LstR w F size cells ok rel A c f ts) (hs : Step w w' M) (hM : ∀ b o, F b o → b < w.heap.size → ¬ M b o) (hF : ∀ b o, F b o → b < w.heap.size → F' b o) : LstR w' F' size cells ok rel A c f ts :=
 ⟨h.mv, h.slots.move hs hM hF, fun i hi => h.mv _ hs hM hF (h.each i hi), h.rel_⟩
theorem LstR.nil (mv : Moves ok) : LstR w F size cells ok rel none 0 (fun _ => dv0) [] :=
 ⟨mv, Slots.nil _ _ _ _, fun i hi => by simp at hi, fun i hi => by simp at hi⟩
theorem LstR.of {e n k : Nat} {G : Nat → Nat → Prop} (hW : WOk w0 Nil w tb rs) (hk : rs[k]? = some ⟨A, c, e, size, n, xs⟩) (h : RowL w (Imm G w0 w tb rs) size cells ok rel xs ds (ts.take n)) (hn : n = ts.length) (h1 : ∀ d, ∀ u ∈ cells d, u.oneCell' = true) (hsm : ts.length ≤ 1099511627776) (hr : rs.take k = rs' := by rfl) :
  LstR w (Imm G w0 w tb rs') size cells ok rel A c (fun i => ds.getD i dv0) ts := by
 subst hr
 rw [hn, List.take_length] at h
 have hI : ∀ b o, Imm G w0 w tb rs b o → b < w.heap.size → Imm G w0 w tb (rs.take k) b o := fun b o hi hb => by
  refine ⟨hi.1, hi.2.1, fun ha => hi.2.2 ?_⟩
  rcases ha with ha | ⟨i, r, h2, h3⟩
  ·exact .inl ha
  ·rw [List.getElem?_take] at h2
   split at h2
   ·exact .inr ⟨i, r, h2, h3⟩
   ·cases h2
 have h' := h.move (Step.refl w Nil) nilM hI
 obtain ⟨g1, g2, g3⟩ := h'.row.slots (hW.own k _ hk) hn h1 hsm (F := Imm G w0 w tb (rs.take k)) (fun g hg o => by
  have hb := own_live (hW.own k _ hk) (r := ⟨A, c, e, size, n, xs⟩) hg
  refine ⟨?_, hb, fun ha => ?_⟩
  ·rcases hW.ownM k _ hk g hg with h2 | h2
   ·exact .inr h2
   ·exact (h2 0).elim
  ·rcases ha with ⟨i, ob, h2, _, h3, _⟩ | ⟨i, r, h2, h3⟩
   ·exact hW.rtb k _ hk g hg i ob h2 h3
   ·rw [List.getElem?_take] at h2
    split at h2
    ·rename_i hlt
     exact hW.rr k i _ r (by omega) hk h2 g hg h3
    ·cases h2)
 rw [hn] at g1 g2 g3
 exact ⟨h'.mv, g1, g2, g3⟩
end
theorem lst_of {t : Tree} (h : t.null = false) : lst t = t.L := by unfold lst; rw [h]; rfl
theorem lst_no {t : Tree} (h : t.null = true) : lst t = [] := by unfold lst; rw [h]; rfl
theorem wp_join {P : Program} {c : Code} {Mid N : Act → World → Prop} {Q : Exit → Act → World → Prop} {a : Act} {w : World} (h1 : c.wp P (Exit.then Mid Q) a w) (h2 : ∀ a' w', Mid a' w' → N a' w') : c.wp P (Exit.then N Q) a w :=
 wp_mono h1 fun e a' w' h => by
  cases e <;> first | exact h2 a' w' h | exact h
def dvN (n : Int) : DV := .mk n false ByteArray.empty [] none 0 0 none [] (fun _ => .leaf)
def dvB (b : Bool) : DV := .mk 0 b ByteArray.empty [] none 0 0 none [] (fun _ => .leaf)
def dvS (s : ByteArray) : DV := .mk 0 false s [] none 0 0 none [] (fun _ => .leaf)
def dvT (A : Option Addr) (s : ByteArray) : DV := .mk 0 false s [] A 0 0 none [] (fun _ => .leaf)
def dvL (A : Option Addr) (l c : Nat) (f : Nat → DV) : DV := .mk 0 false ByteArray.empty [] A l c none [] f
def dvP (m : Option Nat) (u : List (Int × Bs)) (fs : List DV) : DV := .mk 0 false ByteArray.empty [] none 0 0 m u (fun i => fs.getD i .leaf)
theorem TL.tab {w wL w1 : World} {F : Nat → Nat → Prop} {p off : Nat} {cs0 : List Value} {m : Option Nat} {u : List (Int × Bs)} {tb : Tb} {rs : List Rw} (h : TL w wL w1 F p off cs0 m u) (hW : WOk w Nil wL tb rs) (i : Nat) (tb' : Tb) (hi : tb[i]? = some ⟨p, 0, cs0, true⟩) (ht : tb.set i ⟨p, 0, cs0.set off (.map m), true⟩ = tb' := by rfl) (ho : Nat.blt off cs0.length = true := by kernel_rfl) :
  WOk w Nil w1 tb' rs ∧ Fr wL tb rs w1 tb' rs := by
 subst ht
 have ho' : off < cs0.length := by simpa [Nat.blt_eq] using ho
 have hil : i < tb.length := (List.getElem?_eq_some_iff.1 hi).1
 have key : ∀ (j : Nat) (o : Ob), (tb.set i ⟨p, 0, cs0.set off (.map m), true⟩)[j]? = some o → (j = i ∧ o = ⟨p, 0, cs0.set off (.map m), true⟩) ∨ (j ≠ i ∧ tb[j]? = some o) := fun j o hj => by
  rcases set_get hj with ⟨h1, h2, _⟩ | ⟨h1, h2⟩
  ·exact .inl ⟨h1, h2⟩
  ·exact .inr ⟨h1, h2⟩
 have far : ∀ (j : Nat) (o : Ob), j ≠ i → tb[j]? = some o → ∀ q, q < o.cells.length → ¬ (o.blk = p ∧ o.off + q = off) := fun j o hne hj q hq e => by
  rcases hW.apart j i o _ hne hj hi (.inr rfl) with h1 | h1 | h1
  ·exact h1 e.1
  ·simp only [Nat.le_zero] at h1; omega
  ·simp only [Nat.zero_add] at h1; omega
 have act : ∀ b o, Act_ (tb.set i ⟨p, 0, cs0.set off (.map m), true⟩) rs b o → Act_ tb rs b o := fun b o ha => by
  rcases ha with ⟨j, ob, hj, h1, h2, h3, h4⟩ | ha
  ·rcases key j ob hj with ⟨rfl, rfl⟩ | ⟨_, hj⟩
   ·exact .inl ⟨j, _, hi, rfl, h2, h3, by simpa using h4⟩
   ·exact .inl ⟨j, ob, hj, h1, h2, h3, h4⟩
  ·exact .inr ha
 refine ⟨⟨h.step, ?_, ?_, ?_, ?_, ?_, hW.ownM, ?_, hW.rr⟩, ⟨fun b o _ hn ha => hn (act b o ha), h.keep.mono fun b o _ e => .inl ⟨i, _, hi, rfl, e.1.symm, Nat.zero_le _, by simpa [e.2] using ho'⟩⟩⟩
 ·intro j o hj q v hv
  rcases key j o hj with ⟨rfl, rfl⟩ | ⟨hne, hj⟩
  ·dsimp only
   rw [Nat.zero_add]
   exact h.str.at_ q v hv
  ·exact h.keep.cell (far j o hne hj q (List.getElem?_eq_some_iff.1 hv).1) (hW.cells j o hj q v hv)
 ·intro j o hj
  rcases key j o hj with ⟨rfl, rfl⟩ | ⟨_, hj⟩
  ·have h1 := hW.live j _ hi
   exact Nat.lt_of_lt_of_le h1 h.keep.size
  ·exact Nat.lt_of_lt_of_le (hW.live j o hj) h.keep.size
 ·intro j o hj hr q hq
  rcases key j o hj with ⟨rfl, rfl⟩ | ⟨hne, hj⟩
  ·dsimp only at hq ⊢
   refine ⟨(hW.rw_ j _ hi rfl q (by simpa using hq)).1, ?_⟩
   rw [Nat.zero_add]
   exact h.str.frz q hq
  ·obtain ⟨h1, h2⟩ := hW.rw_ j o hj hr q hq
   exact ⟨h1, h.keep.frozen (far j o hne hj q hq) (hW.cells j o hj q _ (List.getElem?_eq_getElem hq)) h2⟩
 ·intro j k o o' hjk hj hk hw
  rcases key j o hj with ⟨rfl, rfl⟩ | ⟨hne, hj'⟩
  ·rcases key k o' hk with ⟨rfl, rfl⟩ | ⟨hne', hk'⟩
   ·exact absurd rfl hjk
   ·have := hW.apart j k _ o' hjk hi hk' (.inl rfl)
    simpa using this
  ·rcases key k o' hk with ⟨rfl, rfl⟩ | ⟨hne', hk'⟩
   ·have := hW.apart j k o _ hjk hj' hi (.inr rfl)
    simpa using this
   ·exact hW.apart j k o o' hjk hj' hk' hw
 ·intro j r hj
  refine own_keep (hW.own j r hj) fun g hg => (h.keep.keeps g (own_live (hW.own j r hj) hg)).1 fun o e => ?_
  exact hW.rtb j r hj g hg i _ hi e.1.symm
 ·intro j r hj g hg k o hk
  rcases key k o hk with ⟨rfl, rfl⟩ | ⟨_, hk⟩
  ·have h1 := hW.rtb j r hj g hg k _ hi
   exact h1
  ·exact hW.rtb j r hj g hg k o hk
theorem TL.mapImm {w wL w1 : World} {F : Nat → Nat → Prop} {p off : Nat} {cs0 : List Value} {m : Option Nat} {u : List (Int × Bs)} {tb tb' : Tb} {rs : List Rw} (h : TL w wL w1 F p off cs0 m u) (hW : WOk w Nil wL tb rs) (hW' : WOk w Nil w1 tb' rs) (hf : Fr wL tb rs w1 tb' rs) (hs : Sorted u) (hr : ∀ x ∈ u, 0 ≤ x.1 ∧ x.1 < 4294967296) (hl : tb'.map (·.blk) = tb.map (·.blk) := by rfl) : MapR w1 (Imm F w w1 tb' rs) m u := by
 have blk : ∀ b o, Act_ tb' rs b o → w.heap.size ≤ b ∧ b < wL.heap.size := fun b o ha => by
  rcases ha with ⟨j, ob, hj, h1, rfl, h3, h4⟩ | ⟨j, r, hj, hb⟩
  ·have hm : (tb'.map (·.blk))[j]? = some ob.blk := by rw [List.getElem?_map, hj]; rfl
   rw [hl, List.getElem?_map] at hm
   obtain ⟨ob', hk, e⟩ := Option.map_eq_some_iff.1 hm
   refine ⟨?_, by rw [← e]; exact hW.live j ob' hk⟩
   rcases (hW'.rw_ j ob hj h1 (o - ob.off) (by omega)).1 with h5 | h5
   ·exact h5
   ·exact h5.elim
  ·refine ⟨?_, own_live (hW.own j r hj) hb⟩
   rcases hW.ownM j r hj b hb with h5 | h5
   ·exact h5
   ·exact (h5 0).elim
 have hb := h.big
 refine h.own.map (fun b o h1 => ⟨.inl h1.1, Nat.lt_of_lt_of_le h1.2 h.step.size, fun ha => ?_⟩) (fun r o e => ?_) hs hr
 ·have := blk b o ha; have := h1.2; omega
 ·have h1 := h.new r e
  obtain ⟨es, clk, h2, _⟩ := h.own.some_ r e
  refine ⟨.inr (Nat.le_trans hb h1), (Array.getElem?_eq_some_iff.1 h2).1, fun ha => ?_⟩
  have := blk r o ha; omega
theorem own_some {w0 w : World} {M : Nat → Nat → Prop} {tb : Tb} {rs : List Rw} {k e size n c : Nat} {A : Option Addr} {xs : List Value} (hW : WOk w0 M w tb rs) (hk : rs[k]? = some ⟨A, c, e, size, n, xs⟩) (hn : 0 < n) : A.isNone = false := by
 cases A with
 | some _ => rfl
 | none =>
  rcases (hW.own k _ hk).2 with ⟨_, h⟩ | ⟨_, _, _, hv, _⟩
  ·have h' : n = 0 := h
   omega
  ·cases hv
theorem EnvOk.retable {n : Nat} {env : Env} {a : Act} (tb : Tb) (h : EnvOk n [] env a) : EnvOk n tb env a := h.table fun i hi => absurd hi (Nat.not_lt_zero i)
end Go.Proofs.YtbjopfcbpobnpaaGreat.ME
namespace Go.Proofs.YtbjopfcbpobnpaaGreat.ME
open Go
open Go.RowKit
set_option linter.unusedVariables false
set_option linter.unusedSimpArgs false
set_option maxRecDepth 20000
theorem kTextOf (ct : List Value) (t : Tree) (w : World) (F : Nat → Nat → Prop) (ht : TreeR w F ct t) : Calls Tryz.prog 97 #[.agg ct.toArray] w (fun e w' => ∃ A, e = .returned (.pointer A) ∧ (∀ ad, A = some ad → ∃ b o, ad = ⟨b, o, none⟩ ∧ AtF w' (Fp F w) b o [.string (bs (octOf t))]) ∧ A.isNone = t.null ∧ Step w w' Nil) := by
 obtain ⟨n, s, b, l, u, A1, c1, A2, c2, A3, c3, xs, rfl, rfl, h1, h2, h3, h4⟩ := ht.open_
 have hsm := h1.small
 refine enter (n := 9) (vs := [.agg #[.int .i64 n, .slice A1 s.length c1, .bool b, .slice A2 l.length c2, .slice A3 u.length c3]]) Tryz.func97 rfl Tryz.ntmps97 kz fun a hE => ?_
 have hW := WOk.start w Nil
 refine go_seq_region [0, 1] kz ?_
 refine of_op (wpOp_box hW hE (d := 1) (cs := [.int .i64 n, .slice A1 s.length c1, .bool b, .slice A2 l.length c2, .slice A3 u.length c3]) kz fun b1 a1 w1 hb hb0 hF1 hW1 hE1 => ?_)
 refine go_runs [1] [] [1] hW1 hE1 (env' := [(1, .p 0 0)]) kz rfl fun a2 hE2 => wpOps_nil (then_normal ?_)
 refine wp_seq (wp_seq ?_)
 refine go_region [0, 1] kz (go_runs [0, 1] [] [1, 5] hW1 hE2 (env' := [(1, .p 0 0), (5, .v (.bool b))]) kz rfl fun a3 hE3 => wpOps_nil (then_normal ?_))
 refine cond_of hE3 (b := b) kz (fun hb => ?_) (fun hb => ?_)
 ·subst hb
  refine go_seq_region [0] kz (go_runs [0] [] [2] hW1 hE3 (env' := [(2, .v (.pointer none))]) kz rfl fun a4 hE4 => wpOps_nil (then_normal (wp_ret (then_ret ?_))))
  exact leave hE4 hW1.cells (v := .pointer none) kz ⟨none, rfl, (fun ad h => by cases h), rfl, hW1.step⟩
 ·subst hb
  refine wp_skip (then_normal ?_)
  refine go_seq_region [0, 1, 2, 3, 4] kz ?_
  refine go_runs [0, 1] [2, 3, 4] [7] hW1 hE3 (env' := [(7, .v (.slice A1 s.length c1))]) kz rfl fun a4 hE4 => ?_
  refine of_op (wpOp_conv hE4 (src := 22) (dst := 9) (e := 5) (d := 8) kz kz kz kz (h1.move hW1.step nilM keepF) fun a5 hE5 => ?_)
  refine of_op (wpOp_alloc hW1 hE5 (d := 3) (cs := [.string ByteArray.empty]) kz fun b2 a6 w2 hb2 aa hF2 hW2 hE6 => ?_)
  refine of_op (wpOp_store hW2 hE6 (oi := 1) (cs := [.string (bs s)]) kz fun w3 hF3 hW3 hE7 => wpOps_nil (then_normal ?_))
  refine go_seq_region [0] kz (go_runs [0] [] [2] hW3 hE7 (env' := [(2, .p 1 0)]) kz rfl fun a7 hE8 => wpOps_nil (then_normal (wp_ret ?_)))
  refine leave hE8 hW3.cells (v := .pointer (some ⟨b2, 0, none⟩)) kz ⟨some ⟨b2, 0, none⟩, rfl, fun ad h => ?_, rfl, hW3.step⟩
  obtain rfl := Option.some.inj h
  exact ⟨b2, 0, rfl, fun j v hj => ⟨.inr aa, hW3.cells 1 _ rfl j v hj⟩⟩
end Go.Proofs.YtbjopfcbpobnpaaGreat.ME
namespace Go.Proofs.YtbjopfcbpobnpaaGreat.ME
open Go
set_option linter.unusedVariables false
set_option linter.unusedSimpArgs false
set_option maxRecDepth 20000
theorem lFits3 (k : Int) (A : Option Addr) (m c : Nat) (w : World) : Calls Tryz.prog 69 #[.agg #[.int .u32 k, .slice A m c]] w (GivesB w) := by
 refine enter (n := 7) Tryz.func69 rfl Tryz.ntmps69 kz fun a hE => ?_
 have hW := WOk.start w Nil
 refine go_seq_region [0, 1] kz ?_
 refine of_op (wpOp_box hW hE (d := 1) (cs := [.int .u32 k, .slice A m c]) kz fun b1 a2 w3 hb4 hz5 hF6 hW7 hE8 => ?_)
 clear hE hW
 refine go_rn [1] [] [(1, .p 0 0)] hW7 hE8 fun a9 ac => ?_
 clear hE8
 refine wpOps_nil (then_normal ?_)
 refine wp_seq ?_
 refine go_sp [(6, .v (.bool (decide (((m : Nat) : Int) > 2147483647))))] hW7 ac fun ai aa => ?_
 clear ac
 refine cond_of aa (b := decide (((m : Nat) : Int) > 2147483647)) kz (fun ab => ?_) (fun ab => ?_)
 ·
  have ag := of_decide_eq_true ab
  refine go_sp [(2, .v (.bool false))] hW7 aa fun aj ae => ?_
  clear aa
  refine wp_ret ?_
  refine then_ret ?_
  refine leave ae hW7.cells (v := .bool false) kz ?_
  exact ⟨_, rfl, hW7.step⟩
 ·
  have ah := of_decide_eq_false ab
  refine wp_skip ?_
  refine then_normal ?_
  refine go_sp [(2, .v (.bool true))] hW7 aa fun ak af => ?_
  clear aa
  refine wp_ret ?_
  refine leave af hW7.cells (v := .bool true) kz ?_
  exact ⟨_, rfl, hW7.step⟩
theorem lFits2 (A : Option Addr) (c : Nat) (u : List (Int × Bs)) (w : World) (F : Nat → Nat → Prop) (hu : TagsR w F A c u) : Calls Tryz.prog 29 #[.slice A u.length c] w (GivesB w) := by
 obtain ⟨xu, h1, h2⟩ := hu.ex
 have hsm := h1.small
 refine enter (n := 18) Tryz.func29 rfl Tryz.ntmps29 kz fun a hE => ?_
 have hW := WOk.start w Nil
 refine go_sp [(0, .v (.slice A u.length c))] hW hE fun a1 hE2 => ?_
 clear hE
 refine wp_seq ?_
 refine go_sp [(0, .v (.slice A u.length c)), (7, .v (.bool (decide (((u.length : Nat) : Int) > 2147483647))))] hW hE2 fun a3 hE4 => ?_
 clear hE2
 refine cond_of hE4 (b := decide (((u.length : Nat) : Int) > 2147483647)) kz (fun hc5 => ?_) (fun hc5 => ?_)
 ·
  have hf6 := of_decide_eq_true hc5
  refine go_sp [(2, .v (.bool false))] hW hE4 fun a7 hE8 => ?_
  clear hE4
  refine wp_ret ?_
  refine then_ret ?_
  refine leave hE8 hW.cells (v := .bool false) kz ?_
  exact ⟨_, rfl, hW.step⟩
 ·
  have hf9 := of_decide_eq_false hc5
  refine wp_skip ?_
  refine then_normal ?_
  refine wp_seq ?_
  refine go_sp [(8, .v (.slice A u.length c)), (9, .v (.int .i64 ((u.length : Nat) : Int))), (10, .v (.int .i64 0))] hW hE4 fun bd ak => ?_
  clear hE4
  refine wp_block ?_
  refine wp_loop_ghost (fun n_ a_ w_ => ∃ (k : Nat), n_ = u.length - k ∧ k ≤ u.length ∧ LInv hW 18 [] [] [(8, .v (.slice A u.length c)), (9, .v (.int .i64 ((u.length : Nat) : Int))), (10, .v (.int .i64 ((k : Nat) : Int)))] a_ w_) (u.length) ⟨0, by omega, by omega, ak.pk, hW, Fr.refl _ _ _⟩ ?_
  clear ak
  rintro bf bg bh ⟨k, aR, aS, al, aa, aD⟩
  refine go_sp [(8, .v (.slice A u.length c)), (9, .v (.int .i64 ((u.length : Nat) : Int))), (10, .v (.int .i64 ((k : Nat) : Int))), (11, .v (.bool (decide (((k : Nat) : Int) < ((u.length : Nat) : Int)))))] aa al fun bi ac => ?_
  clear al
  refine wp_seq ?_
  refine cond_of ac (b := decide (((k : Nat) : Int) < ((u.length : Nat) : Int))) kz (fun ah => ?_) (fun ah => ?_)
  ·
   have aT := of_decide_eq_true ah
   refine wp_skip ?_
   refine then_normal ?_
   refine wp_seq ?_
   refine wp_block ?_
   refine go_seq_region [0, 1, 2, 3] kz ?_
   obtain ⟨aU, aV, aE, aW, ag⟩ := Slots.get h1 (i := k) (by omega)
   obtain ⟨⟨ai, aj⟩, aF⟩ : ∃ x, u[k]? = some x := ⟨_, List.getElem?_eq_getElem (by omega)⟩
   obtain ⟨⟨am, ao, ap, aX⟩, bj, bk⟩ := h2 k ai aj aF
   rw [ap] at ag
   refine of_op (wpOp_index ac (t := 24) (A := A) (m := u.length) (q := ((k : Nat) : Int)) (d := 12) kz (e := 63) (size := 2) (bytes := 32) kz aE rfl (by omega) fun bn ar => ?_)
   clear ac
   refine of_op (wpOp_load ar (t := 63) (b := aU) (o := aV + k * 2) (d := 13) kz (cs := [.int .u32 ai, .slice am aj.length ao]) (v := .agg #[.int .u32 ai, .slice am aj.length ao]) kz (AtF.move ag aa.step nilM keepF).at_ fun bp au => ?_)
   clear ar
   refine of_op (wpOp_alloc aa au (d := 4) (cs := [.int .u32 0, .slice none 0 0]) kz fun bq br bt aY aZ aG av aw => ?_)
   clear au aa
   refine of_op (wpOp_store av aw (oi := 0) (cs := [.int .u32 ai, .slice am aj.length ao]) kz fun bu aH af ax => ?_)
   clear aw av
   refine wpOps_nil (then_normal ?_)
   refine go_seq_region [0, 1, 2] kz ?_
   refine go_rn [0] [1, 2] [(8, .v (.slice A u.length c)), (9, .v (.int .i64 ((u.length : Nat) : Int))), (10, .v (.int .i64 ((k : Nat) : Int))), (14, .v (.agg #[.int .u32 ai, .slice am aj.length ao]))] af ax fun bv ay => ?_
   clear ax
   refine of_op (wpOp_call ay (f := 69) (vs := [.agg #[.int .u32 ai, .slice am aj.length ao]]) (d := 15) kz Tryz.call69 (lFits3 _ _ _ _ _) ?_)
   rintro e_ bw ⟨aQ, rfl, aA⟩
   refine ⟨_, rfl, fun bz aB => ?_⟩
   have ab := af.next_nil aA
   have aI := af.frN aA
   clear ay af
   refine go_rn [2] [] [(8, .v (.slice A u.length c)), (9, .v (.int .i64 ((u.length : Nat) : Int))), (10, .v (.int .i64 ((k : Nat) : Int))), (16, .v (.bool (!aQ)))] ab aB fun bA ae => ?_
   clear aB
   refine wpOps_nil (then_normal ?_)
   refine cond_of ae (b := !aQ) kz (fun aJ => ?_) (fun aJ => ?_)
   ·
    refine go_sp [(2, .v (.bool false))] ab ae fun bB aK => ?_
    clear ae
    refine wp_ret ?_
    refine block_ret ?_
    refine then_ret ?_
    refine then_ret ?_
    refine block_ret ?_
    refine then_ret ?_
    refine leave aK ab.cells (v := .bool false) kz ?_
    exact ⟨_, rfl, ab.step⟩
   ·
    refine wp_skip ?_
    refine block_normal ?_
    refine then_normal ?_
    refine go_region [0, 1] kz ?_
    refine go_rn [0, 1] [] [(8, .v (.slice A u.length c)), (9, .v (.int .i64 ((u.length : Nat) : Int))), (10, .v (.int .i64 (IntKind.i64.wrap (((k : Nat) : Int) + 1))))] ab ae fun bC aL => ?_
    clear ae
    refine wpOps_nil (then_normal ?_)
    obtain ⟨aC, aM, aN⟩ := ab.cutB aL 0 [] [(8, .v (.slice A u.length c)), (9, .v (.int .i64 ((u.length : Nat) : Int))), (10, .v (.int .i64 (IntKind.i64.wrap (((k : Nat) : Int) + 1))))]
    have aO : IntKind.i64.wrap (((k : Nat) : Int) + 1) = ((k + 1 : Nat) : Int) := wrap_succ (by omega)
    rw [aO] at aC
    exact ⟨u.length - (k + 1), by omega, k + 1, rfl, by omega, aC.pk, aM, ((((aD.trans aG).trans aH).trans aI).trans aN)⟩
  ·
   have ba := of_decide_eq_false ah
   refine wp_exit ?_
   refine then_exit ?_
   refine then_exit ?_
   refine block_exit ?_
   refine then_normal ?_
   refine go_sp [(2, .v (.bool true))] aa ac fun bD aP => ?_
   clear ac
   refine wp_ret ?_
   refine leave aP aa.cells (v := .bool true) kz ?_
   exact ⟨_, rfl, aa.step⟩
theorem lFits1 (ct : List Value) (t : Tree) (w : World) (F : Nat → Nat → Prop) (ht : TreeR w F ct t) : Calls Tryz.prog 8 #[.agg ct.toArray] w (GivesB w) := by
 obtain ⟨n1, s2, b3, l4, u5, A6, c7, A8, c9, ao, ap, aC, rfl, rfl, aD, aE, aO, aF⟩ := ht.open_
 have ay := aD.small
 have aA := aE.small
 refine enter (n := 15) Tryz.func8 rfl Tryz.ntmps8 kz fun a hE => ?_
 have hW := WOk.start w Nil
 refine go_seq_region [0, 1] kz ?_
 refine of_op (wpOp_box hW hE (d := 1) (cs := [.int .i64 n1, .slice A6 s2.length c7, .bool b3, .slice A8 l4.length c9, .slice ao u5.length ap]) kz fun aP aQ aR aG aH aI aa ai => ?_)
 clear hE hW
 refine go_rn [1] [] [(1, .p 0 0)] aa ai fun aS aj => ?_
 clear ai
 refine wpOps_nil (then_normal ?_)
 refine wp_seq ?_
 refine go_sp [(1, .p 0 0), (6, .v (.bool (decide (((s2.length : Nat) : Int) > 2147483647))))] aa aj fun aT ac => ?_
 clear aj
 refine cond_of ac (b := decide (((s2.length : Nat) : Int) > 2147483647)) kz (fun ag => ?_) (fun ag => ?_)
 ·
  have aJ := of_decide_eq_true ag
  refine go_sp [(2, .v (.bool false))] aa ac fun aU ar => ?_
  clear ac
  refine wp_ret ?_
  refine then_ret ?_
  refine leave ar aa.cells (v := .bool false) kz ?_
  exact ⟨_, rfl, aa.step⟩
 ·
  have aK := of_decide_eq_false ag
  refine wp_skip ?_
  refine then_normal ?_
  refine wp_seq ?_
  refine go_sp [(1, .p 0 0), (10, .v (.bool (decide (((l4.length : Nat) : Int) > 2147483647))))] aa ac fun aV ae => ?_
  clear ac
  refine cond_of ae (b := decide (((l4.length : Nat) : Int) > 2147483647)) kz (fun ah => ?_) (fun ah => ?_)
  ·
   have aL := of_decide_eq_true ah
   refine go_sp [(2, .v (.bool false))] aa ae fun aW au => ?_
   clear ae
   refine wp_ret ?_
   refine then_ret ?_
   refine leave au aa.cells (v := .bool false) kz ?_
   exact ⟨_, rfl, aa.step⟩
  ·
   have aM := of_decide_eq_false ah
   refine wp_skip ?_
   refine then_normal ?_
   refine wp_seq ?_
   refine go_seq_region [0, 1, 2, 3] kz ?_
   refine go_rn [0, 1] [2, 3] [(12, .v (.slice ao u5.length ap))] aa ae fun aX ak => ?_
   clear ae
   refine of_op (wpOp_call ak (f := 29) (vs := [.slice ao u5.length ap]) (d := 13) kz Tryz.call29 (lFits2 _ _ u5 _ _ (aF.move aa.step nilM aa.imm)) ?_)
   rintro e_ aY ⟨aB, rfl, al⟩
   refine ⟨_, rfl, fun aZ am => ?_⟩
   have ab := aa.next_nil al
   have aN := aa.frN al
   clear ak aa
   refine go_rn [3] [] [(14, .v (.bool (!aB)))] ab am fun ba af => ?_
   clear am
   refine wpOps_nil (then_normal ?_)
   refine cond_of af (b := !aB) kz (fun av => ?_) (fun av => ?_)
   ·
    refine go_sp [(2, .v (.bool false))] ab af fun bd aw => ?_
    clear af
    refine wp_ret ?_
    refine then_ret ?_
    refine leave aw ab.cells (v := .bool false) kz ?_
    exact ⟨_, rfl, ab.step⟩
   ·
    refine wp_skip ?_
    refine then_normal ?_
    refine go_sp [(2, .v (.bool true))] ab af fun bf ax => ?_
    clear af
    refine wp_ret ?_
    refine leave ax ab.cells (v := .bool true) kz ?_
    exact ⟨_, rfl, ab.step⟩
theorem lVersion (x m : Int) (hx : 0 ≤ x) (hx' : x < 256) (hm : 0 ≤ m) (hm' : m < 32768) (w : World) : Calls Tryz.prog 11 #[.int .u8 x, .int .i64 m] w (Gives w (.int .i64 (Int.tmod x (m + 1)))) := by
 refine enter (n := 10) Tryz.func11 rfl Tryz.ntmps11 kz fun a hE => ?_
 have hW := WOk.start w Nil
 refine go_sp [(0, .v (.int .u8 x)), (1, .v (.int .i64 m))] hW hE fun a1 hE2 => ?_
 clear hE
 refine go_seq_region [0, 1, 2, 3, 4, 5] kz ?_
 refine go_rn [0, 1, 2, 3] [4, 5] [(6, .v (.int .i64 (IntKind.i64.wrap x))), (8, .v (.int .i64 (IntKind.i64.wrap (m + 1))))] hW hE2 fun a3 hE4 => ?_
 clear hE2
 refine of_op (wpOp_rem hE4 (k := .i64) (p := (IntKind.i64.wrap x)) (q := (IntKind.i64.wrap (m + 1))) (d := 9) kz (by simp only [IntKind.wrap_i64]; omega) fun a5 hE6 => ?_)
 clear hE4
 refine go_rn [5] [] [(4, .v (.int .i64 (Int.tmod (IntKind.i64.wrap x) (IntKind.i64.wrap (m + 1)))))] hW hE6 fun a7 hE8 => ?_
 clear hE6
 refine wpOps_nil (then_normal ?_)
 refine wp_ret ?_
 refine leave hE8 hW.cells (v := .int .i64 (Int.tmod (IntKind.i64.wrap x) (IntKind.i64.wrap (m + 1)))) kz ?_
 exact ⟨by rw [wrap_i64 (by omega) (by omega), wrap_i64 (by omega) (by omega)], hW.step⟩
end Go.Proofs.YtbjopfcbpobnpaaGreat.ME