/- The texts of a claim, put together: the engine, the contracts, the law. Own work. -/
import Derived.Test.YtbjopfcbpobnpaaGreatWShM2
namespace Go.Proofs.YtbjopfcbpobnpaaGreat.ME
open Go
set_option linter.unusedVariables false
set_option linter.unusedSimpArgs false
set_option maxRecDepth 20000
theorem sUnknown (Af : Option Addr) (cf : Nat) (l : List Fld) (A : Option Addr) (c : Nat) (u : List (Int × Bs)) (w : World) (F : Nat → Nat → Prop) (hl : FldsR w F Af cf l) (hu : TagsR w F A c u) :
  Calls Tryz.prog 38 #[.slice Af l.length cf, .slice A u.length c] w (GivesU w F (unknownT l u)) := by
 obtain ⟨xf, hf1, hf2⟩ := hl.ex
 obtain ⟨xu, hu1, hu2⟩ := hu.ex
 have hsmu := hu1.small
 have hule : (u.take 32767).length ≤ 32767 := by rw [List.length_take]; omega
 refine enter (n := 85) Tryz.func38 rfl Tryz.ntmps38 kz fun a hE => ?_
 have hW := WOk.start w Nil
 refine go_sp [(0, .v (.slice Af l.length cf)), (1, .v (.slice A u.length c))] hW hE fun a1 hE2 => ?_
 clear hE
 refine go_seq_region [0, 1, 2] kz ?_
 refine go_rn [0] [1, 2] [(1, .v (.slice A u.length c)), (11, .v (.slice Af l.length cf))] hW hE2 fun a3 hE4 => ?_
 clear hE2
 refine of_op (wpOp_call hE4 (f := 89) (vs := [.slice Af l.length cf]) (d := 12) kz Tryz.call89 (sKnown _ _ l _ _ ⟨xf, (hf1.move hW.step nilM hW.imm), (fun i_ x_ h_ => ((hf2 i_ x_ h_).move hW.step nilM hW.imm))⟩) ?_)
 rintro e_ w6 ⟨rfl, hs5⟩
 refine ⟨_, rfl, fun a7 hE8 => ?_⟩
 have hW9 := hW.next_nil hs5
 have fk := hW.frN hs5
 clear hE4 hW
 refine go_rn [2] [] [(1, .v (.slice A u.length c)), (5, .v (.int .u32 (knownI l)))] hW9 hE8 fun gP dw => ?_
 clear hE8
 refine wpOps_nil (then_normal ?_)
 refine go_sp [(1, .v (.slice A u.length c)), (5, .v (.int .u32 (knownI l))), (6, .v (.slice none 0 0))] hW9 dw fun gQ dx => ?_
 clear dw
 refine wp_seq ?_
 refine go_seq_region [0, 1, 2, 3, 4, 5, 6] kz ?_
 refine go_rn [0, 1, 2, 3] [4, 5, 6] [(5, .v (.int .u32 (knownI l))), (6, .v (.slice none 0 0)), (13, .v (.slice A u.length c)), (16, .v (.int .i64 (if 32767 < ((u.length : Nat) : Int) then 32767 else ((u.length : Nat) : Int))))] hW9 dx fun gR dy => ?_
 clear dx
 refine of_op (wpOp_cut_hi dy (t := 24) (A := A) (m := u.length) (cp := c) (q := (if 32767 < ((u.length : Nat) : Int) then 32767 else ((u.length : Nat) : Int))) (d := 17) (j := (u.take 32767).length) kz (e := 63) (size := 2) (bytes := 32) kz (by simpa using min_lit u.length) (by rw [List.length_take]; have := hu1.le; omega) fun gS dz => ?_)
 clear dy
 refine go_rn [5, 6] [] [(5, .v (.int .u32 (knownI l))), (6, .v (.slice none 0 0)), (17, .v (.slice A ((u.take 32767).length) c)), (18, .v (.int .i64 (((u.take 32767).length : Nat) : Int))), (19, .v (.int .i64 0))] hW9 dz fun gT dA => ?_
 clear dz
 refine wpOps_nil (then_normal ?_)
 refine wp_block ?_
 have dB := hW9.addNil 63 2
 have fl := hW9.frNil 63 2
 clear hW9
 refine wp_loop_ghost (fun n_ a_ w_ => ∃ (k : Nat) (A_ : Option Addr) (c_ : Nat) (out : List (Int × Bs)) (css : List (List Value)), n_ = (u.take 32767).length - k ∧ k ≤ (u.take 32767).length ∧ (TagsE w_ (Imm F w w_ [] [⟨A_, c_, 63, 2, out.length, css.flatten⟩]) out css) ∧ (out = ((u.take 32767).take k).foldl (insTag (knownI l)) []) ∧ (out.length ≤ k) ∧ LInv dB 85 [] [⟨A_, c_, 63, 2, out.length, css.flatten⟩] [(5, .v (.int .u32 (knownI l))), (6, .v (.slice A_ out.length c_)), (17, .v (.slice A ((u.take 32767).length) c)), (18, .v (.int .i64 (((u.take 32767).length : Nat) : Int))), (19, .v (.int .i64 ((k : Nat) : Int)))] a_ w_) ((u.take 32767).length) ⟨0, none, 0, [], [], by omega, by omega, TagsE.nil _ _, rfl, Nat.zero_le _, dA.pk, dB, Fr.refl _ _ _⟩ ?_
 clear dA
 rintro gU gV gW ⟨k, A_, c_, out, css, fm, fo, hT, hout, hlen, dC, aS, ba⟩
 refine go_sp [(5, .v (.int .u32 (knownI l))), (6, .v (.slice A_ out.length c_)), (17, .v (.slice A ((u.take 32767).length) c)), (18, .v (.int .i64 (((u.take 32767).length : Nat) : Int))), (19, .v (.int .i64 ((k : Nat) : Int))), (20, .v (.bool (decide (((k : Nat) : Int) < (((u.take 32767).length : Nat) : Int)))))] aS dC fun gX bd => ?_
 clear dC
 refine wp_seq ?_
 refine cond_of bd (b := decide (((k : Nat) : Int) < (((u.take 32767).length : Nat) : Int))) kz (fun dp => ?_) (fun dp => ?_)
 ·
  have fp := of_decide_eq_true dp
  refine wp_skip ?_
  refine then_normal ?_
  refine wp_seq ?_
  refine wp_block ?_
  refine go_seq_region [0, 1, 2, 3] kz ?_
  obtain ⟨fq, fr, eO, ft, bU⟩ := Slots.get (tags_take_slots hu1 32767) (i := k) (by omega)
  obtain ⟨⟨al, ax⟩, aY⟩ : ∃ x, (u.take 32767)[k]? = some x := ⟨_, List.getElem?_eq_getElem (by omega)⟩
  obtain ⟨⟨aJ, aK, dD, dE⟩, eS, eT⟩ := (tags_take_each hu2 32767) k al ax aY
  rw [dD] at bU
  refine of_op (wpOp_index bd (t := 24) (A := A) (m := ((u.take 32767).length)) (q := ((k : Nat) : Int)) (d := 21) kz (e := 63) (size := 2) (bytes := 32) kz eO rfl (by omega) fun gY dF => ?_)
  clear bd
  refine of_op (wpOp_load dF (t := 63) (b := fq) (o := fr + k * 2) (d := 22) kz (cs := [.int .u32 al, .slice aJ ax.length aK]) (v := .agg #[.int .u32 al, .slice aJ ax.length aK]) kz (AtF.move bU aS.step nilM keepF).at_ fun gZ dG => ?_)
  clear dF
  refine of_op (wpOp_alloc aS dG (d := 8) (cs := [.int .u32 0, .slice none 0 0]) kz fun eP g6 g7 fu fv ac dH dI => ?_)
  clear dG aS
  refine of_op (wpOp_store dH dI (oi := 0) (cs := [.int .u32 al, .slice aJ ax.length aK]) kz fun g8 ae dq dJ => ?_)
  clear dI dH
  refine wpOps_nil (then_normal ?_)
  refine go_sp [(5, .v (.int .u32 (knownI l))), (6, .v (.slice A_ out.length c_)), (8, .p 0 0), (9, .v (.int .i64 0)), (17, .v (.slice A ((u.take 32767).length) c)), (18, .v (.int .i64 (((u.take 32767).length : Nat) : Int))), (19, .v (.int .i64 ((k : Nat) : Int)))] dq dJ fun g9 dK => ?_
  clear dJ
  refine wp_seq ?_
  refine wp_block ?_
  refine wp_loop_ghost (fun n_ a_ w_ => ∃ (i : Nat), n_ = out.length - i ∧ (i ≤ out.length) ∧ (∀ q, q < i → (out.getD q (0, [])).1 < al) ∧ LInv dq 85 [⟨eP, 0, [.int .u32 al, .slice aJ ax.length aK], true⟩] [⟨A_, c_, 63, 2, out.length, css.flatten⟩] [(5, .v (.int .u32 (knownI l))), (6, .v (.slice A_ out.length c_)), (8, .p 0 0), (9, .v (.int .i64 ((i : Nat) : Int))), (17, .v (.slice A ((u.take 32767).length) c)), (18, .v (.int .i64 (((u.take 32767).length : Nat) : Int))), (19, .v (.int .i64 ((k : Nat) : Int)))] a_ w_) (out.length - 0) ⟨0, rfl, Nat.zero_le _, fun q h_ => absurd h_ (Nat.not_lt_zero q), dK.pk, dq, Fr.refl _ _ _⟩ ?_
  clear dK
  rintro hC hJ hK ⟨i, fw, hi, hlt, dL, dM, aa⟩
  refine wp_seq ?_
  refine go_seq_drawQ kz dM fun hP ab aC => ?_
  clear dM
  refine go_rnD [0, 1, 2, 3, 4] [(5, .v (.int .u32 (knownI l))), (6, .v (.slice A_ out.length c_)), (8, .p 0 0), (9, .v (.int .i64 ((i : Nat) : Int))), (17, .v (.slice A ((u.take 32767).length) c)), (18, .v (.int .i64 (((u.take 32767).length : Nat) : Int))), (19, .v (.int .i64 ((k : Nat) : Int))), (27, .v (.bool (decide (((i : Nat) : Int) < ((out.length : Nat) : Int)))))] 9 (panicFree_then (panicFree_then (panicFree_then (panicFree_block (panicFree_then (panicFree_block (panicFree_then (panicFree_then (panicFree_block (panicFree_then panicFree_body)))))))))) (fun _ h => h ▸ aC.cells) rfl dL fun hX bK => ?_
  clear dL
  refine (Bool.eq_false_or_eq_true (decide (((i : Nat) : Int) < ((out.length : Nat) : Int)))).elim (fun aT => ?_) (fun aT => ?_)
  ·
   have fx := of_decide_eq_true aT
   have dN := bK.cast (env' := [(5, .v (.int .u32 (knownI l))), (6, .v (.slice A_ out.length c_)), (8, .p 0 0), (9, .v (.int .i64 ((i : Nat) : Int))), (17, .v (.slice A ((u.take 32767).length) c)), (18, .v (.int .i64 (((u.take 32767).length : Nat) : Int))), (19, .v (.int .i64 ((k : Nat) : Int))), (27, .v (.bool true))]) (by rw [aT])
   clear bK
   refine go_rnD [5, 6, 10, 11] [(5, .v (.int .u32 (knownI l))), (6, .v (.slice A_ out.length c_)), (8, .p 0 0), (9, .v (.int .i64 ((i : Nat) : Int))), (17, .v (.slice A ((u.take 32767).length) c)), (18, .v (.int .i64 (((u.take 32767).length : Nat) : Int))), (19, .v (.int .i64 ((k : Nat) : Int))), (27, .v (.bool true)), (28, .v (.slice A_ out.length c_)), (29, .v (.int .i64 ((i : Nat) : Int))), (34, .v (.int .u32 al))] 5 (panicFree_then (panicFree_then (panicFree_then (panicFree_block (panicFree_then (panicFree_block (panicFree_then (panicFree_then (panicFree_block (panicFree_then panicFree_body)))))))))) (fun _ h => h ▸ aC.cells) rfl dN fun hY dO => ?_
   clear dN
   obtain ⟨eQ, dP⟩ := own_addr (aC.own 0 _ rfl) (show 0 < out.length by omega)
   obtain ⟨⟨eN, hZ⟩, bL⟩ : ∃ x, out[i]? = some x := ⟨_, List.getElem?_eq_getElem (by omega)⟩
   obtain ⟨ia, ib, eR, fy, ic, ig⟩ := TagsE.get2 (hT.move (((ac.trans ae).trans aa).trans ab).step immM (((ac.trans ae).trans aa).trans ab).to') bL
   have dQ := own_at (aC.own 0 _ rfl) dP (flat_cells (hT.move (((ac.trans ae).trans aa).trans ab).step immM (((ac.trans ae).trans aa).trans ab).to').two eR)
   refine takeC_index dO (i := 7) (t := 24) (A := A_) (m := out.length) (q := ((i : Nat) : Int)) (d := 30) kz (e := 63) (size := 2) (bytes := 32) kz (b := eQ) (o := 0) (j := i) dP (rfl) (by omega) kz kz (panicFree_then (panicFree_then (panicFree_then (panicFree_block (panicFree_then (panicFree_block (panicFree_then (panicFree_then (panicFree_block (panicFree_then panicFree_body)))))))))) rfl fun ii dR => ?_
   clear dO
   refine go_rnD [8] [(5, .v (.int .u32 (knownI l))), (6, .v (.slice A_ out.length c_)), (8, .p 0 0), (9, .v (.int .i64 ((i : Nat) : Int))), (17, .v (.slice A ((u.take 32767).length) c)), (18, .v (.int .i64 (((u.take 32767).length : Nat) : Int))), (19, .v (.int .i64 ((k : Nat) : Int))), (27, .v (.bool true)), (31, .v (.pointer (some ⟨eQ, 0 + i * 2, none⟩))), (34, .v (.int .u32 al))] 3 (panicFree_then (panicFree_then (panicFree_then (panicFree_block (panicFree_then (panicFree_block (panicFree_then (panicFree_then (panicFree_block (panicFree_then panicFree_body)))))))))) (fun _ h => h ▸ aC.cells) rfl dR fun ij dS => ?_
   clear dR
   refine takeC_load dS (i := 9) (t := 61) (b := eQ) (o := 0 + i * 2) (d := 32) kz (cs := [.int .u32 eN]) (v := .int .u32 eN) kz (fun w' h' => h' ▸ (At.drop dQ 0 1)) kz kz (panicFree_then (panicFree_then (panicFree_then (panicFree_block (panicFree_then (panicFree_block (panicFree_then (panicFree_then (panicFree_block (panicFree_then panicFree_body)))))))))) rfl fun fz bV => ?_
   clear dS
   refine go_rnD [12, 13] [(5, .v (.int .u32 (knownI l))), (6, .v (.slice A_ out.length c_)), (8, .p 0 0), (9, .v (.int .i64 ((i : Nat) : Int))), (17, .v (.slice A ((u.take 32767).length) c)), (18, .v (.int .i64 (((u.take 32767).length : Nat) : Int))), (19, .v (.int .i64 ((k : Nat) : Int))), (36, .v (.bool (decide (eN < al))))] 0 (panicFree_then (panicFree_then (panicFree_then (panicFree_block (panicFree_then (panicFree_block (panicFree_then (panicFree_then (panicFree_block (panicFree_then panicFree_body)))))))))) (fun _ h => h ▸ aC.cells) rfl bV fun fA aL => ?_
   clear bV
   refine anyC_done kz ?_ _
   refine then_normal ?_
   refine cond_of aL (b := decide (eN < al)) kz (fun bf => ?_) (fun bf => ?_)
   ·
    have eU := of_decide_eq_true bf
    refine wp_skip ?_
    refine then_normal ?_
    refine wp_block ?_
    refine go_region [0, 1, 2] kz ?_
    refine go_rn [0, 1, 2] [] [(5, .v (.int .u32 (knownI l))), (6, .v (.slice A_ out.length c_)), (8, .p 0 0), (9, .v (.int .i64 (IntKind.i64.wrap (((i : Nat) : Int) + 1)))), (17, .v (.slice A ((u.take 32767).length) c)), (18, .v (.int .i64 (((u.take 32767).length : Nat) : Int))), (19, .v (.int .i64 ((k : Nat) : Int)))] aC aL fun fB bW => ?_
    clear aL
    refine wpOps_nil ?_
    refine block_normal ?_
    refine then_normal ?_
    have dT : IntKind.i64.wrap (((i : Nat) : Int) + 1) = ((i + 1 : Nat) : Int) := wrap_succ (by omega)
    rw [dT] at bW
    exact ⟨out.length - (i + 1), by omega, (i + 1), rfl, by omega, fun q hq => by rcases Nat.lt_succ_iff_lt_or_eq.1 hq with h_ | h_; exact hlt q h_; rw [h_, getD_of bL]; assumption, bW.pk, aC, (aa.trans ab)⟩
   ·
    have eV := of_decide_eq_false bf
    refine wp_exit ?_
    refine then_exit ?_
    refine then_exit ?_
    refine block_exit ?_
    refine then_normal ?_
    refine wp_seq ?_
    refine go_seq_drawQ kz aC fun fC af ap => ?_
    refine go_rnD [0, 1, 2, 3, 4] [(5, .v (.int .u32 (knownI l))), (6, .v (.slice A_ out.length c_)), (8, .p 0 0), (9, .v (.int .i64 ((i : Nat) : Int))), (17, .v (.slice A ((u.take 32767).length) c)), (18, .v (.int .i64 (((u.take 32767).length : Nat) : Int))), (19, .v (.int .i64 ((k : Nat) : Int))), (43, .v (.bool (decide (al < (knownI l)))))] 15 (panicFree_then (panicFree_then (panicFree_block (panicFree_then (panicFree_then (panicFree_block (panicFree_then panicFree_body))))))) (fun _ h => h ▸ ap.cells) rfl aL fun fD aU => ?_
    clear aL
    refine (Bool.eq_false_or_eq_true (decide (al < (knownI l)))).elim (fun aM => ?_) (fun aM => ?_)
    ·
     have eW := of_decide_eq_true aM
     have bX := aU.cast (env' := [(5, .v (.int .u32 (knownI l))), (6, .v (.slice A_ out.length c_)), (8, .p 0 0), (9, .v (.int .i64 ((i : Nat) : Int))), (17, .v (.slice A ((u.take 32767).length) c)), (18, .v (.int .i64 (((u.take 32767).length : Nat) : Int))), (19, .v (.int .i64 ((k : Nat) : Int))), (43, .v (.bool true))]) (by rw [aM])
     clear aU
     refine go_rnD [5, 6, 7, 8, 9, 10, 11, 12, 13, 14, 15, 16, 17, 18, 19] [(5, .v (.int .u32 (knownI l))), (6, .v (.slice A_ out.length c_)), (8, .p 0 0), (9, .v (.int .i64 ((i : Nat) : Int))), (17, .v (.slice A ((u.take 32767).length) c)), (18, .v (.int .i64 (((u.take 32767).length : Nat) : Int))), (19, .v (.int .i64 ((k : Nat) : Int))), (58, .v (.bool true))] 0 (panicFree_then (panicFree_then (panicFree_block (panicFree_then (panicFree_then (panicFree_block (panicFree_then panicFree_body))))))) (fun _ h => h ▸ ap.cells) rfl bX fun fE bg => ?_
     clear bX
     refine anyC_done kz ?_ _
     refine then_normal ?_
     refine cond_true bg (b := true) kz rfl ?_
     refine wp_exit ?_
     refine then_exit ?_
     refine block_exit ?_
     refine then_normal ?_
     refine go_region [0, 1] kz ?_
     refine go_rn [0, 1] [] [(5, .v (.int .u32 (knownI l))), (6, .v (.slice A_ out.length c_)), (17, .v (.slice A ((u.take 32767).length) c)), (18, .v (.int .i64 (((u.take 32767).length : Nat) : Int))), (19, .v (.int .i64 (IntKind.i64.wrap (((k : Nat) : Int) + 1))))] ap bg fun fF dU => ?_
     clear bg
     refine wpOps_nil (then_normal ?_)
     obtain ⟨bY, dV, bh⟩ := ap.cutB dU 0 [] [(5, .v (.int .u32 (knownI l))), (6, .v (.slice A_ out.length c_)), (17, .v (.slice A ((u.take 32767).length) c)), (18, .v (.int .i64 (((u.take 32767).length : Nat) : Int))), (19, .v (.int .i64 (IntKind.i64.wrap (((k : Nat) : Int) + 1))))]
     have dW : IntKind.i64.wrap (((k : Nat) : Int) + 1) = ((k + 1 : Nat) : Int) := wrap_succ (by omega)
     rw [dW] at bY
     exact ⟨(u.take 32767).length - (k + 1), by omega, k + 1, A_, c_, out, css, rfl, by omega, (hT.move (((((ac.trans ae).trans aa).trans ab).trans af).trans bh).step immM (((((ac.trans ae).trans aa).trans ab).trans af).trans bh).to'), by rw [foldl_take_succ aY, ← hout]; exact (ins_low (by assumption)).symm, by omega, bY.pk, dV, ((((((ba.trans ac).trans ae).trans aa).trans ab).trans af).trans bh)⟩
    ·
     have eX := of_decide_eq_false aM
     have bZ := aU.cast (env' := [(5, .v (.int .u32 (knownI l))), (6, .v (.slice A_ out.length c_)), (8, .p 0 0), (9, .v (.int .i64 ((i : Nat) : Int))), (17, .v (.slice A ((u.take 32767).length) c)), (18, .v (.int .i64 (((u.take 32767).length : Nat) : Int))), (19, .v (.int .i64 ((k : Nat) : Int))), (43, .v (.bool false))]) (by rw [aM])
     clear aU
     refine go_rnD [5, 6, 7, 8, 9] [(5, .v (.int .u32 (knownI l))), (6, .v (.slice A_ out.length c_)), (8, .p 0 0), (9, .v (.int .i64 ((i : Nat) : Int))), (17, .v (.slice A ((u.take 32767).length) c)), (18, .v (.int .i64 (((u.take 32767).length : Nat) : Int))), (19, .v (.int .i64 ((k : Nat) : Int))), (43, .v (.bool false)), (48, .v (.bool (decide (((i : Nat) : Int) < ((out.length : Nat) : Int)))))] 10 (panicFree_then (panicFree_then (panicFree_block (panicFree_then (panicFree_then (panicFree_block (panicFree_then panicFree_body))))))) (fun _ h => h ▸ ap.cells) rfl bZ fun fG b0 => ?_
     clear bZ
     have dX : (decide (((i : Nat) : Int) < ((out.length : Nat) : Int))) = true := aT
     have b5 := b0.cast (env' := [(5, .v (.int .u32 (knownI l))), (6, .v (.slice A_ out.length c_)), (8, .p 0 0), (9, .v (.int .i64 ((i : Nat) : Int))), (17, .v (.slice A ((u.take 32767).length) c)), (18, .v (.int .i64 (((u.take 32767).length : Nat) : Int))), (19, .v (.int .i64 ((k : Nat) : Int))), (43, .v (.bool false)), (48, .v (.bool true))]) (by rw [dX])
     clear b0
     refine go_rnD [10, 11, 15, 16] [(5, .v (.int .u32 (knownI l))), (6, .v (.slice A_ out.length c_)), (8, .p 0 0), (9, .v (.int .i64 ((i : Nat) : Int))), (17, .v (.slice A ((u.take 32767).length) c)), (18, .v (.int .i64 (((u.take 32767).length : Nat) : Int))), (19, .v (.int .i64 ((k : Nat) : Int))), (43, .v (.bool false)), (48, .v (.bool true)), (49, .v (.slice A_ out.length c_)), (50, .v (.int .i64 ((i : Nat) : Int))), (55, .v (.int .u32 al))] 6 (panicFree_then (panicFree_then (panicFree_block (panicFree_then (panicFree_then (panicFree_block (panicFree_then panicFree_body))))))) (fun _ h => h ▸ ap.cells) rfl b5 fun fH b6 => ?_
     clear b5
     obtain ⟨dr, b8⟩ := own_addr (ap.own 0 _ rfl) (show 0 < out.length by omega)
     obtain ⟨⟨aZ, fI⟩, aN⟩ : ∃ x, out[i]? = some x := ⟨_, List.getElem?_eq_getElem (by omega)⟩
     obtain ⟨fJ, fK, dY, eY, fL, fM⟩ := TagsE.get2 (hT.move ((((ac.trans ae).trans aa).trans ab).trans af).step immM ((((ac.trans ae).trans aa).trans ab).trans af).to') aN
     have dt := own_at (ap.own 0 _ rfl) b8 (flat_cells (hT.move ((((ac.trans ae).trans aa).trans ab).trans af).step immM ((((ac.trans ae).trans aa).trans ab).trans af).to').two dY)
     refine takeC_index b6 (i := 12) (t := 24) (A := A_) (m := out.length) (q := ((i : Nat) : Int)) (d := 51) kz (e := 63) (size := 2) (bytes := 32) kz (b := dr) (o := 0) (j := i) b8 (rfl) (by omega) kz kz (panicFree_then (panicFree_then (panicFree_block (panicFree_then (panicFree_then (panicFree_block (panicFree_then panicFree_body))))))) rfl fun fN ca => ?_
     clear b6
     refine go_rnD [13] [(5, .v (.int .u32 (knownI l))), (6, .v (.slice A_ out.length c_)), (8, .p 0 0), (9, .v (.int .i64 ((i : Nat) : Int))), (17, .v (.slice A ((u.take 32767).length) c)), (18, .v (.int .i64 (((u.take 32767).length : Nat) : Int))), (19, .v (.int .i64 ((k : Nat) : Int))), (43, .v (.bool false)), (48, .v (.bool true)), (52, .v (.pointer (some ⟨dr, 0 + i * 2, none⟩))), (55, .v (.int .u32 al))] 4 (panicFree_then (panicFree_then (panicFree_block (panicFree_then (panicFree_then (panicFree_block (panicFree_then panicFree_body))))))) (fun _ h => h ▸ ap.cells) rfl ca fun fO cb => ?_
     clear ca
     refine takeC_load cb (i := 14) (t := 61) (b := dr) (o := 0 + i * 2) (d := 53) kz (cs := [.int .u32 aZ]) (v := .int .u32 aZ) kz (fun w' h' => h' ▸ (At.drop dt 0 1)) kz kz (panicFree_then (panicFree_then (panicFree_block (panicFree_then (panicFree_then (panicFree_block (panicFree_then panicFree_body))))))) rfl fun fP cc => ?_
     clear cb
     refine go_rnD [17, 18, 19] [(5, .v (.int .u32 (knownI l))), (6, .v (.slice A_ out.length c_)), (8, .p 0 0), (9, .v (.int .i64 ((i : Nat) : Int))), (17, .v (.slice A ((u.take 32767).length) c)), (18, .v (.int .i64 (((u.take 32767).length : Nat) : Int))), (19, .v (.int .i64 ((k : Nat) : Int))), (58, .v (.bool (aZ == al)))] 0 (panicFree_then (panicFree_then (panicFree_block (panicFree_then (panicFree_then (panicFree_block (panicFree_then panicFree_body))))))) (fun _ h => h ▸ ap.cells) rfl cc fun fQ aO => ?_
     clear cc
     refine anyC_done kz ?_ _
     refine then_normal ?_
     refine cond_of aO (b := aZ == al) kz (fun bi => ?_) (fun bi => ?_)
     ·
      have eZ : aZ = al := by simpa using bi
      refine wp_exit ?_
      refine then_exit ?_
      refine block_exit ?_
      refine then_normal ?_
      refine go_region [0, 1] kz ?_
      refine go_rn [0, 1] [] [(5, .v (.int .u32 (knownI l))), (6, .v (.slice A_ out.length c_)), (17, .v (.slice A ((u.take 32767).length) c)), (18, .v (.int .i64 (((u.take 32767).length : Nat) : Int))), (19, .v (.int .i64 (IntKind.i64.wrap (((k : Nat) : Int) + 1))))] ap aO fun fR dZ => ?_
      clear aO
      refine wpOps_nil (then_normal ?_)
      obtain ⟨cd, d4, bj⟩ := ap.cutB dZ 0 [] [(5, .v (.int .u32 (knownI l))), (6, .v (.slice A_ out.length c_)), (17, .v (.slice A ((u.take 32767).length) c)), (18, .v (.int .i64 (((u.take 32767).length : Nat) : Int))), (19, .v (.int .i64 (IntKind.i64.wrap (((k : Nat) : Int) + 1))))]
      have d5 : IntKind.i64.wrap (((k : Nat) : Int) + 1) = ((k + 1 : Nat) : Int) := wrap_succ (by omega)
      rw [d5] at cd
      exact ⟨(u.take 32767).length - (k + 1), by omega, k + 1, A_, c_, out, css, rfl, by omega, (hT.move (((((ac.trans ae).trans aa).trans ab).trans af).trans bj).step immM (((((ac.trans ae).trans aa).trans ab).trans af).trans bj).to'), by rw [foldl_take_succ aY, ← hout]; exact (ins_same (tagPos_eq hi hlt (fun _ => by rw [getD_fst aN]; omega)) (by omega) (by rw [getD_fst aN]; omega)).symm, by omega, cd.pk, d4, ((((((ba.trans ac).trans ae).trans aa).trans ab).trans af).trans bj)⟩
     ·
      have e5 : aZ ≠ al := by simpa using bi
      refine wp_skip ?_
      refine then_normal ?_
      refine go_seq_region [0, 1, 2, 3, 4] kz ?_
      refine go_rn [0, 1] [2, 3, 4] [(5, .v (.int .u32 (knownI l))), (8, .p 0 0), (9, .v (.int .i64 ((i : Nat) : Int))), (17, .v (.slice A ((u.take 32767).length) c)), (18, .v (.int .i64 (((u.take 32767).length : Nat) : Int))), (19, .v (.int .i64 ((k : Nat) : Int))), (59, .v (.slice A_ out.length c_)), (60, .v (.agg #[.int .u32 0, .slice none 0 0]))] ap aO fun fS ce => ?_
      clear aO
      refine wpOps_push ap ce (k := 0) (e := 63) (size := 2) (len := 1) (cs := [.int .u32 0, .slice none 0 0]) (d1 := 61) (d := 62) kz (t := 24) (bytes := 32) kz (fun _ => by kernel_rfl) rfl kz (by omega) fun ag ai fT fU am aV ⟨_, cg⟩ => ?_
      clear ce
      refine go_rn [4] [] [(5, .v (.int .u32 (knownI l))), (6, .v (.slice ag (out.length + 1) ai)), (8, .p 0 0), (9, .v (.int .i64 ((i : Nat) : Int))), (17, .v (.slice A ((u.take 32767).length) c)), (18, .v (.int .i64 (((u.take 32767).length : Nat) : Int))), (19, .v (.int .i64 ((k : Nat) : Int)))] aV cg fun fV cl => ?_
      clear cg
      refine wpOps_nil (then_normal ?_)
      refine wp_seq ?_
      refine go_sp [(5, .v (.int .u32 (knownI l))), (6, .v (.slice ag (out.length + 1) ai)), (8, .p 0 0), (9, .v (.int .i64 ((i : Nat) : Int))), (10, .v (.int .i64 (IntKind.i64.wrap (((out.length + 1 : Nat) : Int) - 1)))), (17, .v (.slice A ((u.take 32767).length) c)), (18, .v (.int .i64 (((u.take 32767).length : Nat) : Int))), (19, .v (.int .i64 ((k : Nat) : Int)))] aV cl fun fW bk => ?_
      clear cl
      refine wp_block ?_
      have hcl0 := (hT.move (((((ac.trans ae).trans aa).trans ab).trans af).trans am).step immM (((((ac.trans ae).trans aa).trans ab).trans af).trans am).to').len
      have d6 : (⟨ag, ai, 63, 2, out.length + 1, css.flatten ++ [.int .u32 0, .slice none 0 0]⟩ : Rw) = ⟨ag, ai, 63, 2, out.length + 1, (rowAt css [.int .u32 0, .slice none 0 0] out.length).flatten⟩ := by rw [push_row hcl0]
      obtain ⟨cm, av⟩ := aV.rowEq 0 [⟨ag, ai, 63, 2, out.length + 1, (rowAt css [.int .u32 0, .slice none 0 0] out.length).flatten⟩] d6
      clear aV
      have d7 : IntKind.i64.wrap (((out.length + 1 : Nat) : Int) - 1) = ((out.length : Nat) : Int) := by rw [wrap_i64 (by omega) (by omega)]; omega
      rw [d7] at bk
      refine wp_loop_ghost (fun n_ a_ w_ => ∃ (j : Nat), n_ = j ∧ (i ≤ j) ∧ (j ≤ out.length) ∧ LInv cm 85 [⟨eP, 0, [.int .u32 al, .slice aJ ax.length aK], true⟩] [⟨ag, ai, 63, 2, out.length + 1, (rowAt css [.int .u32 0, .slice none 0 0] j).flatten⟩] [(5, .v (.int .u32 (knownI l))), (6, .v (.slice ag (out.length + 1) ai)), (8, .p 0 0), (9, .v (.int .i64 ((i : Nat) : Int))), (10, .v (.int .i64 ((j : Nat) : Int))), (17, .v (.slice A ((u.take 32767).length) c)), (18, .v (.int .i64 (((u.take 32767).length : Nat) : Int))), (19, .v (.int .i64 ((k : Nat) : Int)))] a_ w_) (out.length) ⟨out.length, rfl, hi, Nat.le_refl _, bk.pk, cm, Fr.refl _ _ _⟩ ?_
      clear bk
      rintro fX fY fZ ⟨j, e6, hij, hjl, cq, ay, ar⟩
      refine wp_seq ?_
      refine go_sp [(5, .v (.int .u32 (knownI l))), (6, .v (.slice ag (out.length + 1) ai)), (8, .p 0 0), (9, .v (.int .i64 ((i : Nat) : Int))), (10, .v (.int .i64 ((j : Nat) : Int))), (17, .v (.slice A ((u.take 32767).length) c)), (18, .v (.int .i64 (((u.take 32767).length : Nat) : Int))), (19, .v (.int .i64 ((k : Nat) : Int))), (68, .v (.bool (decide (((j : Nat) : Int) > ((i : Nat) : Int)))))] ay cq fun f0 aP => ?_
      clear cq
      refine cond_of aP (b := decide (((j : Nat) : Int) > ((i : Nat) : Int))) kz (fun bn => ?_) (fun bn => ?_)
      ·
       have e7 := of_decide_eq_true bn
       refine wp_skip ?_
       refine then_normal ?_
       refine wp_seq ?_
       refine wp_block ?_
       refine go_region [0, 1, 2, 3, 4, 5, 6, 7, 8] kz ?_
       refine go_rn [0, 1, 2, 3, 4] [5, 6, 7, 8] [(5, .v (.int .u32 (knownI l))), (6, .v (.slice ag (out.length + 1) ai)), (8, .p 0 0), (9, .v (.int .i64 ((i : Nat) : Int))), (10, .v (.int .i64 ((j : Nat) : Int))), (17, .v (.slice A ((u.take 32767).length) c)), (18, .v (.int .i64 (((u.take 32767).length : Nat) : Int))), (19, .v (.int .i64 ((k : Nat) : Int))), (71, .v (.slice ag (out.length + 1) ai)), (72, .v (.int .i64 ((j : Nat) : Int))), (73, .v (.slice ag (out.length + 1) ai)), (75, .v (.int .i64 (IntKind.i64.wrap (((j : Nat) : Int) - 1))))] ay aP fun f5 cr => ?_
       clear aP
       obtain ⟨d8, cu⟩ := own_addr (ay.own 0 _ rfl) (show 0 < out.length + 1 by omega)
       obtain ⟨⟨bM, bN⟩, d9⟩ : ∃ x, out[j - 1]? = some x := ⟨_, List.getElem?_eq_getElem (by omega)⟩
       obtain ⟨bO, bP, cv, e9, f8, f9⟩ := TagsE.get2 (hT.move (((((((ac.trans ae).trans aa).trans ab).trans af).trans am).trans av).trans ar).step immM (((((((ac.trans ae).trans aa).trans ab).trans af).trans am).trans av).trans ar).to') d9
       have du := own_at (ay.own 0 _ rfl) cu (flat_cells (rowAt_two (hT.move (((((((ac.trans ae).trans aa).trans ab).trans af).trans am).trans av).trans ar).step immM (((((((ac.trans ae).trans aa).trans ab).trans af).trans am).trans av).trans ar).to').two rfl j) (rowAt_get (show j - 1 < j by omega) cv))
       refine of_op (wpOp_index cr (t := 24) (A := ag) (m := (out.length + 1)) (q := (IntKind.i64.wrap (((j : Nat) : Int) - 1))) (d := 76) kz (e := 63) (size := 2) (bytes := 32) kz (b := d8) (o := 0) (j := (j - 1)) cu (by rw [wrap_i64 (by omega) (by omega)]; omega) (by omega) fun ga cw => ?_)
       clear cr
       refine of_op (wpOp_load cw (t := 63) (b := d8) (o := 0 + (j - 1) * 2) (d := 77) kz (cs := [.int .u32 bM, .slice bO bN.length bP]) (v := .agg #[.int .u32 bM, .slice bO bN.length bP]) kz du fun gb cy => ?_)
       clear cw
       obtain ⟨ea, cz⟩ := own_addr (ay.own 0 _ rfl) (show 0 < out.length + 1 by omega)
       refine of_op (wpOp_index cy (t := 24) (A := ag) (m := (out.length + 1)) (q := ((j : Nat) : Int)) (d := 78) kz (e := 63) (size := 2) (bytes := 32) kz (b := ea) (o := 0) (j := j) cz (rfl) (by omega) fun gc cA => ?_)
       clear cy
       refine of_op (wpOp_storeR ay cA (k := 0) (g := ea) (o := j * 2) (c := ai) (m := (out.length + 1)) (size := 2) (e := 63) (A := ag) (xs := ((rowAt css [.int .u32 0, .slice none 0 0] j).flatten)) (vs := [.int .u32 bM, .slice bO bN.length bP]) kz rfl cz (by simp only [List.length_cons, List.length_nil]; omega) fun gd bp bq cB => ?_)
       clear cA ay
       refine wpOps_nil ?_
       refine block_normal ?_
       refine then_normal ?_
       refine go_region [0, 1, 2] kz ?_
       refine go_rn [0, 1, 2] [] [(5, .v (.int .u32 (knownI l))), (6, .v (.slice ag (out.length + 1) ai)), (8, .p 0 0), (9, .v (.int .i64 ((i : Nat) : Int))), (10, .v (.int .i64 (IntKind.i64.wrap (((j : Nat) : Int) - 1)))), (17, .v (.slice A ((u.take 32767).length) c)), (18, .v (.int .i64 (((u.take 32767).length : Nat) : Int))), (19, .v (.int .i64 ((k : Nat) : Int)))] bq cB fun ge cC => ?_
       clear cB
       refine wpOps_nil (then_normal ?_)
       have eb : (⟨ag, ai, 63, 2, out.length + 1, splice ((rowAt css [.int .u32 0, .slice none 0 0] j).flatten) (j * 2) [.int .u32 bM, .slice bO bN.length bP]⟩ : Rw) = ⟨ag, ai, 63, 2, out.length + 1, (rowAt css [.int .u32 0, .slice none 0 0] (j - 1)).flatten⟩ := by rw [shift_row (hT.move ((((((((ac.trans ae).trans aa).trans ab).trans af).trans am).trans av).trans ar).trans bp).step immM ((((((((ac.trans ae).trans aa).trans ab).trans af).trans am).trans av).trans ar).trans bp).to').two rfl (by omega) (by omega) cv]
       obtain ⟨ec, ee⟩ := bq.rowEq 0 [⟨ag, ai, 63, 2, out.length + 1, (rowAt css [.int .u32 0, .slice none 0 0] (j - 1)).flatten⟩] eb
       clear bq
       have ef : IntKind.i64.wrap (((j : Nat) : Int) - 1) = ((j - 1 : Nat) : Int) := by rw [wrap_i64 (by omega) (by omega)]; omega
       rw [ef] at cC
       exact ⟨(j - 1), by omega, (j - 1), rfl, by omega, by omega, cC.pk, ec, ((ar.trans bp).trans ee)⟩
      ·
       have fa := of_decide_eq_false bn
       refine wp_exit ?_
       refine then_exit ?_
       refine then_exit ?_
       refine block_exit ?_
       refine then_normal ?_
       refine go_region [0, 1, 2, 3, 4] kz ?_
       refine go_rn [0, 1, 2] [3, 4] [(5, .v (.int .u32 (knownI l))), (6, .v (.slice ag (out.length + 1) ai)), (17, .v (.slice A ((u.take 32767).length) c)), (18, .v (.int .i64 (((u.take 32767).length : Nat) : Int))), (19, .v (.int .i64 ((k : Nat) : Int))), (79, .v (.slice ag (out.length + 1) ai)), (80, .v (.int .i64 ((i : Nat) : Int))), (81, .v (.agg #[.int .u32 al, .slice aJ ax.length aK]))] ay aP fun gf cD => ?_
       clear aP
       have hji : j = i := by omega
       have eg : (⟨ag, ai, 63, 2, out.length + 1, (rowAt css [.int .u32 0, .slice none 0 0] j).flatten⟩ : Rw) = ⟨ag, ai, 63, 2, out.length + 1, (rowAt css [.int .u32 0, .slice none 0 0] i).flatten⟩ := by rw [hji]
       obtain ⟨br, aD⟩ := ay.rowEq 0 [⟨ag, ai, 63, 2, out.length + 1, (rowAt css [.int .u32 0, .slice none 0 0] i).flatten⟩] eg
       clear ay
       obtain ⟨eh, cE⟩ := own_addr (br.own 0 _ rfl) (show 0 < out.length + 1 by omega)
       refine of_op (wpOp_index cD (t := 24) (A := ag) (m := (out.length + 1)) (q := ((i : Nat) : Int)) (d := 82) kz (e := 63) (size := 2) (bytes := 32) kz (b := eh) (o := 0) (j := i) cE (rfl) (by omega) fun gg cG => ?_)
       clear cD
       refine of_op (wpOp_storeR br cG (k := 0) (g := eh) (o := i * 2) (c := ai) (m := (out.length + 1)) (size := 2) (e := 63) (A := ag) (xs := ((rowAt css [.int .u32 0, .slice none 0 0] i).flatten)) (vs := [.int .u32 al, .slice aJ ax.length aK]) kz rfl cE (by simp only [List.length_cons, List.length_nil]; omega) fun gh aE cH cI => ?_)
       clear cG br
       refine wpOps_nil ?_
       refine block_normal ?_
       refine then_normal ?_
       refine go_region [0, 1] kz ?_
       refine go_rn [0, 1] [] [(5, .v (.int .u32 (knownI l))), (6, .v (.slice ag (out.length + 1) ai)), (17, .v (.slice A ((u.take 32767).length) c)), (18, .v (.int .i64 (((u.take 32767).length : Nat) : Int))), (19, .v (.int .i64 (IntKind.i64.wrap (((k : Nat) : Int) + 1))))] cH cI fun gi ei => ?_
       clear cI
       refine wpOps_nil (then_normal ?_)
       obtain ⟨bt, cJ, aF⟩ := cH.cutB ei 0 [] [(5, .v (.int .u32 (knownI l))), (6, .v (.slice ag (out.length + 1) ai)), (17, .v (.slice A ((u.take 32767).length) c)), (18, .v (.int .i64 (((u.take 32767).length : Nat) : Int))), (19, .v (.int .i64 (IntKind.i64.wrap (((k : Nat) : Int) + 1))))]
       have hcl := (hT.move ((((((((((ac.trans ae).trans aa).trans ab).trans af).trans am).trans av).trans ar).trans aD).trans aE).trans aF).step immM ((((((((((ac.trans ae).trans aa).trans ab).trans af).trans am).trans av).trans ar).trans aD).trans aE).trans aF).to').len
       have ej : (⟨ag, ai, 63, 2, out.length + 1, splice ((rowAt css [.int .u32 0, .slice none 0 0] i).flatten) (i * 2) [.int .u32 al, .slice aJ ax.length aK]⟩ : Rw) = ⟨ag, ai, 63, 2, (out.take i ++ (al, ax) :: out.drop i).length, (css.take i ++ [.int .u32 al, .slice aJ ax.length aK] :: css.drop i).flatten⟩ := by rw [place_row (hT.move ((((((((((ac.trans ae).trans aa).trans ab).trans af).trans am).trans av).trans ar).trans aD).trans aE).trans aF).step immM ((((((((((ac.trans ae).trans aa).trans ab).trans af).trans am).trans av).trans ar).trans aD).trans aE).trans aF).to').two rfl (by omega) rfl, ins_length (al, ax) hi]
       obtain ⟨bu, bv⟩ := cJ.rowEq 0 [⟨ag, ai, 63, 2, (out.take i ++ (al, ax) :: out.drop i).length, (css.take i ++ [.int .u32 al, .slice aJ ax.length aK] :: css.drop i).flatten⟩] ej
       clear cJ
       have ek : IntKind.i64.wrap (((k : Nat) : Int) + 1) = ((k + 1 : Nat) : Int) := wrap_succ (by omega)
       rw [ek] at bt
       have em : out.length + 1 = (out.take i ++ (al, ax) :: out.drop i).length := ins_length (al, ax) hi
       rw [em] at bt
       exact ⟨(u.take 32767).length - (k + 1), by omega, k + 1, ag, ai, (out.take i ++ (al, ax) :: out.drop i), (css.take i ++ [.int .u32 al, .slice aJ ax.length aK] :: css.drop i), rfl, by omega, (hT.move (((((((((((ac.trans ae).trans aa).trans ab).trans af).trans am).trans av).trans ar).trans aD).trans aE).trans aF).trans bv).step immM (((((((((((ac.trans ae).trans aa).trans ab).trans af).trans am).trans av).trans ar).trans aD).trans aE).trans aF).trans bv).to').ins ⟨⟨aJ, aK, rfl, (dE.move bu.step nilM bu.imm)⟩, eS, eT⟩ hi, by rw [foldl_take_succ aY, ← hout]; exact (ins_new (tagPos_eq hi hlt (fun _ => by first | (rw [getD_fst bL]; omega) | (rw [getD_fst aN]; omega))) (by assumption) (fun _ => by first | (rw [getD_fst bL]; omega) | (rw [getD_fst aN]; omega))).symm, by rw [← ins_length (al, ax) hi]; omega, bt.pk, bu, ((((((((((((ba.trans ac).trans ae).trans aa).trans ab).trans af).trans am).trans av).trans ar).trans aD).trans aE).trans aF).trans bv)⟩
  ·
   have fb := of_decide_eq_false aT
   have cK := bK.cast (env' := [(5, .v (.int .u32 (knownI l))), (6, .v (.slice A_ out.length c_)), (8, .p 0 0), (9, .v (.int .i64 ((i : Nat) : Int))), (17, .v (.slice A ((u.take 32767).length) c)), (18, .v (.int .i64 (((u.take 32767).length : Nat) : Int))), (19, .v (.int .i64 ((k : Nat) : Int))), (27, .v (.bool false))]) (by rw [aT])
   clear bK
   refine go_rnD [5, 6, 7, 8, 9, 10, 11, 12, 13] [(5, .v (.int .u32 (knownI l))), (6, .v (.slice A_ out.length c_)), (8, .p 0 0), (9, .v (.int .i64 ((i : Nat) : Int))), (17, .v (.slice A ((u.take 32767).length) c)), (18, .v (.int .i64 (((u.take 32767).length : Nat) : Int))), (19, .v (.int .i64 ((k : Nat) : Int))), (36, .v (.bool false))] 0 (panicFree_then (panicFree_then (panicFree_then (panicFree_block (panicFree_then (panicFree_block (panicFree_then (panicFree_then (panicFree_block (panicFree_then panicFree_body)))))))))) (fun _ h => h ▸ aC.cells) rfl cK fun gj bw => ?_
   clear cK
   refine anyC_done kz ?_ _
   refine then_normal ?_
   refine cond_false bw (b := false) kz rfl ?_
   refine wp_exit ?_
   refine then_exit ?_
   refine then_exit ?_
   refine block_exit ?_
   refine then_normal ?_
   refine wp_seq ?_
   refine go_seq_drawQ kz aC fun gk ak aB => ?_
   refine go_rnD [0, 1, 2, 3, 4] [(5, .v (.int .u32 (knownI l))), (6, .v (.slice A_ out.length c_)), (8, .p 0 0), (9, .v (.int .i64 ((i : Nat) : Int))), (17, .v (.slice A ((u.take 32767).length) c)), (18, .v (.int .i64 (((u.take 32767).length : Nat) : Int))), (19, .v (.int .i64 ((k : Nat) : Int))), (43, .v (.bool (decide (al < (knownI l)))))] 15 (panicFree_then (panicFree_then (panicFree_block (panicFree_then (panicFree_then (panicFree_block (panicFree_then panicFree_body))))))) (fun _ h => h ▸ aB.cells) rfl bw fun gl aW => ?_
   clear bw
   refine (Bool.eq_false_or_eq_true (decide (al < (knownI l)))).elim (fun aQ => ?_) (fun aQ => ?_)
   ·
    have fc := of_decide_eq_true aQ
    have cL := aW.cast (env' := [(5, .v (.int .u32 (knownI l))), (6, .v (.slice A_ out.length c_)), (8, .p 0 0), (9, .v (.int .i64 ((i : Nat) : Int))), (17, .v (.slice A ((u.take 32767).length) c)), (18, .v (.int .i64 (((u.take 32767).length : Nat) : Int))), (19, .v (.int .i64 ((k : Nat) : Int))), (43, .v (.bool true))]) (by rw [aQ])
    clear aW
    refine go_rnD [5, 6, 7, 8, 9, 10, 11, 12, 13, 14, 15, 16, 17, 18, 19] [(5, .v (.int .u32 (knownI l))), (6, .v (.slice A_ out.length c_)), (8, .p 0 0), (9, .v (.int .i64 ((i : Nat) : Int))), (17, .v (.slice A ((u.take 32767).length) c)), (18, .v (.int .i64 (((u.take 32767).length : Nat) : Int))), (19, .v (.int .i64 ((k : Nat) : Int))), (58, .v (.bool true))] 0 (panicFree_then (panicFree_then (panicFree_block (panicFree_then (panicFree_then (panicFree_block (panicFree_then panicFree_body))))))) (fun _ h => h ▸ aB.cells) rfl cL fun gm bz => ?_
    clear cL
    refine anyC_done kz ?_ _
    refine then_normal ?_
    refine cond_true bz (b := true) kz rfl ?_
    refine wp_exit ?_
    refine then_exit ?_
    refine block_exit ?_
    refine then_normal ?_
    refine go_region [0, 1] kz ?_
    refine go_rn [0, 1] [] [(5, .v (.int .u32 (knownI l))), (6, .v (.slice A_ out.length c_)), (17, .v (.slice A ((u.take 32767).length) c)), (18, .v (.int .i64 (((u.take 32767).length : Nat) : Int))), (19, .v (.int .i64 (IntKind.i64.wrap (((k : Nat) : Int) + 1))))] aB bz fun gn eo => ?_
    clear bz
    refine wpOps_nil (then_normal ?_)
    obtain ⟨cM, ep, bA⟩ := aB.cutB eo 0 [] [(5, .v (.int .u32 (knownI l))), (6, .v (.slice A_ out.length c_)), (17, .v (.slice A ((u.take 32767).length) c)), (18, .v (.int .i64 (((u.take 32767).length : Nat) : Int))), (19, .v (.int .i64 (IntKind.i64.wrap (((k : Nat) : Int) + 1))))]
    have eu : IntKind.i64.wrap (((k : Nat) : Int) + 1) = ((k + 1 : Nat) : Int) := wrap_succ (by omega)
    rw [eu] at cM
    exact ⟨(u.take 32767).length - (k + 1), by omega, k + 1, A_, c_, out, css, rfl, by omega, (hT.move (((((ac.trans ae).trans aa).trans ab).trans ak).trans bA).step immM (((((ac.trans ae).trans aa).trans ab).trans ak).trans bA).to'), by rw [foldl_take_succ aY, ← hout]; exact (ins_low (by assumption)).symm, by omega, cM.pk, ep, ((((((ba.trans ac).trans ae).trans aa).trans ab).trans ak).trans bA)⟩
   ·
    have fe := of_decide_eq_false aQ
    have cN := aW.cast (env' := [(5, .v (.int .u32 (knownI l))), (6, .v (.slice A_ out.length c_)), (8, .p 0 0), (9, .v (.int .i64 ((i : Nat) : Int))), (17, .v (.slice A ((u.take 32767).length) c)), (18, .v (.int .i64 (((u.take 32767).length : Nat) : Int))), (19, .v (.int .i64 ((k : Nat) : Int))), (43, .v (.bool false))]) (by rw [aQ])
    clear aW
    refine go_rnD [5, 6, 7, 8, 9] [(5, .v (.int .u32 (knownI l))), (6, .v (.slice A_ out.length c_)), (8, .p 0 0), (9, .v (.int .i64 ((i : Nat) : Int))), (17, .v (.slice A ((u.take 32767).length) c)), (18, .v (.int .i64 (((u.take 32767).length : Nat) : Int))), (19, .v (.int .i64 ((k : Nat) : Int))), (43, .v (.bool false)), (48, .v (.bool (decide (((i : Nat) : Int) < ((out.length : Nat) : Int)))))] 10 (panicFree_then (panicFree_then (panicFree_block (panicFree_then (panicFree_then (panicFree_block (panicFree_then panicFree_body))))))) (fun _ h => h ▸ aB.cells) rfl cN fun gp cO => ?_
    clear cN
    have ev : (decide (((i : Nat) : Int) < ((out.length : Nat) : Int))) = false := aT
    have cP := cO.cast (env' := [(5, .v (.int .u32 (knownI l))), (6, .v (.slice A_ out.length c_)), (8, .p 0 0), (9, .v (.int .i64 ((i : Nat) : Int))), (17, .v (.slice A ((u.take 32767).length) c)), (18, .v (.int .i64 (((u.take 32767).length : Nat) : Int))), (19, .v (.int .i64 ((k : Nat) : Int))), (43, .v (.bool false)), (48, .v (.bool false))]) (by rw [ev])
    clear cO
    refine go_rnD [10, 11, 12, 13, 14, 15, 16, 17, 18, 19] [(5, .v (.int .u32 (knownI l))), (6, .v (.slice A_ out.length c_)), (8, .p 0 0), (9, .v (.int .i64 ((i : Nat) : Int))), (17, .v (.slice A ((u.take 32767).length) c)), (18, .v (.int .i64 (((u.take 32767).length : Nat) : Int))), (19, .v (.int .i64 ((k : Nat) : Int))), (58, .v (.bool false))] 0 (panicFree_then (panicFree_then (panicFree_block (panicFree_then (panicFree_then (panicFree_block (panicFree_then panicFree_body))))))) (fun _ h => h ▸ aB.cells) rfl cP fun gq bB => ?_
    clear cP
    refine anyC_done kz ?_ _
    refine then_normal ?_
    refine cond_false bB (b := false) kz rfl ?_
    refine wp_skip ?_
    refine then_normal ?_
    refine go_seq_region [0, 1, 2, 3, 4] kz ?_
    refine go_rn [0, 1] [2, 3, 4] [(5, .v (.int .u32 (knownI l))), (8, .p 0 0), (9, .v (.int .i64 ((i : Nat) : Int))), (17, .v (.slice A ((u.take 32767).length) c)), (18, .v (.int .i64 (((u.take 32767).length : Nat) : Int))), (19, .v (.int .i64 ((k : Nat) : Int))), (59, .v (.slice A_ out.length c_)), (60, .v (.agg #[.int .u32 0, .slice none 0 0]))] aB bB fun gt cQ => ?_
    clear bB
    refine wpOps_push aB cQ (k := 0) (e := 63) (size := 2) (len := 1) (cs := [.int .u32 0, .slice none 0 0]) (d1 := 61) (d := 62) kz (t := 24) (bytes := 32) kz (fun _ => by kernel_rfl) rfl kz (by omega) fun ah aj gu gv ao aX ⟨_, cR⟩ => ?_
    clear cQ
    refine go_rn [4] [] [(5, .v (.int .u32 (knownI l))), (6, .v (.slice ah (out.length + 1) aj)), (8, .p 0 0), (9, .v (.int .i64 ((i : Nat) : Int))), (17, .v (.slice A ((u.take 32767).length) c)), (18, .v (.int .i64 (((u.take 32767).length : Nat) : Int))), (19, .v (.int .i64 ((k : Nat) : Int)))] aX cR fun gw cS => ?_
    clear cR
    refine wpOps_nil (then_normal ?_)
    refine wp_seq ?_
    refine go_sp [(5, .v (.int .u32 (knownI l))), (6, .v (.slice ah (out.length + 1) aj)), (8, .p 0 0), (9, .v (.int .i64 ((i : Nat) : Int))), (10, .v (.int .i64 (IntKind.i64.wrap (((out.length + 1 : Nat) : Int) - 1)))), (17, .v (.slice A ((u.take 32767).length) c)), (18, .v (.int .i64 (((u.take 32767).length : Nat) : Int))), (19, .v (.int .i64 ((k : Nat) : Int)))] aX cS fun gx bC => ?_
    clear cS
    refine wp_block ?_
    have hcl0 := (hT.move (((((ac.trans ae).trans aa).trans ab).trans ak).trans ao).step immM (((((ac.trans ae).trans aa).trans ab).trans ak).trans ao).to').len
    have ew : (⟨ah, aj, 63, 2, out.length + 1, css.flatten ++ [.int .u32 0, .slice none 0 0]⟩ : Rw) = ⟨ah, aj, 63, 2, out.length + 1, (rowAt css [.int .u32 0, .slice none 0 0] out.length).flatten⟩ := by rw [push_row hcl0]
    obtain ⟨cT, aw⟩ := aX.rowEq 0 [⟨ah, aj, 63, 2, out.length + 1, (rowAt css [.int .u32 0, .slice none 0 0] out.length).flatten⟩] ew
    clear aX
    have ey : IntKind.i64.wrap (((out.length + 1 : Nat) : Int) - 1) = ((out.length : Nat) : Int) := by rw [wrap_i64 (by omega) (by omega)]; omega
    rw [ey] at bC
    refine wp_loop_ghost (fun n_ a_ w_ => ∃ (j : Nat), n_ = j ∧ (i ≤ j) ∧ (j ≤ out.length) ∧ LInv cT 85 [⟨eP, 0, [.int .u32 al, .slice aJ ax.length aK], true⟩] [⟨ah, aj, 63, 2, out.length + 1, (rowAt css [.int .u32 0, .slice none 0 0] j).flatten⟩] [(5, .v (.int .u32 (knownI l))), (6, .v (.slice ah (out.length + 1) aj)), (8, .p 0 0), (9, .v (.int .i64 ((i : Nat) : Int))), (10, .v (.int .i64 ((j : Nat) : Int))), (17, .v (.slice A ((u.take 32767).length) c)), (18, .v (.int .i64 (((u.take 32767).length : Nat) : Int))), (19, .v (.int .i64 ((k : Nat) : Int)))] a_ w_) (out.length) ⟨out.length, rfl, hi, Nat.le_refl _, bC.pk, cT, Fr.refl _ _ _⟩ ?_
    clear bC
    rintro gy gz gA ⟨j, ff, hij, hjl, cV, aA, au⟩
    refine wp_seq ?_
    refine go_sp [(5, .v (.int .u32 (knownI l))), (6, .v (.slice ah (out.length + 1) aj)), (8, .p 0 0), (9, .v (.int .i64 ((i : Nat) : Int))), (10, .v (.int .i64 ((j : Nat) : Int))), (17, .v (.slice A ((u.take 32767).length) c)), (18, .v (.int .i64 (((u.take 32767).length : Nat) : Int))), (19, .v (.int .i64 ((k : Nat) : Int))), (68, .v (.bool (decide (((j : Nat) : Int) > ((i : Nat) : Int)))))] aA cV fun gB aR => ?_
    clear cV
    refine cond_of aR (b := decide (((j : Nat) : Int) > ((i : Nat) : Int))) kz (fun bD => ?_) (fun bD => ?_)
    ·
     have fg := of_decide_eq_true bD
     refine wp_skip ?_
     refine then_normal ?_
     refine wp_seq ?_
     refine wp_block ?_
     refine go_region [0, 1, 2, 3, 4, 5, 6, 7, 8] kz ?_
     refine go_rn [0, 1, 2, 3, 4] [5, 6, 7, 8] [(5, .v (.int .u32 (knownI l))), (6, .v (.slice ah (out.length + 1) aj)), (8, .p 0 0), (9, .v (.int .i64 ((i : Nat) : Int))), (10, .v (.int .i64 ((j : Nat) : Int))), (17, .v (.slice A ((u.take 32767).length) c)), (18, .v (.int .i64 (((u.take 32767).length : Nat) : Int))), (19, .v (.int .i64 ((k : Nat) : Int))), (71, .v (.slice ah (out.length + 1) aj)), (72, .v (.int .i64 ((j : Nat) : Int))), (73, .v (.slice ah (out.length + 1) aj)), (75, .v (.int .i64 (IntKind.i64.wrap (((j : Nat) : Int) - 1))))] aA aR fun gC cW => ?_
     clear aR
     obtain ⟨ez, cX⟩ := own_addr (aA.own 0 _ rfl) (show 0 < out.length + 1 by omega)
     obtain ⟨⟨bQ, bR⟩, eA⟩ : ∃ x, out[j - 1]? = some x := ⟨_, List.getElem?_eq_getElem (by omega)⟩
     obtain ⟨bS, bT, cY, fh, gD, gE⟩ := TagsE.get2 (hT.move (((((((ac.trans ae).trans aa).trans ab).trans ak).trans ao).trans aw).trans au).step immM (((((((ac.trans ae).trans aa).trans ab).trans ak).trans ao).trans aw).trans au).to') eA
     have dv := own_at (aA.own 0 _ rfl) cX (flat_cells (rowAt_two (hT.move (((((((ac.trans ae).trans aa).trans ab).trans ak).trans ao).trans aw).trans au).step immM (((((((ac.trans ae).trans aa).trans ab).trans ak).trans ao).trans aw).trans au).to').two rfl j) (rowAt_get (show j - 1 < j by omega) cY))
     refine of_op (wpOp_index cW (t := 24) (A := ah) (m := (out.length + 1)) (q := (IntKind.i64.wrap (((j : Nat) : Int) - 1))) (d := 76) kz (e := 63) (size := 2) (bytes := 32) kz (b := ez) (o := 0) (j := (j - 1)) cX (by rw [wrap_i64 (by omega) (by omega)]; omega) (by omega) fun gF cZ => ?_)
     clear cW
     refine of_op (wpOp_load cZ (t := 63) (b := ez) (o := 0 + (j - 1) * 2) (d := 77) kz (cs := [.int .u32 bQ, .slice bS bR.length bT]) (v := .agg #[.int .u32 bQ, .slice bS bR.length bT]) kz dv fun gG c5 => ?_)
     clear cZ
     obtain ⟨eB, da⟩ := own_addr (aA.own 0 _ rfl) (show 0 < out.length + 1 by omega)
     refine of_op (wpOp_index c5 (t := 24) (A := ah) (m := (out.length + 1)) (q := ((j : Nat) : Int)) (d := 78) kz (e := 63) (size := 2) (bytes := 32) kz (b := eB) (o := 0) (j := j) da (rfl) (by omega) fun gH db => ?_)
     clear c5
     refine of_op (wpOp_storeR aA db (k := 0) (g := eB) (o := j * 2) (c := aj) (m := (out.length + 1)) (size := 2) (e := 63) (A := ah) (xs := ((rowAt css [.int .u32 0, .slice none 0 0] j).flatten)) (vs := [.int .u32 bQ, .slice bS bR.length bT]) kz rfl da (by simp only [List.length_cons, List.length_nil]; omega) fun gI bE bF dc => ?_)
     clear db aA
     refine wpOps_nil ?_
     refine block_normal ?_
     refine then_normal ?_
     refine go_region [0, 1, 2] kz ?_
     refine go_rn [0, 1, 2] [] [(5, .v (.int .u32 (knownI l))), (6, .v (.slice ah (out.length + 1) aj)), (8, .p 0 0), (9, .v (.int .i64 ((i : Nat) : Int))), (10, .v (.int .i64 (IntKind.i64.wrap (((j : Nat) : Int) - 1)))), (17, .v (.slice A ((u.take 32767).length) c)), (18, .v (.int .i64 (((u.take 32767).length : Nat) : Int))), (19, .v (.int .i64 ((k : Nat) : Int)))] bF dc fun gJ de => ?_
     clear dc
     refine wpOps_nil (then_normal ?_)
     have eC : (⟨ah, aj, 63, 2, out.length + 1, splice ((rowAt css [.int .u32 0, .slice none 0 0] j).flatten) (j * 2) [.int .u32 bQ, .slice bS bR.length bT]⟩ : Rw) = ⟨ah, aj, 63, 2, out.length + 1, (rowAt css [.int .u32 0, .slice none 0 0] (j - 1)).flatten⟩ := by rw [shift_row (hT.move ((((((((ac.trans ae).trans aa).trans ab).trans ak).trans ao).trans aw).trans au).trans bE).step immM ((((((((ac.trans ae).trans aa).trans ab).trans ak).trans ao).trans aw).trans au).trans bE).to').two rfl (by omega) (by omega) cY]
     obtain ⟨eD, eE⟩ := bF.rowEq 0 [⟨ah, aj, 63, 2, out.length + 1, (rowAt css [.int .u32 0, .slice none 0 0] (j - 1)).flatten⟩] eC
     clear bF
     have eF : IntKind.i64.wrap (((j : Nat) : Int) - 1) = ((j - 1 : Nat) : Int) := by rw [wrap_i64 (by omega) (by omega)]; omega
     rw [eF] at de
     exact ⟨(j - 1), by omega, (j - 1), rfl, by omega, by omega, de.pk, eD, ((au.trans bE).trans eE)⟩
    ·
     have fi := of_decide_eq_false bD
     refine wp_exit ?_
     refine then_exit ?_
     refine then_exit ?_
     refine block_exit ?_
     refine then_normal ?_
     refine go_region [0, 1, 2, 3, 4] kz ?_
     refine go_rn [0, 1, 2] [3, 4] [(5, .v (.int .u32 (knownI l))), (6, .v (.slice ah (out.length + 1) aj)), (17, .v (.slice A ((u.take 32767).length) c)), (18, .v (.int .i64 (((u.take 32767).length : Nat) : Int))), (19, .v (.int .i64 ((k : Nat) : Int))), (79, .v (.slice ah (out.length + 1) aj)), (80, .v (.int .i64 ((i : Nat) : Int))), (81, .v (.agg #[.int .u32 al, .slice aJ ax.length aK]))] aA aR fun gK df => ?_
     clear aR
     have hji : j = i := by omega
     have eG : (⟨ah, aj, 63, 2, out.length + 1, (rowAt css [.int .u32 0, .slice none 0 0] j).flatten⟩ : Rw) = ⟨ah, aj, 63, 2, out.length + 1, (rowAt css [.int .u32 0, .slice none 0 0] i).flatten⟩ := by rw [hji]
     obtain ⟨bG, aG⟩ := aA.rowEq 0 [⟨ah, aj, 63, 2, out.length + 1, (rowAt css [.int .u32 0, .slice none 0 0] i).flatten⟩] eG
     clear aA
     obtain ⟨eH, dg⟩ := own_addr (bG.own 0 _ rfl) (show 0 < out.length + 1 by omega)
     refine of_op (wpOp_index df (t := 24) (A := ah) (m := (out.length + 1)) (q := ((i : Nat) : Int)) (d := 82) kz (e := 63) (size := 2) (bytes := 32) kz (b := eH) (o := 0) (j := i) dg (rfl) (by omega) fun gL dh => ?_)
     clear df
     refine of_op (wpOp_storeR bG dh (k := 0) (g := eH) (o := i * 2) (c := aj) (m := (out.length + 1)) (size := 2) (e := 63) (A := ah) (xs := ((rowAt css [.int .u32 0, .slice none 0 0] i).flatten)) (vs := [.int .u32 al, .slice aJ ax.length aK]) kz rfl dg (by simp only [List.length_cons, List.length_nil]; omega) fun gM aH di dj => ?_)
     clear dh bG
     refine wpOps_nil ?_
     refine block_normal ?_
     refine then_normal ?_
     refine go_region [0, 1] kz ?_
     refine go_rn [0, 1] [] [(5, .v (.int .u32 (knownI l))), (6, .v (.slice ah (out.length + 1) aj)), (17, .v (.slice A ((u.take 32767).length) c)), (18, .v (.int .i64 (((u.take 32767).length : Nat) : Int))), (19, .v (.int .i64 (IntKind.i64.wrap (((k : Nat) : Int) + 1))))] di dj fun gN eI => ?_
     clear dj
     refine wpOps_nil (then_normal ?_)
     obtain ⟨bH, dl, aI⟩ := di.cutB eI 0 [] [(5, .v (.int .u32 (knownI l))), (6, .v (.slice ah (out.length + 1) aj)), (17, .v (.slice A ((u.take 32767).length) c)), (18, .v (.int .i64 (((u.take 32767).length : Nat) : Int))), (19, .v (.int .i64 (IntKind.i64.wrap (((k : Nat) : Int) + 1))))]
     have hcl := (hT.move ((((((((((ac.trans ae).trans aa).trans ab).trans ak).trans ao).trans aw).trans au).trans aG).trans aH).trans aI).step immM ((((((((((ac.trans ae).trans aa).trans ab).trans ak).trans ao).trans aw).trans au).trans aG).trans aH).trans aI).to').len
     have eJ : (⟨ah, aj, 63, 2, out.length + 1, splice ((rowAt css [.int .u32 0, .slice none 0 0] i).flatten) (i * 2) [.int .u32 al, .slice aJ ax.length aK]⟩ : Rw) = ⟨ah, aj, 63, 2, (out.take i ++ (al, ax) :: out.drop i).length, (css.take i ++ [.int .u32 al, .slice aJ ax.length aK] :: css.drop i).flatten⟩ := by rw [place_row (hT.move ((((((((((ac.trans ae).trans aa).trans ab).trans ak).trans ao).trans aw).trans au).trans aG).trans aH).trans aI).step immM ((((((((((ac.trans ae).trans aa).trans ab).trans ak).trans ao).trans aw).trans au).trans aG).trans aH).trans aI).to').two rfl (by omega) rfl, ins_length (al, ax) hi]
     obtain ⟨bI, bJ⟩ := dl.rowEq 0 [⟨ah, aj, 63, 2, (out.take i ++ (al, ax) :: out.drop i).length, (css.take i ++ [.int .u32 al, .slice aJ ax.length aK] :: css.drop i).flatten⟩] eJ
     clear dl
     have eK : IntKind.i64.wrap (((k : Nat) : Int) + 1) = ((k + 1 : Nat) : Int) := wrap_succ (by omega)
     rw [eK] at bH
     have eL : out.length + 1 = (out.take i ++ (al, ax) :: out.drop i).length := ins_length (al, ax) hi
     rw [eL] at bH
     exact ⟨(u.take 32767).length - (k + 1), by omega, k + 1, ah, aj, (out.take i ++ (al, ax) :: out.drop i), (css.take i ++ [.int .u32 al, .slice aJ ax.length aK] :: css.drop i), rfl, by omega, (hT.move (((((((((((ac.trans ae).trans aa).trans ab).trans ak).trans ao).trans aw).trans au).trans aG).trans aH).trans aI).trans bJ).step immM (((((((((((ac.trans ae).trans aa).trans ab).trans ak).trans ao).trans aw).trans au).trans aG).trans aH).trans aI).trans bJ).to').ins ⟨⟨aJ, aK, rfl, (dE.move bI.step nilM bI.imm)⟩, eS, eT⟩ hi, by rw [foldl_take_succ aY, ← hout]; exact (ins_new (tagPos_eq hi hlt (fun h_ => absurd h_ (by omega))) (by assumption) (fun h_ => absurd h_ (by omega))).symm, by rw [← ins_length (al, ax) hi]; omega, bH.pk, bI, ((((((((((((ba.trans ac).trans ae).trans aa).trans ab).trans ak).trans ao).trans aw).trans au).trans aG).trans aH).trans aI).trans bJ)⟩
 ·
  have fj := of_decide_eq_false dp
  refine wp_exit ?_
  refine then_exit ?_
  refine then_exit ?_
  refine block_exit ?_
  refine then_normal ?_
  refine go_sp [(4, .v (.slice A_ out.length c_))] aS bd fun gO eM => ?_
  clear bd
  refine wp_ret ?_
  refine leave eM aS.cells (v := .slice A_ out.length c_) kz ?_
  exact unknown_end aS (k := 0) rfl rfl rfl hT (by omega) (by rw [hout, List.take_of_length_le (by omega)]; rfl)
def UsualOK (d : Nat) : Prop := ∀ (cf : List Value) (f : Fld) (ct : List Value) (t : Tree) (w : World) (F : Nat → Nat → Prop), FldR w F cf f → f.depth ≤ d → TreeR w F ct t →
  Calls Tryz.prog 92 #[.agg cf.toArray, .agg ct.toArray] w (Gives w (.bool (f.usual t)))
theorem sUsual_step {d : Nat} (hu : UsualOK d) (cf : List Value) (f : Fld) (ct : List Value) (t : Tree) (w : World) (F : Nat → Nat → Prop) (hf : FldR w F cf f) (hd : f.depth ≤ d + 1) (ht : TreeR w F ct t) :
  Calls Tryz.prog 92 #[.agg cf.toArray, .agg ct.toArray] w (Gives w (.bool (f.usual t))) := by
 obtain ⟨k1, y2, y3, y4, y5, y6, y7, l8, A9, aK, dI, rfl, rfl, dJ, ec⟩ := hf.open_
 have ee := dJ.small
 obtain ⟨af, ab, aM, aU, aL, ak, al, cv, cw, bE, bF, eU, rfl, rfl, ef, eV, gt, eW⟩ := ht.open_
 have eg := ef.small
 have eh := eV.small
 refine enter (n := 91) Tryz.func92 rfl Tryz.ntmps92 kz fun a hE => ?_
 have hW := WOk.start w Nil
 refine go_seq_region [0, 1, 2] kz ?_
 refine of_op (wpOp_box hW hE (d := 2) (cs := [.int .i64 k1, .int .i64 y2, .int .i64 y3, .int .i64 y4, .int .i64 y5, .int .i64 y6, .int .i64 y7, .slice A9 l8.length aK]) kz fun dK gu gv eX eY eZ cy cz => ?_)
 clear hE hW
 refine of_op (wpOp_box cy cz (d := 3) (cs := [.int .i64 af, .slice ak ab.length al, .bool aM, .slice cv aU.length cw, .slice bE aL.length bF]) kz fun dL gw gx e5 e6 e7 aa cA => ?_)
 clear cz cy
 refine go_rn [2] [] [(2, .p 0 0), (3, .p 1 0)] aa cA fun gy cB => ?_
 clear cA
 refine wpOps_nil (then_normal ?_)
 refine wp_seq ?_
 refine go_sp [(2, .p 0 0), (3, .p 1 0), (10, .v (.int .i64 k1))] aa cB fun gz cC => ?_
 clear cB
 refine wp_block ?_
 refine go_sp [(2, .p 0 0), (3, .p 1 0), (10, .v (.int .i64 k1)), (11, .v (.bool (k1 == 0)))] aa cC fun gA aV => ?_
 clear cC
 refine cond_of aV (b := k1 == 0) kz (fun cq => ?_) (fun cq => ?_)
 ·
  have e9 : k1 = 0 := by simpa using cq
  refine go_sp [(4, .v (.bool ((IntKind.i64.wrap (BitVec.ofInt 64 af &&& BitVec.ofInt 64 1).toNat) == y6)))] aa aV fun gB dM => ?_
  clear aV
  refine wp_ret ?_
  refine block_ret ?_
  refine then_ret ?_
  refine leave dM aa.cells (v := .bool ((IntKind.i64.wrap (BitVec.ofInt 64 af &&& BitVec.ofInt 64 1).toNat) == y6)) kz ?_
  refine ⟨congrArg (fun b_ => Ending.returned (Value.bool b_)) ?_, aa.step⟩
  first
   | (rw [usual_0 (by assumption)]; simp only [and1]; done)
   | (rw [usual_7 (by assumption) (by assumption)]; exact zero16_true hz (by omega); done)
   | (rw [usual_7 (by assumption) (by assumption)]; exact zero16_false (k := k) (by omega) (by omega) (by assumption); done)
   | (rw [usual_89n (by assumption) (by assumption) (by omega) (by assumption)]; done)
   | (rw [usual_89 (by assumption) (by assumption) (by omega) (by assumption)]; done)
   | (rw [usual_11 (by assumption) (by assumption) (by assumption) (by assumption) (by assumption)]; done)
   | (rw [usual_10 (by assumption) (by assumption) (by assumption) (by assumption) (by assumption) (by assumption), huu, usuals_end (by omega), Bool.true_and]; done)
   | (rw [usual_else (by assumption) (by assumption) (by assumption) (by assumption) (by assumption) (by assumption)]; done)
 ·
  have fa : k1 ≠ 0 := by simpa using cq
  refine go_sp [(2, .p 0 0), (3, .p 1 0), (10, .v (.int .i64 k1)), (19, .v (.bool (k1 == 7)))] aa aV fun gC aW => ?_
  clear aV
  refine cond_of aW (b := k1 == 7) kz (fun cr => ?_) (fun cr => ?_)
  ·
   have fb : k1 = 7 := by simpa using cr
   refine wp_seq ?_
   refine go_sp [(22, .v (.slice ak ab.length al)), (23, .v (.int .i64 ((ab.length : Nat) : Int))), (24, .v (.int .i64 0))] aa aW fun gD cD => ?_
   clear aW
   refine wp_block ?_
   refine wp_loop_ghost (fun n_ a_ w_ => ∃ (k : Nat), n_ = ab.length - k ∧ k ≤ ab.length ∧ (∀ q, q < k → q < 16 → (((ab.getD q 0).toNat : Nat) : Int) = 0) ∧ LInv aa 91 [⟨dK, 0, [.int .i64 k1, .int .i64 y2, .int .i64 y3, .int .i64 y4, .int .i64 y5, .int .i64 y6, .int .i64 y7, .slice A9 l8.length aK], true⟩, ⟨dL, 0, [.int .i64 af, .slice ak ab.length al, .bool aM, .slice cv aU.length cw, .slice bE aL.length bF], true⟩] [] [(22, .v (.slice ak ab.length al)), (23, .v (.int .i64 ((ab.length : Nat) : Int))), (24, .v (.int .i64 ((k : Nat) : Int)))] a_ w_) (ab.length) ⟨0, by omega, by omega, fun q h_ => absurd h_ (Nat.not_lt_zero q), cD.pk, aa, Fr.refl _ _ _⟩ ?_
   clear cD
   rintro gE gF gG ⟨k, fc, fe, hz, cE, ae, cG⟩
   refine go_sp [(22, .v (.slice ak ab.length al)), (23, .v (.int .i64 ((ab.length : Nat) : Int))), (24, .v (.int .i64 ((k : Nat) : Int))), (25, .v (.bool (decide (((k : Nat) : Int) < ((ab.length : Nat) : Int)))))] ae cE fun gH aX => ?_
   clear cE
   refine wp_seq ?_
   refine cond_of aX (b := decide (((k : Nat) : Int) < ((ab.length : Nat) : Int))) kz (fun cu => ?_) (fun cu => ?_)
   ·
    have ff := of_decide_eq_true cu
    refine wp_skip ?_
    refine then_normal ?_
    refine wp_seq ?_
    refine wp_block ?_
    refine go_seq_region [0, 1, 2, 3, 4] kz ?_
    refine go_rn [0] [1, 2, 3, 4] [(22, .v (.slice ak ab.length al)), (23, .v (.int .i64 ((ab.length : Nat) : Int))), (24, .v (.int .i64 ((k : Nat) : Int))), (26, .v (.int .i64 ((k : Nat) : Int)))] ae aX fun gI cH => ?_
    clear aX
    obtain ⟨fg, fh, dN, fi, cI⟩ := Slots.get ef (i := k) (by omega)
    refine of_op (wpOp_index cH (t := 22) (A := ak) (m := ab.length) (q := ((k : Nat) : Int)) (d := 27) kz (e := 5) (size := 1) (bytes := 1) kz dN rfl (by omega) fun gJ cJ => ?_)
    clear cH
    refine of_op (wpOp_load cJ (t := 5) (b := fg) (o := fh + k * 1) (d := 28) kz (cs := [.int .u8 ((ab.getD k 0).toNat : Int)]) (v := .int .u8 ((ab.getD k 0).toNat : Int)) kz (AtF.move cI ae.step nilM keepF).at_ fun gK cK => ?_)
    clear cJ
    refine go_rn [3, 4] [] [(5, .v (.int .i64 ((k : Nat) : Int))), (6, .v (.int .u8 ((ab.getD k 0).toNat : Int))), (22, .v (.slice ak ab.length al)), (23, .v (.int .i64 ((ab.length : Nat) : Int))), (24, .v (.int .i64 ((k : Nat) : Int)))] ae cK fun gL cL => ?_
    clear cK
    refine wpOps_nil (then_normal ?_)
    refine go_seq_region [0, 1, 2, 3, 4, 5] kz ?_
    refine go_rn [0, 1, 2] [3, 4, 5] [(6, .v (.int .u8 ((ab.getD k 0).toNat : Int))), (22, .v (.slice ak ab.length al)), (23, .v (.int .i64 ((ab.length : Nat) : Int))), (24, .v (.int .i64 ((k : Nat) : Int))), (31, .v (.bool (decide (((k : Nat) : Int) < 16))))] ae cL fun gM bD => ?_
    clear cL
    refine (Bool.eq_false_or_eq_true (decide (((k : Nat) : Int) < 16))).elim (fun aY => ?_) (fun aY => ?_)
    ·
     have fj := of_decide_eq_true aY
     have cM := bD.cast (env' := [(6, .v (.int .u8 ((ab.getD k 0).toNat : Int))), (22, .v (.slice ak ab.length al)), (23, .v (.int .i64 ((ab.length : Nat) : Int))), (24, .v (.int .i64 ((k : Nat) : Int))), (31, .v (.bool true))]) (by rw [aY])
     clear bD
     refine go_rn [3, 4, 5] [] [(22, .v (.slice ak ab.length al)), (23, .v (.int .i64 ((ab.length : Nat) : Int))), (24, .v (.int .i64 ((k : Nat) : Int))), (34, .v (.bool (((ab.getD k 0).toNat : Int) != 0)))] ae cM fun gN am => ?_
     clear cM
     refine wpOps_nil (then_normal ?_)
     refine cond_of am (b := ((ab.getD k 0).toNat : Int) != 0) kz (fun aZ => ?_) (fun aZ => ?_)
     ·
      have ei : ((ab.getD k 0).toNat : Int) ≠ 0 := by simpa using aZ
      refine go_sp [(4, .v (.bool false))] ae am fun fk cN => ?_
      clear am
      refine wp_ret ?_
      refine block_ret ?_
      refine then_ret ?_
      refine then_ret ?_
      refine block_ret ?_
      refine then_ret ?_
      refine block_ret ?_
      refine then_ret ?_
      refine leave cN ae.cells (v := .bool false) kz ?_
      refine ⟨congrArg (fun b_ => Ending.returned (Value.bool b_)) ?_, ae.step⟩
      first
       | (rw [usual_0 (by assumption)]; simp only [and1]; done)
       | (rw [usual_7 (by assumption) (by assumption)]; exact zero16_true hz (by omega); done)
       | (rw [usual_7 (by assumption) (by assumption)]; exact zero16_false (k := k) (by omega) (by omega) (by assumption); done)
       | (rw [usual_89n (by assumption) (by assumption) (by omega) (by assumption)]; done)
       | (rw [usual_89 (by assumption) (by assumption) (by omega) (by assumption)]; done)
       | (rw [usual_11 (by assumption) (by assumption) (by assumption) (by assumption) (by assumption)]; done)
       | (rw [usual_10 (by assumption) (by assumption) (by assumption) (by assumption) (by assumption) (by assumption), huu, usuals_end (by omega), Bool.true_and]; done)
       | (rw [usual_else (by assumption) (by assumption) (by assumption) (by assumption) (by assumption) (by assumption)]; done)
     ·
      have ej : ((ab.getD k 0).toNat : Int) = 0 := by simpa using aZ
      refine wp_skip ?_
      refine block_normal ?_
      refine then_normal ?_
      refine go_region [0, 1] kz ?_
      refine go_rn [0, 1] [] [(22, .v (.slice ak ab.length al)), (23, .v (.int .i64 ((ab.length : Nat) : Int))), (24, .v (.int .i64 (IntKind.i64.wrap (((k : Nat) : Int) + 1))))] ae am fun fl bG => ?_
      clear am
      refine wpOps_nil (then_normal ?_)
      have cO : IntKind.i64.wrap (((k : Nat) : Int) + 1) = ((k + 1 : Nat) : Int) := wrap_succ (by omega)
      rw [cO] at bG
      exact ⟨ab.length - (k + 1), by omega, k + 1, rfl, by omega, fun q hq cP => by rcases Nat.lt_succ_iff_lt_or_eq.1 hq with h_ | h_; exact hz q h_ cP; rw [h_] at cP ⊢; first | assumption | omega, bG.pk, ae, cG⟩
    ·
     have ek := of_decide_eq_false aY
     have bH := bD.cast (env' := [(6, .v (.int .u8 ((ab.getD k 0).toNat : Int))), (22, .v (.slice ak ab.length al)), (23, .v (.int .i64 ((ab.length : Nat) : Int))), (24, .v (.int .i64 ((k : Nat) : Int))), (31, .v (.bool false))]) (by rw [aY])
     clear bD
     refine go_rn [3, 4, 5] [] [(22, .v (.slice ak ab.length al)), (23, .v (.int .i64 ((ab.length : Nat) : Int))), (24, .v (.int .i64 ((k : Nat) : Int))), (34, .v (.bool false))] ae bH fun fm ba => ?_
     clear bH
     refine wpOps_nil (then_normal ?_)
     refine cond_false ba (b := false) kz rfl ?_
     refine wp_skip ?_
     refine block_normal ?_
     refine then_normal ?_
     refine go_region [0, 1] kz ?_
     refine go_rn [0, 1] [] [(22, .v (.slice ak ab.length al)), (23, .v (.int .i64 ((ab.length : Nat) : Int))), (24, .v (.int .i64 (IntKind.i64.wrap (((k : Nat) : Int) + 1))))] ae ba fun fo bI => ?_
     clear ba
     refine wpOps_nil (then_normal ?_)
     have cQ : IntKind.i64.wrap (((k : Nat) : Int) + 1) = ((k + 1 : Nat) : Int) := wrap_succ (by omega)
     rw [cQ] at bI
     exact ⟨ab.length - (k + 1), by omega, k + 1, rfl, by omega, fun q hq cP => by rcases Nat.lt_succ_iff_lt_or_eq.1 hq with h_ | h_; exact hz q h_ cP; rw [h_] at cP ⊢; first | assumption | omega, bI.pk, ae, cG⟩
   ·
    have em := of_decide_eq_false cu
    refine wp_exit ?_
    refine then_exit ?_
    refine then_exit ?_
    refine block_exit ?_
    refine then_normal ?_
    refine go_sp [(4, .v (.bool true))] ae aX fun fp cR => ?_
    clear aX
    refine wp_ret ?_
    refine block_ret ?_
    refine then_ret ?_
    refine leave cR ae.cells (v := .bool true) kz ?_
    refine ⟨congrArg (fun b_ => Ending.returned (Value.bool b_)) ?_, ae.step⟩
    first
     | (rw [usual_0 (by assumption)]; simp only [and1]; done)
     | (rw [usual_7 (by assumption) (by assumption)]; exact zero16_true hz (by omega); done)
     | (rw [usual_7 (by assumption) (by assumption)]; exact zero16_false (k := k) (by omega) (by omega) (by assumption); done)
     | (rw [usual_89n (by assumption) (by assumption) (by omega) (by assumption)]; done)
     | (rw [usual_89 (by assumption) (by assumption) (by omega) (by assumption)]; done)
     | (rw [usual_11 (by assumption) (by assumption) (by assumption) (by assumption) (by assumption)]; done)
     | (rw [usual_10 (by assumption) (by assumption) (by assumption) (by assumption) (by assumption) (by assumption), huu, usuals_end (by omega), Bool.true_and]; done)
     | (rw [usual_else (by assumption) (by assumption) (by assumption) (by assumption) (by assumption) (by assumption)]; done)
  ·
   have eo : k1 ≠ 7 := by simpa using cr
   refine wp_seq ?_
   refine go_sp [(2, .p 0 0), (3, .p 1 0), (10, .v (.int .i64 k1)), (36, .v (.bool (k1 == 8)))] aa aW fun fq ag => ?_
   clear aW
   refine cond_of ag (b := k1 == 8) kz (fun aN => ?_) (fun aN => ?_)
   ·
    have ep : k1 = 8 := by simpa using aN
    refine wp_skip ?_
    refine then_normal ?_
    refine cond_true ag (b := k1 == 8) kz (aN) ?_
    refine wp_seq ?_
    refine go_sp [(3, .p 1 0), (41, .v (.bool (decide (y4 ≥ 0))))] aa ag fun fr ao => ?_
    clear ag
    refine cond_of ao (b := decide (y4 ≥ 0)) kz (fun bd => ?_) (fun bd => ?_)
    ·
     have eu := of_decide_eq_true bd
     refine go_sp [(4, .v (.bool aM))] aa ao fun ft cS => ?_
     clear ao
     refine wp_ret ?_
     refine then_ret ?_
     refine block_ret ?_
     refine then_ret ?_
     refine leave cS aa.cells (v := .bool aM) kz ?_
     refine ⟨congrArg (fun b_ => Ending.returned (Value.bool b_)) ?_, aa.step⟩
     first
      | (rw [usual_0 (by assumption)]; simp only [and1]; done)
      | (rw [usual_7 (by assumption) (by assumption)]; exact zero16_true hz (by omega); done)
      | (rw [usual_7 (by assumption) (by assumption)]; exact zero16_false (k := k) (by omega) (by omega) (by assumption); done)
      | (rw [usual_89n (by assumption) (by assumption) (by omega) (by assumption)]; done)
      | (rw [usual_89 (by assumption) (by assumption) (by omega) (by assumption)]; done)
      | (rw [usual_11 (by assumption) (by assumption) (by assumption) (by assumption) (by assumption)]; done)
      | (rw [usual_10 (by assumption) (by assumption) (by assumption) (by assumption) (by assumption) (by assumption), huu, usuals_end (by omega), Bool.true_and]; done)
      | (rw [usual_else (by assumption) (by assumption) (by assumption) (by assumption) (by assumption) (by assumption)]; done)
    ·
     have ev := of_decide_eq_false bd
     refine wp_skip ?_
     refine then_normal ?_
     refine go_sp [(4, .v (.bool (((ab.length : Nat) : Int) == 0)))] aa ao fun fu cT => ?_
     clear ao
     refine wp_ret ?_
     refine block_ret ?_
     refine then_ret ?_
     refine leave cT aa.cells (v := .bool (((ab.length : Nat) : Int) == 0)) kz ?_
     refine ⟨congrArg (fun b_ => Ending.returned (Value.bool b_)) ?_, aa.step⟩
     first
      | (rw [usual_0 (by assumption)]; simp only [and1]; done)
      | (rw [usual_7 (by assumption) (by assumption)]; exact zero16_true hz (by omega); done)
      | (rw [usual_7 (by assumption) (by assumption)]; exact zero16_false (k := k) (by omega) (by omega) (by assumption); done)
      | (rw [usual_89n (by assumption) (by assumption) (by omega) (by assumption)]; done)
      | (rw [usual_89 (by assumption) (by assumption) (by omega) (by assumption)]; done)
      | (rw [usual_11 (by assumption) (by assumption) (by assumption) (by assumption) (by assumption)]; done)
      | (rw [usual_10 (by assumption) (by assumption) (by assumption) (by assumption) (by assumption) (by assumption), huu, usuals_end (by omega), Bool.true_and]; done)
      | (rw [usual_else (by assumption) (by assumption) (by assumption) (by assumption) (by assumption) (by assumption)]; done)
   ·
    have ew : k1 ≠ 8 := by simpa using aN
    refine go_region [0, 1] kz ?_
    refine go_rn [0, 1] [] [(2, .p 0 0), (3, .p 1 0), (10, .v (.int .i64 k1)), (36, .v (.bool (k1 == 9)))] aa ag fun fv ap => ?_
    clear ag
    refine wpOps_nil (then_normal ?_)
    refine cond_of ap (b := k1 == 9) kz (fun bf => ?_) (fun bf => ?_)
    ·
     have ey : k1 = 9 := by simpa using bf
     refine wp_seq ?_
     refine go_sp [(3, .p 1 0), (41, .v (.bool (decide (y4 ≥ 0))))] aa ap fun fw ar => ?_
     clear ap
     refine cond_of ar (b := decide (y4 ≥ 0)) kz (fun bg => ?_) (fun bg => ?_)
     ·
      have ez := of_decide_eq_true bg
      refine go_sp [(4, .v (.bool aM))] aa ar fun fx cV => ?_
      clear ar
      refine wp_ret ?_
      refine then_ret ?_
      refine block_ret ?_
      refine then_ret ?_
      refine leave cV aa.cells (v := .bool aM) kz ?_
      refine ⟨congrArg (fun b_ => Ending.returned (Value.bool b_)) ?_, aa.step⟩
      first
       | (rw [usual_0 (by assumption)]; simp only [and1]; done)
       | (rw [usual_7 (by assumption) (by assumption)]; exact zero16_true hz (by omega); done)
       | (rw [usual_7 (by assumption) (by assumption)]; exact zero16_false (k := k) (by omega) (by omega) (by assumption); done)
       | (rw [usual_89n (by assumption) (by assumption) (by omega) (by assumption)]; done)
       | (rw [usual_89 (by assumption) (by assumption) (by omega) (by assumption)]; done)
       | (rw [usual_11 (by assumption) (by assumption) (by assumption) (by assumption) (by assumption)]; done)
       | (rw [usual_10 (by assumption) (by assumption) (by assumption) (by assumption) (by assumption) (by assumption), huu, usuals_end (by omega), Bool.true_and]; done)
       | (rw [usual_else (by assumption) (by assumption) (by assumption) (by assumption) (by assumption) (by assumption)]; done)
     ·
      have eA := of_decide_eq_false bg
      refine wp_skip ?_
      refine then_normal ?_
      refine go_sp [(4, .v (.bool (((ab.length : Nat) : Int) == 0)))] aa ar fun fy cW => ?_
      clear ar
      refine wp_ret ?_
      refine block_ret ?_
      refine then_ret ?_
      refine leave cW aa.cells (v := .bool (((ab.length : Nat) : Int) == 0)) kz ?_
      refine ⟨congrArg (fun b_ => Ending.returned (Value.bool b_)) ?_, aa.step⟩
      first
       | (rw [usual_0 (by assumption)]; simp only [and1]; done)
       | (rw [usual_7 (by assumption) (by assumption)]; exact zero16_true hz (by omega); done)
       | (rw [usual_7 (by assumption) (by assumption)]; exact zero16_false (k := k) (by omega) (by omega) (by assumption); done)
       | (rw [usual_89n (by assumption) (by assumption) (by omega) (by assumption)]; done)
       | (rw [usual_89 (by assumption) (by assumption) (by omega) (by assumption)]; done)
       | (rw [usual_11 (by assumption) (by assumption) (by assumption) (by assumption) (by assumption)]; done)
       | (rw [usual_10 (by assumption) (by assumption) (by assumption) (by assumption) (by assumption) (by assumption), huu, usuals_end (by omega), Bool.true_and]; done)
       | (rw [usual_else (by assumption) (by assumption) (by assumption) (by assumption) (by assumption) (by assumption)]; done)
    ·
     have eB : k1 ≠ 9 := by simpa using bf
     refine go_sp [(2, .p 0 0), (3, .p 1 0), (10, .v (.int .i64 k1)), (48, .v (.bool (k1 == 11)))] aa ap fun fz au => ?_
     clear ap
     refine cond_of au (b := k1 == 11) kz (fun bh => ?_) (fun bh => ?_)
     ·
      have eC : k1 = 11 := by simpa using bh
      refine go_sp [(4, .v (.bool (((aU.length : Nat) : Int) == 0)))] aa au fun fA cX => ?_
      clear au
      refine wp_ret ?_
      refine block_ret ?_
      refine then_ret ?_
      refine leave cX aa.cells (v := .bool (((aU.length : Nat) : Int) == 0)) kz ?_
      refine ⟨congrArg (fun b_ => Ending.returned (Value.bool b_)) ?_, aa.step⟩
      first
       | (rw [usual_0 (by assumption)]; simp only [and1]; done)
       | (rw [usual_7 (by assumption) (by assumption)]; exact zero16_true hz (by omega); done)
       | (rw [usual_7 (by assumption) (by assumption)]; exact zero16_false (k := k) (by omega) (by omega) (by assumption); done)
       | (rw [usual_89n (by assumption) (by assumption) (by omega) (by assumption)]; done)
       | (rw [usual_89 (by assumption) (by assumption) (by omega) (by assumption)]; done)
       | (rw [usual_11 (by assumption) (by assumption) (by assumption) (by assumption) (by assumption)]; done)
       | (rw [usual_10 (by assumption) (by assumption) (by assumption) (by assumption) (by assumption) (by assumption), huu, usuals_end (by omega), Bool.true_and]; done)
       | (rw [usual_else (by assumption) (by assumption) (by assumption) (by assumption) (by assumption) (by assumption)]; done)
     ·
      have eD : k1 ≠ 11 := by simpa using bh
      refine go_sp [(2, .p 0 0), (3, .p 1 0), (54, .v (.bool (k1 == 10)))] aa au fun fB av => ?_
      clear au
      refine cond_of av (b := k1 == 10) kz (fun bi => ?_) (fun bi => ?_)
      ·
       have eE : k1 = 10 := by simpa using bi
       refine wp_seq ?_
       refine go_sp [(2, .p 0 0), (3, .p 1 0), (57, .v (.slice A9 l8.length aK)), (58, .v (.int .i64 ((l8.length : Nat) : Int))), (59, .v (.int .i64 0))] aa av fun fC bJ => ?_
       clear av
       refine wp_block ?_
       refine wp_loop_ghost (fun n_ a_ w_ => ∃ (k : Nat), n_ = l8.length - k ∧ k ≤ l8.length ∧ (usuals l8 (Tree.mk af ab aM aU aL) 0 = usuals (l8.drop k) (Tree.mk af ab aM aU aL) k) ∧ LInv aa 91 [⟨dK, 0, [.int .i64 k1, .int .i64 y2, .int .i64 y3, .int .i64 y4, .int .i64 y5, .int .i64 y6, .int .i64 y7, .slice A9 l8.length aK], true⟩, ⟨dL, 0, [.int .i64 af, .slice ak ab.length al, .bool aM, .slice cv aU.length cw, .slice bE aL.length bF], true⟩] [] [(2, .p 0 0), (3, .p 1 0), (57, .v (.slice A9 l8.length aK)), (58, .v (.int .i64 ((l8.length : Nat) : Int))), (59, .v (.int .i64 ((k : Nat) : Int)))] a_ w_) (l8.length) ⟨0, by omega, by omega, rfl, bJ.pk, aa, Fr.refl _ _ _⟩ ?_
       clear bJ
       rintro fD fE fF ⟨k, eF, eG, huu, bK, ac, cY⟩
       refine go_sp [(2, .p 0 0), (3, .p 1 0), (57, .v (.slice A9 l8.length aK)), (58, .v (.int .i64 ((l8.length : Nat) : Int))), (59, .v (.int .i64 ((k : Nat) : Int))), (60, .v (.bool (decide (((k : Nat) : Int) < ((l8.length : Nat) : Int)))))] ac bK fun fG aw => ?_
       clear bK
       refine wp_seq ?_
       refine cond_of aw (b := decide (((k : Nat) : Int) < ((l8.length : Nat) : Int))) kz (fun bj => ?_) (fun bj => ?_)
       ·
        have eH := of_decide_eq_true bj
        refine wp_skip ?_
        refine then_normal ?_
        refine wp_seq ?_
        refine wp_block ?_
        refine go_seq_region [0, 1, 2, 3, 4, 5] kz ?_
        refine go_rn [0] [1, 2, 3, 4, 5] [(2, .p 0 0), (3, .p 1 0), (57, .v (.slice A9 l8.length aK)), (58, .v (.int .i64 ((l8.length : Nat) : Int))), (59, .v (.int .i64 ((k : Nat) : Int))), (61, .v (.int .i64 ((k : Nat) : Int)))] ac aw fun fH bL => ?_
        clear aw
        obtain ⟨dO, dP, cZ, eI, bk⟩ := Slots.get dJ (i := k) (by omega)
        obtain ⟨dQ, aO⟩ : ∃ x, l8[k]? = some x := ⟨_, List.getElem?_eq_getElem (by omega)⟩
        have bn := ec k dQ aO
        obtain ⟨ax, ay, aA, aB, aC, aD, aE, aF, aS, aT, eJ, rfl, bp, dR, fI⟩ := bn.open_
        rw [bp] at bn
        have dS := dR.small
        rw [bp] at bk
        refine of_op (wpOp_index bL (t := 29) (A := A9) (m := l8.length) (q := ((k : Nat) : Int)) (d := 62) kz (e := 51) (size := 8) (bytes := 80) kz cZ rfl (by omega) fun fJ bM => ?_)
        clear bL
        refine of_op (wpOp_load bM (t := 51) (b := dO) (o := dP + k * 8) (d := 63) kz (cs := [.int .i64 ax, .int .i64 ay, .int .i64 aA, .int .i64 aB, .int .i64 aC, .int .i64 aD, .int .i64 aE, .slice aS aF.length aT]) (v := .agg #[.int .i64 ax, .int .i64 ay, .int .i64 aA, .int .i64 aB, .int .i64 aC, .int .i64 aD, .int .i64 aE, .slice aS aF.length aT]) kz (AtF.move bk ac.step nilM keepF).at_ fun fK bN => ?_)
        clear bM
        refine of_op (wpOp_alloc ac bN (d := 8) (cs := [.int .i64 0, .int .i64 0, .int .i64 0, .int .i64 0, .int .i64 0, .int .i64 0, .int .i64 0, .slice none 0 0]) kz fun fL fM fN eK eL c5 bq bO => ?_)
        clear bN ac
        refine go_rn [4] [5] [(2, .p 0 0), (3, .p 1 0), (7, .v (.int .i64 ((k : Nat) : Int))), (8, .p 2 0), (57, .v (.slice A9 l8.length aK)), (58, .v (.int .i64 ((l8.length : Nat) : Int))), (59, .v (.int .i64 ((k : Nat) : Int))), (63, .v (.agg #[.int .i64 ax, .int .i64 ay, .int .i64 aA, .int .i64 aB, .int .i64 aC, .int .i64 aD, .int .i64 aE, .slice aS aF.length aT]))] bq bO fun fO bP => ?_
        clear bO
        refine of_op (wpOp_store bq bP (oi := 2) (cs := [.int .i64 ax, .int .i64 ay, .int .i64 aA, .int .i64 aB, .int .i64 aC, .int .i64 aD, .int .i64 aE, .slice aS aF.length aT]) kz fun fP da bQ bR => ?_)
        clear bP bq
        refine wpOps_nil (then_normal ?_)
        refine go_seq_drawK 6 kz bQ fun fQ db aG dc => ?_
        clear bQ
        refine go_rnD [0, 1, 2] [(2, .p 0 0), (3, .p 1 0), (57, .v (.slice A9 l8.length aK)), (58, .v (.int .i64 ((l8.length : Nat) : Int))), (59, .v (.int .i64 ((k : Nat) : Int))), (64, .v (.agg #[.int .i64 ax, .int .i64 ay, .int .i64 aA, .int .i64 aB, .int .i64 aC, .int .i64 aD, .int .i64 aE, .slice aS aF.length aT])), (65, .v (.agg #[.int .i64 af, .slice ak ab.length al, .bool aM, .slice cv aU.length cw, .slice bE aL.length bF])), (66, .v (.int .i64 ((k : Nat) : Int)))] 3 (panicFree_then (panicFree_block (panicFree_then (panicFree_then (panicFree_block (panicFree_then (panicFree_block (panicFree_then panicFree_body)))))))) (fun _ h => h.cells) dc bR fun fR bS => ?_
        clear bR
        refine anyC_op (i := 3) kz (wpOp_call bS (f := 37) (vs := [.agg #[.int .i64 af, .slice ak ab.length al, .bool aM, .slice cv aU.length cw, .slice bE aL.length bF], .int .i64 ((k : Nat) : Int)]) (d := 67) kz Tryz.call37 (sAt _ _ k _ _ (ht.move aG.step nilM aG.imm)) ?_)
        rintro e_ fS ⟨eM, rfl, de, aH⟩
        have br := de.move aH nilM (fun b o h_ hb_ => aG.laid (G := F) aH b o (.inl h_) (Nat.lt_of_lt_of_le hb_ aH.size))
        obtain ⟨dT, dU, dV, dW, dX, dY, dZ, d4, d5, d6, d7, eN, eO, bt, d8, d9, fT, fU⟩ := br.open_
        rw [bt] at br
        have ea := d8.small
        have eb := d9.small
        rw [bt]
        refine ⟨_, rfl, fun fV bT => ?_⟩
        have ah := aG.next_nil aH
        have bu := aG.frN aH
        clear bS
        have df := TT.ofW bu ah
        refine ⟨fun _ => df, ?_⟩
        refine anyC_op (i := 4) kz (wpOp_call bT (f := 92) (vs := [.agg #[.int .i64 ax, .int .i64 ay, .int .i64 aA, .int .i64 aB, .int .i64 aC, .int .i64 aD, .int .i64 aE, .slice aS aF.length aT], .agg #[.int .i64 dT, .slice dY dU.length dZ, .bool dV, .slice d4 dW.length d5, .slice d6 dX.length d7]]) (d := 68) kz Tryz.call92 ( hu _ _ _ _ _ _ (bn.move ah.step nilM ah.imm) (by have h_ := depths_get aO; rw [depth_mk] at hd; omega) br) ?_)
        rintro e_ fW ⟨rfl, bU⟩
        refine ⟨_, rfl, fun fX bV => ?_⟩
        have ai := ah.next_nil bU
        have bW := ah.frN bU
        clear bT ah
        have bX := TT.ofW (bu.trans bW) ai
        refine ⟨fun _ => bX, ?_⟩
        refine go_rnD [5] [(2, .p 0 0), (3, .p 1 0), (57, .v (.slice A9 l8.length aK)), (58, .v (.int .i64 ((l8.length : Nat) : Int))), (59, .v (.int .i64 ((k : Nat) : Int))), (69, .v (.bool (!(Fld.usual (Fld.mk ax ay aA aB aC aD aE aF) (Tree.at_ (Tree.mk af ab aM aU aL) k)))))] 0 (panicFree_then (panicFree_block (panicFree_then (panicFree_then (panicFree_block (panicFree_then (panicFree_block (panicFree_then panicFree_body)))))))) (fun _ h => h.cells) bX bV fun fY aI => ?_
        clear bV
        refine anyC_done kz ?_ _
        refine then_normal ?_
        refine cond_of aI (b := !(Fld.usual (Fld.mk ax ay aA aB aC aD aE aF) (Tree.at_ (Tree.mk af ab aM aU aL) k))) kz (fun bv => ?_) (fun bv => ?_)
        ·
         refine go_sp [(4, .v (.bool false))] ai aI fun fZ dg => ?_
         clear aI
         refine wp_ret ?_
         refine block_ret ?_
         refine then_ret ?_
         refine then_ret ?_
         refine block_ret ?_
         refine then_ret ?_
         refine block_ret ?_
         refine then_ret ?_
         refine leave dg ai.cells (v := .bool false) kz ?_
         refine ⟨congrArg (fun b_ => Ending.returned (Value.bool b_)) ?_, ai.step⟩
         first
          | (rw [usual_0 (by assumption)]; simp only [and1]; done)
          | (rw [usual_7 (by assumption) (by assumption)]; exact zero16_true hz (by omega); done)
          | (rw [usual_7 (by assumption) (by assumption)]; exact zero16_false (k := k) (by omega) (by omega) (by assumption); done)
          | (rw [usual_89n (by assumption) (by assumption) (by omega) (by assumption)]; done)
          | (rw [usual_89 (by assumption) (by assumption) (by omega) (by assumption)]; done)
          | (rw [usual_11 (by assumption) (by assumption) (by assumption) (by assumption) (by assumption)]; done)
          | (rw [usual_10 (by assumption) (by assumption) (by assumption) (by assumption) (by assumption) (by assumption), huu, usuals_end (by omega), Bool.true_and]; done)
          | (rw [usual_else (by assumption) (by assumption) (by assumption) (by assumption) (by assumption) (by assumption)]; done)
          | (rw [usual_10 (by assumption) (by assumption) (by assumption) (by assumption) (by assumption) (by assumption), huu, usuals_stop aO (by simpa using bv), Bool.false_and]; done)
        ·
         refine wp_skip ?_
         refine block_normal ?_
         refine then_normal ?_
         refine go_region [0, 1] kz ?_
         refine go_rn [0, 1] [] [(2, .p 0 0), (3, .p 1 0), (57, .v (.slice A9 l8.length aK)), (58, .v (.int .i64 ((l8.length : Nat) : Int))), (59, .v (.int .i64 (IntKind.i64.wrap (((k : Nat) : Int) + 1))))] ai aI fun f0 dh => ?_
         clear aI
         refine wpOps_nil (then_normal ?_)
         obtain ⟨bY, di, dj⟩ := ai.cutB dh 2 [⟨dK, 0, [.int .i64 k1, .int .i64 y2, .int .i64 y3, .int .i64 y4, .int .i64 y5, .int .i64 y6, .int .i64 y7, .slice A9 l8.length aK], true⟩, ⟨dL, 0, [.int .i64 af, .slice ak ab.length al, .bool aM, .slice cv aU.length cw, .slice bE aL.length bF], true⟩] [(2, .p 0 0), (3, .p 1 0), (57, .v (.slice A9 l8.length aK)), (58, .v (.int .i64 ((l8.length : Nat) : Int))), (59, .v (.int .i64 (IntKind.i64.wrap (((k : Nat) : Int) + 1))))]
         have dl : IntKind.i64.wrap (((k : Nat) : Int) + 1) = ((k + 1 : Nat) : Int) := wrap_succ (by omega)
         rw [dl] at bY
         exact ⟨l8.length - (k + 1), by omega, k + 1, rfl, by omega, by rw [huu]; exact usuals_step aO (by simpa using bv), bY.pk, di, ((((((cY.trans c5).trans da).trans db).trans bu).trans bW).trans dj)⟩
       ·
        have eP := of_decide_eq_false bj
        refine wp_exit ?_
        refine then_exit ?_
        refine then_exit ?_
        refine block_exit ?_
        refine then_normal ?_
        refine go_seq_region [0, 1, 2, 3, 4, 5, 6, 7] kz ?_
        refine go_rn [0, 1, 2, 3] [4, 5, 6, 7] [(72, .v (.slice A9 l8.length aK)), (74, .v (.slice bE aL.length bF))] ac aw fun f5 bZ => ?_
        clear aw
        refine of_op (wpOp_call bZ (f := 38) (vs := [.slice A9 l8.length aK, .slice bE aL.length bF]) (d := 75) kz Tryz.call38 (sUnknown _ _ l8 _ _ aL _ _ ⟨dI, (dJ.move ac.step nilM ac.imm), (fun i_ x_ h_ => ((ec i_ x_ h_).move ac.step nilM ac.imm))⟩ (eW.move ac.step nilM ac.imm)) ?_)
        rintro e_ f8 ⟨f9, ga, rfl, dp, bw⟩
        have eQ := dp.move (Step.refl _ Nil) nilM (ac.laid (G := F) bw)
        refine ⟨_, rfl, fun gb b0 => ?_⟩
        have bz := ac.next_nil bw
        have eR := ac.frN bw
        clear bZ
        refine go_rn [5, 6, 7] [] [(4, .v (.bool ((((unknownT l8 aL).length : Nat) : Int) == 0)))] bz b0 fun gc dq => ?_
        clear b0
        refine wpOps_nil (then_normal ?_)
        refine wp_ret ?_
        refine block_ret ?_
        refine then_ret ?_
        refine leave dq bz.cells (v := .bool ((((unknownT l8 aL).length : Nat) : Int) == 0)) kz ?_
        refine ⟨congrArg (fun b_ => Ending.returned (Value.bool b_)) ?_, bz.step⟩
        first
         | (rw [usual_0 (by assumption)]; simp only [and1]; done)
         | (rw [usual_7 (by assumption) (by assumption)]; exact zero16_true hz (by omega); done)
         | (rw [usual_7 (by assumption) (by assumption)]; exact zero16_false (k := k) (by omega) (by omega) (by assumption); done)
         | (rw [usual_89n (by assumption) (by assumption) (by omega) (by assumption)]; done)
         | (rw [usual_89 (by assumption) (by assumption) (by omega) (by assumption)]; done)
         | (rw [usual_11 (by assumption) (by assumption) (by assumption) (by assumption) (by assumption)]; done)
         | (rw [usual_10 (by assumption) (by assumption) (by assumption) (by assumption) (by assumption) (by assumption), huu, usuals_end (by omega), Bool.true_and]; done)
         | (rw [usual_else (by assumption) (by assumption) (by assumption) (by assumption) (by assumption) (by assumption)]; done)
      ·
       have eS : k1 ≠ 10 := by simpa using bi
       refine wp_skip ?_
       refine block_normal ?_
       refine then_normal ?_
       refine go_seq_drawK 13 kz aa fun gd eT b5 dr => ?_
       clear aa
       refine go_rnD [0, 1, 2, 3, 6, 7, 8, 9] [(79, .v (.int .i64 af)), (81, .v (.int .i64 k1)), (85, .v (.int .i64 y6)), (87, .v (.int .i64 k1))] 6 (panicFree_then panicFree_body) (fun _ h => h.cells) dr av fun ge b6 => ?_
       clear av
       refine anyC_op (i := 4) kz (wpOp_call b6 (f := 132) (vs := [.int .i64 k1]) (d := 82) kz Tryz.call132 (sWidth k1 _) ?_)
       rintro e_ gf ⟨rfl, b8⟩
       refine ⟨_, rfl, fun gg ca => ?_⟩
       have bA := b5.next_nil b8
       have aJ := b5.frN b8
       clear b6
       have dt := TT.ofW aJ bA
       refine ⟨fun _ => dt, ?_⟩
       refine anyC_op (i := 5) kz (wpOp_call ca (f := 131) (vs := [.int .i64 af, .int .i64 ((widthI k1 : Nat) : Int)]) (d := 83) kz Tryz.call131 (sFixed af (widthI k1) (by first | decide | exact widthI_le _ | omega) _) ?_)
       rintro e_ gh ⟨du, dv, rfl, dw, dx⟩
       refine ⟨_, rfl, fun gi cb => ?_⟩
       obtain ⟨aP, aQ⟩ := bA.frFresh dx (brow du dv 5 (be (widthI k1) af)) (Nat.le_refl _) dw
       clear ca bA
       have dy := TT.ofW (aJ.trans aQ) aP
       refine ⟨fun _ => dy, ?_⟩
       refine anyC_op (i := 10) kz (wpOp_call cb (f := 132) (vs := [.int .i64 k1]) (d := 88) kz Tryz.call132 (sWidth k1 _) ?_)
       rintro e_ gj ⟨rfl, cc⟩
       refine ⟨_, rfl, fun gk cd => ?_⟩
       have bB := aP.next_nil cc
       have bC := aP.frN cc
       clear cb aP
       have dz := TT.ofW ((aJ.trans aQ).trans bC) bB
       refine ⟨fun _ => dz, ?_⟩
       refine anyC_op (i := 11) kz (wpOp_call cd (f := 131) (vs := [.int .i64 y6, .int .i64 ((widthI k1 : Nat) : Int)]) (d := 89) kz Tryz.call131 (sFixed y6 (widthI k1) (by first | decide | exact widthI_le _ | omega) _) ?_)
       rintro e_ gl ⟨dA, dB, rfl, dC, dD⟩
       refine ⟨_, rfl, fun gm ce => ?_⟩
       obtain ⟨aj, cg⟩ := bB.frFresh dD (brow dA dB 5 (be (widthI k1) y6)) (Nat.le_refl _) dC
       clear cd bB
       have dE := TT.ofW (((aJ.trans aQ).trans bC).trans cg) aj
       refine ⟨fun _ => dE, ?_⟩
       refine anyC_op (i := 12) kz (wpOp_call ce (f := 12) (vs := [.slice du ((be (widthI k1) af).length) dv, .slice dA ((be (widthI k1) y6).length) dB]) (d := 90) kz Tryz.call12 (sSame _ _ _ _ (be (widthI k1) af) (be (widthI k1) y6) _ _ (octs_own (aj.own 0 _ rfl) (by first | omega | (simp only [be_length]; exact Nat.le_trans (widthI_le _) (by decide)) | (have := hroom; omega) | (have := hmade; omega)) (F := fun _ _ => True) (fun _ _ _ => trivial)) (octs_own (aj.own 1 _ rfl) (by first | omega | (simp only [be_length]; exact Nat.le_trans (widthI_le _) (by decide)) | (have := hroom; omega) | (have := hmade; omega)) (F := fun _ _ => True) (fun _ _ _ => trivial))) ?_)
       rintro e_ gn ⟨rfl, cl⟩
       refine ⟨_, rfl, fun gp cm => ?_⟩
       have aR := aj.next_nil cl
       have dF := aj.frN cl
       clear ce aj
       have dG := TT.ofW ((((aJ.trans aQ).trans bC).trans cg).trans dF) aR
       refine ⟨fun _ => dG, ?_⟩
       refine anyC_op (i := 13) kz (wpOp_pure [4] aR.cells cm (env' := [(4, .v (.bool (decide (be (widthI k1) af = be (widthI k1) y6))))]) kz fun gq dH => ?_)
       clear cm
       refine ⟨fun h => absurd rfl h, ?_⟩
       refine anyC_done kz ?_ _
       refine then_normal ?_
       refine wp_ret ?_
       refine leave dH aR.cells (v := .bool (decide (be (widthI k1) af = be (widthI k1) y6))) kz ?_
       refine ⟨congrArg (fun b_ => Ending.returned (Value.bool b_)) ?_, aR.step⟩
       first
        | (rw [usual_0 (by assumption)]; simp only [and1]; done)
        | (rw [usual_7 (by assumption) (by assumption)]; exact zero16_true hz (by omega); done)
        | (rw [usual_7 (by assumption) (by assumption)]; exact zero16_false (k := k) (by omega) (by omega) (by assumption); done)
        | (rw [usual_89n (by assumption) (by assumption) (by omega) (by assumption)]; done)
        | (rw [usual_89 (by assumption) (by assumption) (by omega) (by assumption)]; done)
        | (rw [usual_11 (by assumption) (by assumption) (by assumption) (by assumption) (by assumption)]; done)
        | (rw [usual_10 (by assumption) (by assumption) (by assumption) (by assumption) (by assumption) (by assumption), huu, usuals_end (by omega), Bool.true_and]; done)
        | (rw [usual_else (by assumption) (by assumption) (by assumption) (by assumption) (by assumption) (by assumption)]; done)
theorem sUsual : ∀ d, UsualOK d
 | 0 => fun cf f ct t w F hf hd ht => by
  obtain ⟨k, x1, x2, x3, x4, x5, x6, l, A, c, xs, rfl, _⟩ := hf.open_
  rw [depth_mk] at hd; omega
 | d + 1 => sUsual_step (sUsual d)
theorem sPart (W : Fld → Tree → Bs) (A : Option Addr) (c : Nat) (l : List Fld) (v : Int) (flex : Bool) (ct : List Value) (t : Tree) (w : World) (F : Nat → Nat → Prop) (hW_ : ∀ cf f ct t w F, f ∈ l → FldR w F cf f → TreeR w F ct t → (W f t).length ≤ 1099511627776 → Calls Tryz.prog 91 #[.agg cf.toArray, .int .i64 v, .bool flex, .agg ct.toArray] w (FreshB w 5 (W f t))) (hl : FldsR w F A c l) (ht : TreeR w F ct t) (hroom : (partW W l v flex t).length ≤ 1099511627776) :
  Calls Tryz.prog 40 #[.slice A l.length c, .int .i64 v, .bool flex, .agg ct.toArray] w (FreshB w 5 (partW W l v flex t)) := by
 obtain ⟨xfs, h1, h2⟩ := hl.ex
 have hsm := h1.small
 obtain ⟨n1, s2, b3, l4, u5, A6, c7, A8, c9, aW, aX, lz, rfl, rfl, lA, lB, oy, lC⟩ := ht.open_
 have kG := lA.small
 have kH := lB.small
 have hkr := known_range l
 refine enter (n := 132) Tryz.func40 rfl Tryz.ntmps40 kz fun a hE => ?_
 have hW := WOk.start w Nil
 refine go_seq_region [0, 1] kz ?_
 refine of_op (wpOp_box hW hE (d := 7) (cs := [.int .i64 n1, .slice A6 s2.length c7, .bool b3, .slice A8 l4.length c9, .slice aW u5.length aX]) kz fun cL oz oA lD lE lF bX gA => ?_)
 clear hE hW
 refine go_rn [1] [] [(0, .v (.slice A l.length c)), (1, .v (.int .i64 v)), (2, .v (.bool flex)), (7, .p 0 0)] bX gA fun oB gB => ?_
 clear gA
 refine wpOps_nil (then_normal ?_)
 refine go_sp [(0, .v (.slice A l.length c)), (1, .v (.int .i64 v)), (2, .v (.bool flex)), (7, .p 0 0), (9, .v (.slice none 0 0)), (10, .v (.slice none 0 0))] bX gB fun oC gC => ?_
 clear gB
 refine go_sp [(0, .v (.slice A l.length c)), (1, .v (.int .i64 v)), (2, .v (.bool flex)), (7, .p 0 0), (9, .v (.slice none 0 0)), (10, .v (.slice none 0 0)), (11, .v (.int .i64 0))] bX gC fun oD gD => ?_
 clear gC
 refine wp_seq ?_
 refine go_sp [(0, .v (.slice A l.length c)), (1, .v (.int .i64 v)), (2, .v (.bool flex)), (7, .p 0 0), (9, .v (.slice none 0 0)), (10, .v (.slice none 0 0)), (11, .v (.int .i64 0)), (21, .v (.slice A l.length c)), (22, .v (.int .i64 ((l.length : Nat) : Int))), (23, .v (.int .i64 0))] bX gD fun oE gE => ?_
 clear gD
 refine wp_block ?_
 have gF := bX.addNil 5 1
 have lG := bX.frNil 5 1
 clear bX
 have htot : (bodyB W l v (Tree.mk n1 s2 b3 l4 u5) 0).length ≤ 1099511627776 := by have h_ := hroom; rw [partW, List.length_append] at h_; omega
 refine wp_loop_ghost (fun n_ a_ w_ => ∃ (k : Nat) (A_ : Option Addr) (c_ : Nat) (dn : Bs), n_ = l.length - k ∧ k ≤ l.length ∧ (dn ++ bodyB W (l.drop k) v (Tree.mk n1 s2 b3 l4 u5) k = bodyB W l v (Tree.mk n1 s2 b3 l4 u5) 0) ∧ LInv gF 132 [⟨cL, 0, [.int .i64 n1, .slice A6 s2.length c7, .bool b3, .slice A8 l4.length c9, .slice aW u5.length aX], true⟩] [brow A_ c_ 5 dn] [(0, .v (.slice A l.length c)), (1, .v (.int .i64 v)), (2, .v (.bool flex)), (7, .p 0 0), (9, .v (.slice A_ dn.length c_)), (10, .v (.slice none 0 0)), (11, .v (.int .i64 0)), (21, .v (.slice A l.length c)), (22, .v (.int .i64 ((l.length : Nat) : Int))), (23, .v (.int .i64 ((k : Nat) : Int)))] a_ w_) (l.length) ⟨0, none, 0, [], by omega, by omega, rfl, gE.pk, gF, Fr.refl _ _ _⟩ ?_
 clear gE
 rintro oF oG oH ⟨k, A_, c_, dn, lH, lI, hB, gG, ax, gf⟩
 refine go_sp [(0, .v (.slice A l.length c)), (1, .v (.int .i64 v)), (2, .v (.bool flex)), (7, .p 0 0), (9, .v (.slice A_ dn.length c_)), (10, .v (.slice none 0 0)), (11, .v (.int .i64 0)), (21, .v (.slice A l.length c)), (22, .v (.int .i64 ((l.length : Nat) : Int))), (23, .v (.int .i64 ((k : Nat) : Int))), (24, .v (.bool (decide (((k : Nat) : Int) < ((l.length : Nat) : Int)))))] ax gG fun oI cM => ?_
 clear gG
 refine wp_seq ?_
 refine cond_of cM (b := decide (((k : Nat) : Int) < ((l.length : Nat) : Int))) kz (fun gg => ?_) (fun gg => ?_)
 ·
  have lJ := of_decide_eq_true gg
  refine wp_skip ?_
  refine then_normal ?_
  refine wp_seq ?_
  refine wp_block ?_
  refine go_seq_region [0, 1, 2, 3, 4, 5] kz ?_
  refine go_rn [0] [1, 2, 3, 4, 5] [(0, .v (.slice A l.length c)), (1, .v (.int .i64 v)), (2, .v (.bool flex)), (7, .p 0 0), (9, .v (.slice A_ dn.length c_)), (10, .v (.slice none 0 0)), (11, .v (.int .i64 0)), (21, .v (.slice A l.length c)), (22, .v (.int .i64 ((l.length : Nat) : Int))), (23, .v (.int .i64 ((k : Nat) : Int))), (25, .v (.int .i64 ((k : Nat) : Int)))] ax cM fun oJ gH => ?_
  clear cM
  obtain ⟨lK, lL, jN, lM, dH⟩ := Slots.get h1 (i := k) (by omega)
  obtain ⟨lN, bn⟩ : ∃ x, l[k]? = some x := ⟨_, List.getElem?_eq_getElem (by omega)⟩
  have gh := h2 k lN bn
  obtain ⟨aB, aC, aD, aE, ay, aF, aG, aH, dE, dF, lO, rfl, dI, lP, oK⟩ := gh.open_
  rw [dI] at gh
  have kI := lP.small
  rw [dI] at dH
  refine of_op (wpOp_index gH (t := 29) (A := A) (m := l.length) (q := ((k : Nat) : Int)) (d := 26) kz (e := 51) (size := 8) (bytes := 80) kz jN rfl (by omega) fun oL gI => ?_)
  clear gH
  refine of_op (wpOp_load gI (t := 51) (b := lK) (o := lL + k * 8) (d := 27) kz (cs := [.int .i64 aB, .int .i64 aC, .int .i64 aD, .int .i64 aE, .int .i64 ay, .int .i64 aF, .int .i64 aG, .slice dE aH.length dF]) (v := .agg #[.int .i64 aB, .int .i64 aC, .int .i64 aD, .int .i64 aE, .int .i64 ay, .int .i64 aF, .int .i64 aG, .slice dE aH.length dF]) kz (AtF.move dH ax.step nilM keepF).at_ fun oM gJ => ?_)
  clear gI
  refine of_op (wpOp_alloc ax gJ (d := 13) (cs := [.int .i64 0, .int .i64 0, .int .i64 0, .int .i64 0, .int .i64 0, .int .i64 0, .int .i64 0, .slice none 0 0]) kz fun oN oO oP lQ lR gi gj gK => ?_)
  clear gJ ax
  refine go_rn [4] [5] [(0, .v (.slice A l.length c)), (1, .v (.int .i64 v)), (2, .v (.bool flex)), (7, .p 0 0), (9, .v (.slice A_ dn.length c_)), (10, .v (.slice none 0 0)), (11, .v (.int .i64 0)), (12, .v (.int .i64 ((k : Nat) : Int))), (13, .p 1 0), (21, .v (.slice A l.length c)), (22, .v (.int .i64 ((l.length : Nat) : Int))), (23, .v (.int .i64 ((k : Nat) : Int))), (27, .v (.agg #[.int .i64 aB, .int .i64 aC, .int .i64 aD, .int .i64 aE, .int .i64 ay, .int .i64 aF, .int .i64 aG, .slice dE aH.length dF]))] gj gK fun oQ gL => ?_
  clear gK
  refine of_op (wpOp_store gj gL (oi := 1) (cs := [.int .i64 aB, .int .i64 aC, .int .i64 aD, .int .i64 aE, .int .i64 ay, .int .i64 aF, .int .i64 aG, .slice dE aH.length dF]) kz fun oR gk bp gM => ?_)
  clear gL gj
  refine wpOps_nil (then_normal ?_)
  refine go_seq_region [0, 1, 2, 3, 4, 5, 6, 7] kz ?_
  refine go_rn [0, 1, 2, 3] [4, 5, 6, 7] [(0, .v (.slice A l.length c)), (1, .v (.int .i64 v)), (2, .v (.bool flex)), (7, .p 0 0), (9, .v (.slice A_ dn.length c_)), (10, .v (.slice none 0 0)), (11, .v (.int .i64 0)), (12, .v (.int .i64 ((k : Nat) : Int))), (13, .p 1 0), (21, .v (.slice A l.length c)), (22, .v (.int .i64 ((l.length : Nat) : Int))), (23, .v (.int .i64 ((k : Nat) : Int))), (31, .v (.bool (decide (ay < 0))))] bp gM fun oS dG => ?_
  clear gM
  refine (Bool.eq_false_or_eq_true (decide (ay < 0))).elim (fun cN => ?_) (fun cN => ?_)
  ·
   have lS := of_decide_eq_true cN
   have gN := dG.cast (env' := [(0, .v (.slice A l.length c)), (1, .v (.int .i64 v)), (2, .v (.bool flex)), (7, .p 0 0), (9, .v (.slice A_ dn.length c_)), (10, .v (.slice none 0 0)), (11, .v (.int .i64 0)), (12, .v (.int .i64 ((k : Nat) : Int))), (13, .p 1 0), (21, .v (.slice A l.length c)), (22, .v (.int .i64 ((l.length : Nat) : Int))), (23, .v (.int .i64 ((k : Nat) : Int))), (31, .v (.bool true))]) (by rw [cN])
   clear dG
   refine go_rn [4, 5] [6, 7] [(0, .v (.slice A l.length c)), (1, .v (.int .i64 v)), (2, .v (.bool flex)), (7, .p 0 0), (9, .v (.slice A_ dn.length c_)), (10, .v (.slice none 0 0)), (11, .v (.int .i64 0)), (12, .v (.int .i64 ((k : Nat) : Int))), (13, .p 1 0), (21, .v (.slice A l.length c)), (22, .v (.int .i64 ((l.length : Nat) : Int))), (23, .v (.int .i64 ((k : Nat) : Int))), (31, .v (.bool true)), (32, .v (.agg #[.int .i64 aB, .int .i64 aC, .int .i64 aD, .int .i64 aE, .int .i64 ay, .int .i64 aF, .int .i64 aG, .slice dE aH.length dF])), (33, .v (.int .i64 v))] bp gN fun oT dJ => ?_
   clear gN
   refine of_op (wpOp_call dJ (f := 90) (vs := [.agg #[.int .i64 aB, .int .i64 aC, .int .i64 aD, .int .i64 aE, .int .i64 ay, .int .i64 aF, .int .i64 aG, .slice dE aH.length dF], .int .i64 v]) (d := 34) kz Tryz.call90 (sHas aB aC aD aE ay aF aG aH _ _ v _) ?_)
   rintro e_ lT ⟨rfl, dK⟩
   refine ⟨_, rfl, fun lU dL => ?_⟩
   have bq := bp.next_nil dK
   have dM := bp.frN dK
   clear dJ bp
   refine go_rn [7] [] [(0, .v (.slice A l.length c)), (1, .v (.int .i64 v)), (2, .v (.bool flex)), (7, .p 0 0), (9, .v (.slice A_ dn.length c_)), (10, .v (.slice none 0 0)), (11, .v (.int .i64 0)), (12, .v (.int .i64 ((k : Nat) : Int))), (13, .p 1 0), (21, .v (.slice A l.length c)), (22, .v (.int .i64 ((l.length : Nat) : Int))), (23, .v (.int .i64 ((k : Nat) : Int))), (35, .v (.bool (Fld.has (Fld.mk aB aC aD aE ay aF aG aH) v)))] bq dL fun lV br => ?_
   clear dL
   refine wpOps_nil (then_normal ?_)
   refine cond_of br (b := Fld.has (Fld.mk aB aC aD aE ay aF aG aH) v) kz (fun gO => ?_) (fun gO => ?_)
   ·
    refine go_drawK 9 kz bq fun lW gP bt gQ => ?_
    clear bq
    refine go_rnD [0, 1, 2, 3, 4, 5] [(0, .v (.slice A l.length c)), (1, .v (.int .i64 v)), (2, .v (.bool flex)), (7, .p 0 0), (9, .v (.slice A_ dn.length c_)), (10, .v (.slice none 0 0)), (11, .v (.int .i64 0)), (21, .v (.slice A l.length c)), (22, .v (.int .i64 ((l.length : Nat) : Int))), (23, .v (.int .i64 ((k : Nat) : Int))), (36, .v (.slice A_ dn.length c_)), (37, .v (.agg #[.int .i64 aB, .int .i64 aC, .int .i64 aD, .int .i64 aE, .int .i64 ay, .int .i64 aF, .int .i64 aG, .slice dE aH.length dF])), (38, .v (.int .i64 v)), (39, .v (.bool flex)), (40, .v (.agg #[.int .i64 n1, .slice A6 s2.length c7, .bool b3, .slice A8 l4.length c9, .slice aW u5.length aX])), (41, .v (.int .i64 ((k : Nat) : Int)))] 4 (panicFree_block (panicFree_then (panicFree_then (panicFree_block (panicFree_then panicFree_body))))) (fun _ h => h.cells) gQ br fun lX dN => ?_
    clear br
    refine anyC_op (i := 6) kz (wpOp_call dN (f := 37) (vs := [.agg #[.int .i64 n1, .slice A6 s2.length c7, .bool b3, .slice A8 l4.length c9, .slice aW u5.length aX], .int .i64 ((k : Nat) : Int)]) (d := 42) kz Tryz.call37 (sAt _ _ k _ _ (ht.move bt.step nilM bt.imm)) ?_)
    rintro e_ lY ⟨kJ, rfl, gR, bu⟩
    have cO := gR.move bu nilM (fun b o h_ hb_ => bt.laid (G := F) bu b o (.inl h_) (Nat.lt_of_lt_of_le hb_ bu.size))
    obtain ⟨gl, gm, gn, gp, gq, gt, gu, gv, gw, gx, gy, kK, kL, cP, jO, jP, lZ, l0⟩ := cO.open_
    rw [cP] at cO
    have jQ := jO.small
    have jR := jP.small
    rw [cP]
    refine ⟨_, rfl, fun l3 dO => ?_⟩
    have bv := bt.next_nil bu
    have ca := bt.frN bu
    clear dN
    have gS := TT.ofW ca bv
    refine ⟨fun _ => gS, ?_⟩
    refine anyC_op (i := 7) kz (wpOp_call dO (f := 91) (vs := [.agg #[.int .i64 aB, .int .i64 aC, .int .i64 aD, .int .i64 aE, .int .i64 ay, .int .i64 aF, .int .i64 aG, .slice dE aH.length dF], .int .i64 v, .bool flex, .agg #[.int .i64 gl, .slice gt gm.length gu, .bool gn, .slice gv gp.length gw, .slice gx gq.length gy]]) (d := 43) kz Tryz.call91 ( hW_ _ _ _ _ _ _ (List.mem_of_getElem? bn) (gh.move bv.step nilM bv.imm) cO (by have h_ := congrArg List.length hB; rw [bodyB_pos bn (by assumption) (by assumption)] at h_; simp only [List.length_append] at h_; omega)) ?_)
    rintro e_ l5 ⟨cQ, cR, rfl, gT, gU⟩
    refine ⟨_, rfl, fun l6 dP => ?_⟩
    obtain ⟨bw, cS⟩ := bv.frFresh gU (brow cQ cR 5 (W (Fld.mk aB aC aD aE ay aF aG aH) (Tree.at_ (Tree.mk n1 s2 b3 l4 u5) k))) (Nat.le_refl _) gT
    clear dO bv
    have jS : (W (Fld.mk aB aC aD aE ay aF aG aH) (Tree.at_ (Tree.mk n1 s2 b3 l4 u5) k)).length ≤ 1099511627776 := by have h_ := congrArg List.length hB; rw [bodyB_pos bn (by assumption) (by assumption)] at h_; simp only [List.length_append] at h_; omega
    have gV := TT.ofW (ca.trans cS) bw
    refine ⟨fun _ => gV, ?_⟩
    refine anyC_op (i := 8) kz (wpOp_append bw dP (k := 0) (d := 44) (t := 22) (e := 5) (size := 1) (bytes := 1) (A := A_) (As := cQ) (m0 := dn.length) (c := c_) (m := ((W (Fld.mk aB aC aD aE ay aF aG aH) (Tree.at_ (Tree.mk n1 s2 b3 l4 u5) k)).length)) (cs := cR) (xs := (bc dn)) (news := bc (W (Fld.mk aB aC aD aE ay aF aG aH) (Tree.at_ (Tree.mk n1 s2 b3 l4 u5) k))) kz kz rfl (own_src (bw.own 1 _ rfl) (bc_one _)) (own_cap (bw.own 1 _ rfl)) (by have h_ := congrArg List.length hB; rw [bodyB_pos bn (by assumption) (by assumption)] at h_; simp only [List.length_append] at h_ ⊢; omega) fun aY aZ l7 l9 dQ dR dS => ?_)
    clear dP bw
    have gW : (⟨aY, aZ, 5, 1, dn.length + (W (Fld.mk aB aC aD aE ay aF aG aH) (Tree.at_ (Tree.mk n1 s2 b3 l4 u5) k)).length, bc dn ++ bc (W (Fld.mk aB aC aD aE ay aF aG aH) (Tree.at_ (Tree.mk n1 s2 b3 l4 u5) k))⟩ : Rw) = brow aY aZ 5 (dn ++ (W (Fld.mk aB aC aD aE ay aF aG aH) (Tree.at_ (Tree.mk n1 s2 b3 l4 u5) k))) := brow_eq (rfl) rfl
    obtain ⟨cb, dT⟩ := dR.rowEq 0 [brow aY aZ 5 (dn ++ (W (Fld.mk aB aC aD aE ay aF aG aH) (Tree.at_ (Tree.mk n1 s2 b3 l4 u5) k))), brow cQ cR 5 (W (Fld.mk aB aC aD aE ay aF aG aH) (Tree.at_ (Tree.mk n1 s2 b3 l4 u5) k))] gW
    clear dR
    have dU := EnvOk.pick dS (ks := [0, 1, 2, 7, 9, 10, 11, 21, 22, 23, 36, 37, 38, 39, 40, 41, 42, 43, 44]) (env' := [(0, .v (.slice A l.length c)), (1, .v (.int .i64 v)), (2, .v (.bool flex)), (7, .p 0 0), (9, .v (.slice A_ dn.length c_)), (10, .v (.slice none 0 0)), (11, .v (.int .i64 0)), (21, .v (.slice A l.length c)), (22, .v (.int .i64 ((l.length : Nat) : Int))), (23, .v (.int .i64 ((k : Nat) : Int))), (36, .v (.slice A_ dn.length c_)), (37, .v (.agg #[.int .i64 aB, .int .i64 aC, .int .i64 aD, .int .i64 aE, .int .i64 ay, .int .i64 aF, .int .i64 aG, .slice dE aH.length dF])), (38, .v (.int .i64 v)), (39, .v (.bool flex)), (40, .v (.agg #[.int .i64 n1, .slice A6 s2.length c7, .bool b3, .slice A8 l4.length c9, .slice aW u5.length aX])), (41, .v (.int .i64 ((k : Nat) : Int))), (42, .v (.agg #[.int .i64 gl, .slice gt gm.length gu, .bool gn, .slice gv gp.length gw, .slice gx gq.length gy])), (43, .v (.slice cQ ((W (Fld.mk aB aC aD aE ay aF aG aH) (Tree.at_ (Tree.mk n1 s2 b3 l4 u5) k)).length) cR)), (44, .v (.slice aY (dn.length + (W (Fld.mk aB aC aD aE ay aF aG aH) (Tree.at_ (Tree.mk n1 s2 b3 l4 u5) k)).length) aZ))]) kz
    have dV := dU.cast (env' := [(0, .v (.slice A l.length c)), (1, .v (.int .i64 v)), (2, .v (.bool flex)), (7, .p 0 0), (9, .v (.slice A_ dn.length c_)), (10, .v (.slice none 0 0)), (11, .v (.int .i64 0)), (21, .v (.slice A l.length c)), (22, .v (.int .i64 ((l.length : Nat) : Int))), (23, .v (.int .i64 ((k : Nat) : Int))), (36, .v (.slice A_ dn.length c_)), (37, .v (.agg #[.int .i64 aB, .int .i64 aC, .int .i64 aD, .int .i64 aE, .int .i64 ay, .int .i64 aF, .int .i64 aG, .slice dE aH.length dF])), (38, .v (.int .i64 v)), (39, .v (.bool flex)), (40, .v (.agg #[.int .i64 n1, .slice A6 s2.length c7, .bool b3, .slice A8 l4.length c9, .slice aW u5.length aX])), (41, .v (.int .i64 ((k : Nat) : Int))), (42, .v (.agg #[.int .i64 gl, .slice gt gm.length gu, .bool gn, .slice gv gp.length gw, .slice gx gq.length gy])), (43, .v (.slice cQ ((W (Fld.mk aB aC aD aE ay aF aG aH) (Tree.at_ (Tree.mk n1 s2 b3 l4 u5) k)).length) cR)), (44, .v (.slice aY ((dn ++ (W (Fld.mk aB aC aD aE ay aF aG aH) (Tree.at_ (Tree.mk n1 s2 b3 l4 u5) k))).length) aZ))]) (by simp only [List.length_append, List.length_cons, List.length_nil, Nat.zero_add])
    clear dS
    clear dU
    have gX := TT.ofW (((ca.trans cS).trans dQ).trans dT) cb
    refine ⟨fun _ => gX, ?_⟩
    refine anyC_op (i := 9) kz (wpOp_pure [0, 1, 2, 7, 9, 10, 11, 21, 22, 23] cb.cells dV (env' := [(0, .v (.slice A l.length c)), (1, .v (.int .i64 v)), (2, .v (.bool flex)), (7, .p 0 0), (9, .v (.slice aY ((dn ++ (W (Fld.mk aB aC aD aE ay aF aG aH) (Tree.at_ (Tree.mk n1 s2 b3 l4 u5) k))).length) aZ)), (10, .v (.slice none 0 0)), (11, .v (.int .i64 0)), (21, .v (.slice A l.length c)), (22, .v (.int .i64 ((l.length : Nat) : Int))), (23, .v (.int .i64 ((k : Nat) : Int)))]) kz fun ma dW => ?_)
    clear dV
    refine ⟨fun h => absurd rfl h, ?_⟩
    refine anyC_done kz ?_ _
    refine block_normal ?_
    refine then_normal ?_
    refine go_region [0, 1] kz ?_
    refine go_rn [0, 1] [] [(0, .v (.slice A l.length c)), (1, .v (.int .i64 v)), (2, .v (.bool flex)), (7, .p 0 0), (9, .v (.slice aY ((dn ++ (W (Fld.mk aB aC aD aE ay aF aG aH) (Tree.at_ (Tree.mk n1 s2 b3 l4 u5) k))).length) aZ)), (10, .v (.slice none 0 0)), (11, .v (.int .i64 0)), (21, .v (.slice A l.length c)), (22, .v (.int .i64 ((l.length : Nat) : Int))), (23, .v (.int .i64 (IntKind.i64.wrap (((k : Nat) : Int) + 1))))] cb dW fun mc gY => ?_
    clear dW
    refine wpOps_nil (then_normal ?_)
    obtain ⟨dX, gZ, g6⟩ := cb.cutB gY 1 [⟨cL, 0, [.int .i64 n1, .slice A6 s2.length c7, .bool b3, .slice A8 l4.length c9, .slice aW u5.length aX], true⟩] [(0, .v (.slice A l.length c)), (1, .v (.int .i64 v)), (2, .v (.bool flex)), (7, .p 0 0), (9, .v (.slice aY ((dn ++ (W (Fld.mk aB aC aD aE ay aF aG aH) (Tree.at_ (Tree.mk n1 s2 b3 l4 u5) k))).length) aZ)), (10, .v (.slice none 0 0)), (11, .v (.int .i64 0)), (21, .v (.slice A l.length c)), (22, .v (.int .i64 ((l.length : Nat) : Int))), (23, .v (.int .i64 (IntKind.i64.wrap (((k : Nat) : Int) + 1))))]
    obtain ⟨g7, g8⟩ := gZ.cutR 1 [brow aY aZ 5 (dn ++ (W (Fld.mk aB aC aD aE ay aF aG aH) (Tree.at_ (Tree.mk n1 s2 b3 l4 u5) k)))]
    have g9 : IntKind.i64.wrap (((k : Nat) : Int) + 1) = ((k + 1 : Nat) : Int) := wrap_succ (by omega)
    rw [g9] at dX
    exact ⟨l.length - (k + 1), by omega, k + 1, aY, aZ, dn ++ (W (Fld.mk aB aC aD aE ay aF aG aH) (Tree.at_ (Tree.mk n1 s2 b3 l4 u5) k)), rfl, by omega, by rw [List.append_assoc, ← bodyB_pos bn (by assumption) (by assumption)]; exact hB, dX.pk, g7, ((((((((((gf.trans gi).trans gk).trans dM).trans gP).trans ca).trans cS).trans dQ).trans dT).trans g6).trans g8)⟩
   ·
    refine wp_skip ?_
    refine block_normal ?_
    refine then_normal ?_
    refine go_region [0, 1] kz ?_
    refine go_rn [0, 1] [] [(0, .v (.slice A l.length c)), (1, .v (.int .i64 v)), (2, .v (.bool flex)), (7, .p 0 0), (9, .v (.slice A_ dn.length c_)), (10, .v (.slice none 0 0)), (11, .v (.int .i64 0)), (21, .v (.slice A l.length c)), (22, .v (.int .i64 ((l.length : Nat) : Int))), (23, .v (.int .i64 (IntKind.i64.wrap (((k : Nat) : Int) + 1))))] bq br fun md hC => ?_
    clear br
    refine wpOps_nil (then_normal ?_)
    obtain ⟨dY, hJ, hK⟩ := bq.cutB hC 1 [⟨cL, 0, [.int .i64 n1, .slice A6 s2.length c7, .bool b3, .slice A8 l4.length c9, .slice aW u5.length aX], true⟩] [(0, .v (.slice A l.length c)), (1, .v (.int .i64 v)), (2, .v (.bool flex)), (7, .p 0 0), (9, .v (.slice A_ dn.length c_)), (10, .v (.slice none 0 0)), (11, .v (.int .i64 0)), (21, .v (.slice A l.length c)), (22, .v (.int .i64 ((l.length : Nat) : Int))), (23, .v (.int .i64 (IntKind.i64.wrap (((k : Nat) : Int) + 1))))]
    have hP : IntKind.i64.wrap (((k : Nat) : Int) + 1) = ((k + 1 : Nat) : Int) := wrap_succ (by omega)
    rw [hP] at dY
    exact ⟨l.length - (k + 1), by omega, k + 1, A_, c_, dn, rfl, by omega, by rw [← bodyB_neg2 bn (by assumption)]; exact hB, dY.pk, hJ, ((((gf.trans gi).trans gk).trans dM).trans hK)⟩
  ·
   have kM := of_decide_eq_false cN
   have dZ := dG.cast (env' := [(0, .v (.slice A l.length c)), (1, .v (.int .i64 v)), (2, .v (.bool flex)), (7, .p 0 0), (9, .v (.slice A_ dn.length c_)), (10, .v (.slice none 0 0)), (11, .v (.int .i64 0)), (12, .v (.int .i64 ((k : Nat) : Int))), (13, .p 1 0), (21, .v (.slice A l.length c)), (22, .v (.int .i64 ((l.length : Nat) : Int))), (23, .v (.int .i64 ((k : Nat) : Int))), (31, .v (.bool false))]) (by rw [cN])
   clear dG
   refine go_rn [4, 5, 6, 7] [] [(0, .v (.slice A l.length c)), (1, .v (.int .i64 v)), (2, .v (.bool flex)), (7, .p 0 0), (9, .v (.slice A_ dn.length c_)), (10, .v (.slice none 0 0)), (11, .v (.int .i64 0)), (12, .v (.int .i64 ((k : Nat) : Int))), (13, .p 1 0), (21, .v (.slice A l.length c)), (22, .v (.int .i64 ((l.length : Nat) : Int))), (23, .v (.int .i64 ((k : Nat) : Int))), (35, .v (.bool false))] bp dZ fun me cT => ?_
   clear dZ
   refine wpOps_nil (then_normal ?_)
   refine cond_false cT (b := false) kz rfl ?_
   refine wp_skip ?_
   refine block_normal ?_
   refine then_normal ?_
   refine go_region [0, 1] kz ?_
   refine go_rn [0, 1] [] [(0, .v (.slice A l.length c)), (1, .v (.int .i64 v)), (2, .v (.bool flex)), (7, .p 0 0), (9, .v (.slice A_ dn.length c_)), (10, .v (.slice none 0 0)), (11, .v (.int .i64 0)), (21, .v (.slice A l.length c)), (22, .v (.int .i64 ((l.length : Nat) : Int))), (23, .v (.int .i64 (IntKind.i64.wrap (((k : Nat) : Int) + 1))))] bp cT fun mf hX => ?_
   clear cT
   refine wpOps_nil (then_normal ?_)
   obtain ⟨d4, hY, hZ⟩ := bp.cutB hX 1 [⟨cL, 0, [.int .i64 n1, .slice A6 s2.length c7, .bool b3, .slice A8 l4.length c9, .slice aW u5.length aX], true⟩] [(0, .v (.slice A l.length c)), (1, .v (.int .i64 v)), (2, .v (.bool flex)), (7, .p 0 0), (9, .v (.slice A_ dn.length c_)), (10, .v (.slice none 0 0)), (11, .v (.int .i64 0)), (21, .v (.slice A l.length c)), (22, .v (.int .i64 ((l.length : Nat) : Int))), (23, .v (.int .i64 (IntKind.i64.wrap (((k : Nat) : Int) + 1))))]
   have ia : IntKind.i64.wrap (((k : Nat) : Int) + 1) = ((k + 1 : Nat) : Int) := wrap_succ (by omega)
   rw [ia] at d4
   exact ⟨l.length - (k + 1), by omega, k + 1, A_, c_, dn, rfl, by omega, by rw [← bodyB_neg1 bn (by assumption)]; exact hB, d4.pk, hY, (((gf.trans gi).trans gk).trans hZ)⟩
 ·
  have kN := of_decide_eq_false gg
  refine wp_exit ?_
  refine then_exit ?_
  refine then_exit ?_
  refine block_exit ?_
  refine then_normal ?_
  refine wp_seq ?_
  refine go_sp [(0, .v (.slice A l.length c)), (1, .v (.int .i64 v)), (2, .v (.bool flex)), (7, .p 0 0), (9, .v (.slice A_ dn.length c_)), (10, .v (.slice none 0 0)), (11, .v (.int .i64 0)), (47, .v (.bool (!flex)))] ax cM fun mg bz => ?_
  clear cM
  refine cond_of bz (b := !flex) kz (fun cc => ?_) (fun cc => ?_)
  ·
   refine go_sp [(8, .v (.slice A_ dn.length c_))] ax bz fun mh ib => ?_
   clear bz
   refine wp_ret ?_
   refine then_ret ?_
   refine leave ib ax.cells (v := .slice A_ dn.length c_) kz ?_
   exact fresh_end ax (k := 0) rfl (by rw [show flex = false by simpa using cc, partW_old, ← hB, bodyB_end (by omega), List.append_nil])
  ·
   refine wp_skip ?_
   refine then_normal ?_
   refine wp_seq ?_
   refine go_seq_region [0, 1, 2, 3] kz ?_
   refine go_rn [0] [1, 2, 3] [(0, .v (.slice A l.length c)), (1, .v (.int .i64 v)), (2, .v (.bool flex)), (7, .p 0 0), (9, .v (.slice A_ dn.length c_)), (10, .v (.slice none 0 0)), (11, .v (.int .i64 0)), (49, .v (.slice A l.length c))] ax bz fun mi d5 => ?_
   clear bz
   refine of_op (wpOp_call d5 (f := 89) (vs := [.slice A l.length c]) (d := 50) kz Tryz.call89 (sKnown _ _ l _ _ ⟨xfs, (h1.move ax.step nilM ax.imm), (fun i_ x_ h_ => ((h2 i_ x_ h_).move ax.step nilM ax.imm))⟩) ?_)
   rintro e_ mj ⟨rfl, d6⟩
   refine ⟨_, rfl, fun ml d7 => ?_⟩
   have cV := ax.next_nil d6
   have kO := ax.frN d6
   clear d5 ax
   refine go_rn [2, 3] [] [(0, .v (.slice A l.length c)), (1, .v (.int .i64 v)), (2, .v (.bool flex)), (7, .p 0 0), (9, .v (.slice A_ dn.length c_)), (10, .v (.slice none 0 0)), (11, .v (.int .i64 0)), (51, .v (.int .i64 (IntKind.i64.wrap (knownI l)))), (52, .v (.int .i64 0))] cV d7 fun mm cW => ?_
   clear d7
   refine wpOps_nil (then_normal ?_)
   refine wp_block ?_
   have hdn : dn = bodyB W l v (Tree.mk n1 s2 b3 l4 u5) 0 := by rw [← hB, bodyB_end (by omega), List.append_nil]
   have d8 : dn = (bodyB W l v (Tree.mk n1 s2 b3 l4 u5) 0) := hdn
   have ic := congrArg (brow A_ c_ 5) d8
   obtain ⟨cX, kP⟩ := cV.rowEq 0 [brow A_ c_ 5 (bodyB W l v (Tree.mk n1 s2 b3 l4 u5) 0)] ic
   clear cV
   rw [d8] at cW
   have hfx : flex = true := by simpa using cc
   have htot2 : (bodyB W l v (Tree.mk n1 s2 b3 l4 u5) 0).length + (uv (tagsN W l (Tree.mk n1 s2 b3 l4 u5) (knownI l).toNat + (unknownT l u5).length)).length + ((tagsK W l (Tree.mk n1 s2 b3 l4 u5) (knownI l).toNat).length + (tagsB (unknownT l u5)).length) ≤ 1099511627776 := by have h_ := hroom; rw [hfx, partW_flex] at h_; simpa only [List.length_append] using h_
   have hmono := fun i (h_ : i ≤ (knownI l).toNat) => tagsK_mono W l (Tree.mk n1 s2 b3 l4 u5) h_
   have hcnt := tagsN_le W l (Tree.mk n1 s2 b3 l4 u5)
   have hknn := known_nat l
   have d9 := EnvOk.pick cW (ks := [0, 1, 2, 7, 9, 10, 11, 51, 52]) (env' := [(0, .v (.slice A l.length c)), (1, .v (.int .i64 v)), (2, .v (.bool flex)), (7, .p 0 0), (9, .v (.slice A_ ((bodyB W l v (Tree.mk n1 s2 b3 l4 u5) 0).length) c_)), (10, .v (.slice none 0 0)), (11, .v (.int .i64 0)), (51, .v (.int .i64 (IntKind.i64.wrap (knownI l)))), (52, .v (.int .i64 0))]) kz
   have ea := d9.cast (env' := [(0, .v (.slice A l.length c)), (1, .v (.int .i64 v)), (2, .v (.bool flex)), (7, .p 0 0), (9, .v (.slice A_ ((bodyB W l v (Tree.mk n1 s2 b3 l4 u5) 0).length) c_)), (10, .v (.slice none 0 0)), (11, .v (.int .i64 0)), (51, .v (.int .i64 (((knownI l).toNat : Nat) : Int))), (52, .v (.int .i64 0))]) (by rw [hknn])
   clear cW d9
   have eb := cX.addNil 5 1
   have kQ := cX.frNil 5 1
   clear cX
   refine wp_loop_ghost (fun n_ a_ w_ => ∃ (k2 : Nat) (A2_ : Option Addr) (c2_ : Nat), n_ = (knownI l).toNat - k2 ∧ k2 ≤ (knownI l).toNat ∧ LInv eb 132 [⟨cL, 0, [.int .i64 n1, .slice A6 s2.length c7, .bool b3, .slice A8 l4.length c9, .slice aW u5.length aX], true⟩] [brow A_ c_ 5 (bodyB W l v (Tree.mk n1 s2 b3 l4 u5) 0), brow A2_ c2_ 5 (tagsK W l (Tree.mk n1 s2 b3 l4 u5) k2)] [(0, .v (.slice A l.length c)), (1, .v (.int .i64 v)), (2, .v (.bool flex)), (7, .p 0 0), (9, .v (.slice A_ ((bodyB W l v (Tree.mk n1 s2 b3 l4 u5) 0).length) c_)), (10, .v (.slice A2_ ((tagsK W l (Tree.mk n1 s2 b3 l4 u5) k2).length) c2_)), (11, .v (.int .i64 ((tagsN W l (Tree.mk n1 s2 b3 l4 u5) k2 : Nat) : Int))), (51, .v (.int .i64 (((knownI l).toNat : Nat) : Int))), (52, .v (.int .i64 ((k2 : Nat) : Int)))] a_ w_) ((knownI l).toNat) ⟨0, none, 0, by omega, by omega, ea.pk, eb, Fr.refl _ _ _⟩ ?_
   clear ea
   rintro mn mo mp ⟨k2, A2_, c2_, kR, kS, ec, al, ig⟩
   refine go_sp [(0, .v (.slice A l.length c)), (1, .v (.int .i64 v)), (2, .v (.bool flex)), (7, .p 0 0), (9, .v (.slice A_ ((bodyB W l v (Tree.mk n1 s2 b3 l4 u5) 0).length) c_)), (10, .v (.slice A2_ ((tagsK W l (Tree.mk n1 s2 b3 l4 u5) k2).length) c2_)), (11, .v (.int .i64 ((tagsN W l (Tree.mk n1 s2 b3 l4 u5) k2 : Nat) : Int))), (51, .v (.int .i64 (((knownI l).toNat : Nat) : Int))), (52, .v (.int .i64 ((k2 : Nat) : Int))), (53, .v (.bool (decide (((k2 : Nat) : Int) < (((knownI l).toNat : Nat) : Int)))))] al ec fun mq bA => ?_
   clear ec
   refine wp_seq ?_
   refine cond_of bA (b := decide (((k2 : Nat) : Int) < (((knownI l).toNat : Nat) : Int))) kz (fun cY => ?_) (fun cY => ?_)
   ·
    have kT := of_decide_eq_true cY
    refine wp_skip ?_
    refine then_normal ?_
    refine wp_seq ?_
    refine wp_block ?_
    refine go_sp [(0, .v (.slice A l.length c)), (1, .v (.int .i64 v)), (2, .v (.bool flex)), (7, .p 0 0), (9, .v (.slice A_ ((bodyB W l v (Tree.mk n1 s2 b3 l4 u5) 0).length) c_)), (10, .v (.slice A2_ ((tagsK W l (Tree.mk n1 s2 b3 l4 u5) k2).length) c2_)), (11, .v (.int .i64 ((tagsN W l (Tree.mk n1 s2 b3 l4 u5) k2 : Nat) : Int))), (14, .v (.int .i64 ((k2 : Nat) : Int))), (51, .v (.int .i64 (((knownI l).toNat : Nat) : Int))), (52, .v (.int .i64 ((k2 : Nat) : Int)))] al bA fun mr ee => ?_
    clear bA
    refine go_sp [(0, .v (.slice A l.length c)), (1, .v (.int .i64 v)), (2, .v (.bool flex)), (7, .p 0 0), (9, .v (.slice A_ ((bodyB W l v (Tree.mk n1 s2 b3 l4 u5) 0).length) c_)), (10, .v (.slice A2_ ((tagsK W l (Tree.mk n1 s2 b3 l4 u5) k2).length) c2_)), (11, .v (.int .i64 ((tagsN W l (Tree.mk n1 s2 b3 l4 u5) k2 : Nat) : Int))), (14, .v (.int .i64 ((k2 : Nat) : Int))), (51, .v (.int .i64 (((knownI l).toNat : Nat) : Int))), (52, .v (.int .i64 ((k2 : Nat) : Int))), (55, .v (.slice A l.length c)), (56, .v (.int .i64 ((l.length : Nat) : Int))), (57, .v (.int .i64 0))] al ee fun mt cZ => ?_
    clear ee
    refine wp_block ?_
    have ef : (tagsK W l (Tree.mk n1 s2 b3 l4 u5) k2) = (tagsK W l (Tree.mk n1 s2 b3 l4 u5) k2 ++ []) := (List.append_nil _).symm
    have ii := congrArg (brow A2_ c2_ 5) ef
    obtain ⟨eg, ij⟩ := al.rowEq 1 [brow A_ c_ 5 (bodyB W l v (Tree.mk n1 s2 b3 l4 u5) 0), brow A2_ c2_ 5 (tagsK W l (Tree.mk n1 s2 b3 l4 u5) k2 ++ [])] ii
    clear al
    rw [ef] at cZ
    have hm2 := hmono (k2 + 1) (by omega)
    rw [tagsK, List.length_append] at hm2
    have hc2 := hcnt (k2 + 1)
    rw [tagsN, tagsK, List.length_append] at hc2
    have hc3 := tagN_le W k2 (Tree.mk n1 s2 b3 l4 u5) l 0
    refine wp_loop_ghost (fun n_ a_ w_ => ∃ (q : Nat) (A3_ : Option Addr) (c3_ : Nat) (dm : Bs) (cn : Nat), n_ = l.length - q ∧ q ≤ l.length ∧ (dm ++ tagB W (l.drop q) k2 (Tree.mk n1 s2 b3 l4 u5) q = tagB W l k2 (Tree.mk n1 s2 b3 l4 u5) 0) ∧ (cn + tagN W (l.drop q) k2 (Tree.mk n1 s2 b3 l4 u5) q = tagN W l k2 (Tree.mk n1 s2 b3 l4 u5) 0) ∧ LInv eg 132 [⟨cL, 0, [.int .i64 n1, .slice A6 s2.length c7, .bool b3, .slice A8 l4.length c9, .slice aW u5.length aX], true⟩] [brow A_ c_ 5 (bodyB W l v (Tree.mk n1 s2 b3 l4 u5) 0), brow A3_ c3_ 5 (tagsK W l (Tree.mk n1 s2 b3 l4 u5) k2 ++ dm)] [(0, .v (.slice A l.length c)), (1, .v (.int .i64 v)), (2, .v (.bool flex)), (7, .p 0 0), (9, .v (.slice A_ ((bodyB W l v (Tree.mk n1 s2 b3 l4 u5) 0).length) c_)), (10, .v (.slice A3_ ((tagsK W l (Tree.mk n1 s2 b3 l4 u5) k2 ++ dm).length) c3_)), (11, .v (.int .i64 ((tagsN W l (Tree.mk n1 s2 b3 l4 u5) k2 + cn : Nat) : Int))), (14, .v (.int .i64 ((k2 : Nat) : Int))), (51, .v (.int .i64 (((knownI l).toNat : Nat) : Int))), (52, .v (.int .i64 ((k2 : Nat) : Int))), (55, .v (.slice A l.length c)), (56, .v (.int .i64 ((l.length : Nat) : Int))), (57, .v (.int .i64 ((q : Nat) : Int)))] a_ w_) (l.length) ⟨0, A2_, c2_, [], 0, by omega, by omega, rfl, Nat.zero_add _, cZ.pk, eg, Fr.refl _ _ _⟩ ?_
    clear cZ
    rintro mu mw mx ⟨q, A3_, c3_, dm, cn, kU, kV, hB2, hN2, eh, aN, cd⟩
    refine go_sp [(0, .v (.slice A l.length c)), (1, .v (.int .i64 v)), (2, .v (.bool flex)), (7, .p 0 0), (9, .v (.slice A_ ((bodyB W l v (Tree.mk n1 s2 b3 l4 u5) 0).length) c_)), (10, .v (.slice A3_ ((tagsK W l (Tree.mk n1 s2 b3 l4 u5) k2 ++ dm).length) c3_)), (11, .v (.int .i64 ((tagsN W l (Tree.mk n1 s2 b3 l4 u5) k2 + cn : Nat) : Int))), (14, .v (.int .i64 ((k2 : Nat) : Int))), (51, .v (.int .i64 (((knownI l).toNat : Nat) : Int))), (52, .v (.int .i64 ((k2 : Nat) : Int))), (55, .v (.slice A l.length c)), (56, .v (.int .i64 ((l.length : Nat) : Int))), (57, .v (.int .i64 ((q : Nat) : Int))), (58, .v (.bool (decide (((q : Nat) : Int) < ((l.length : Nat) : Int)))))] aN eh fun my bB => ?_
    clear eh
    refine wp_seq ?_
    refine cond_of bB (b := decide (((q : Nat) : Int) < ((l.length : Nat) : Int))) kz (fun c5 => ?_) (fun c5 => ?_)
    ·
     have kW := of_decide_eq_true c5
     refine wp_skip ?_
     refine then_normal ?_
     refine wp_seq ?_
     refine wp_block ?_
     refine go_seq_region [0, 1, 2, 3, 4, 5] kz ?_
     refine go_rn [0] [1, 2, 3, 4, 5] [(0, .v (.slice A l.length c)), (1, .v (.int .i64 v)), (2, .v (.bool flex)), (7, .p 0 0), (9, .v (.slice A_ ((bodyB W l v (Tree.mk n1 s2 b3 l4 u5) 0).length) c_)), (10, .v (.slice A3_ ((tagsK W l (Tree.mk n1 s2 b3 l4 u5) k2 ++ dm).length) c3_)), (11, .v (.int .i64 ((tagsN W l (Tree.mk n1 s2 b3 l4 u5) k2 + cn : Nat) : Int))), (14, .v (.int .i64 ((k2 : Nat) : Int))), (51, .v (.int .i64 (((knownI l).toNat : Nat) : Int))), (52, .v (.int .i64 ((k2 : Nat) : Int))), (55, .v (.slice A l.length c)), (56, .v (.int .i64 ((l.length : Nat) : Int))), (57, .v (.int .i64 ((q : Nat) : Int))), (59, .v (.int .i64 ((q : Nat) : Int)))] aN bB fun mz ei => ?_
     clear bB
     obtain ⟨jT, jU, ik, kX, da⟩ := Slots.get h1 (i := q) (by omega)
     obtain ⟨jV, ap⟩ : ∃ x, l[q]? = some x := ⟨_, List.getElem?_eq_getElem (by omega)⟩
     have ce := h2 q jV ap
     obtain ⟨ab, ac, ae, af, aa, ag, ah, ai, bC, bD, kY, rfl, db, jW, mA⟩ := ce.open_
     rw [db] at ce
     have jX := jW.small
     rw [db] at da
     refine of_op (wpOp_index ei (t := 29) (A := A) (m := l.length) (q := ((q : Nat) : Int)) (d := 60) kz (e := 51) (size := 8) (bytes := 80) kz ik rfl (by omega) fun mB ej => ?_)
     clear ei
     refine of_op (wpOp_load ej (t := 51) (b := jT) (o := jU + q * 8) (d := 61) kz (cs := [.int .i64 ab, .int .i64 ac, .int .i64 ae, .int .i64 af, .int .i64 aa, .int .i64 ag, .int .i64 ah, .slice bC ai.length bD]) (v := .agg #[.int .i64 ab, .int .i64 ac, .int .i64 ae, .int .i64 af, .int .i64 aa, .int .i64 ag, .int .i64 ah, .slice bC ai.length bD]) kz (AtF.move da aN.step nilM keepF).at_ fun mC ek => ?_)
     clear ej
     refine of_op (wpOp_alloc aN ek (d := 16) (cs := [.int .i64 0, .int .i64 0, .int .i64 0, .int .i64 0, .int .i64 0, .int .i64 0, .int .i64 0, .slice none 0 0]) kz fun mD mE mF kZ k5 dc de em => ?_)
     clear ek aN
     refine go_rn [4] [5] [(0, .v (.slice A l.length c)), (1, .v (.int .i64 v)), (2, .v (.bool flex)), (7, .p 0 0), (9, .v (.slice A_ ((bodyB W l v (Tree.mk n1 s2 b3 l4 u5) 0).length) c_)), (10, .v (.slice A3_ ((tagsK W l (Tree.mk n1 s2 b3 l4 u5) k2 ++ dm).length) c3_)), (11, .v (.int .i64 ((tagsN W l (Tree.mk n1 s2 b3 l4 u5) k2 + cn : Nat) : Int))), (14, .v (.int .i64 ((k2 : Nat) : Int))), (15, .v (.int .i64 ((q : Nat) : Int))), (16, .p 1 0), (51, .v (.int .i64 (((knownI l).toNat : Nat) : Int))), (52, .v (.int .i64 ((k2 : Nat) : Int))), (55, .v (.slice A l.length c)), (56, .v (.int .i64 ((l.length : Nat) : Int))), (57, .v (.int .i64 ((q : Nat) : Int))), (61, .v (.agg #[.int .i64 ab, .int .i64 ac, .int .i64 ae, .int .i64 af, .int .i64 aa, .int .i64 ag, .int .i64 ah, .slice bC ai.length bD]))] de em fun mG eo => ?_
     clear em
     refine of_op (wpOp_store de eo (oi := 1) (cs := [.int .i64 ab, .int .i64 ac, .int .i64 ae, .int .i64 af, .int .i64 aa, .int .i64 ag, .int .i64 ah, .slice bC ai.length bD]) kz fun mH df ep eu => ?_)
     clear eo de
     refine wpOps_nil (then_normal ?_)
     refine go_seq_drawK 12 kz ep fun mI dg aP dh => ?_
     clear ep
     refine go_rnD [0, 1, 2, 3, 4] [(0, .v (.slice A l.length c)), (1, .v (.int .i64 v)), (2, .v (.bool flex)), (7, .p 0 0), (9, .v (.slice A_ ((bodyB W l v (Tree.mk n1 s2 b3 l4 u5) 0).length) c_)), (10, .v (.slice A3_ ((tagsK W l (Tree.mk n1 s2 b3 l4 u5) k2 ++ dm).length) c3_)), (11, .v (.int .i64 ((tagsN W l (Tree.mk n1 s2 b3 l4 u5) k2 + cn : Nat) : Int))), (14, .v (.int .i64 ((k2 : Nat) : Int))), (15, .v (.int .i64 ((q : Nat) : Int))), (16, .p 1 0), (51, .v (.int .i64 (((knownI l).toNat : Nat) : Int))), (52, .v (.int .i64 ((k2 : Nat) : Int))), (55, .v (.slice A l.length c)), (56, .v (.int .i64 ((l.length : Nat) : Int))), (57, .v (.int .i64 ((q : Nat) : Int))), (66, .v (.bool (aa == ((k2 : Nat) : Int))))] 7 (panicFree_then (panicFree_block (panicFree_then (panicFree_then (panicFree_block (panicFree_block (panicFree_then (panicFree_then (panicFree_block (panicFree_then panicFree_body)))))))))) (fun _ h => h.cells) dh eu fun mJ cg => ?_
     clear eu
     refine (Bool.eq_false_or_eq_true (aa == ((k2 : Nat) : Int))).elim (fun bE => ?_) (fun bE => ?_)
     ·
      have k6 : aa = ((k2 : Nat) : Int) := by simpa using bE
      have ev := cg.cast (env' := [(0, .v (.slice A l.length c)), (1, .v (.int .i64 v)), (2, .v (.bool flex)), (7, .p 0 0), (9, .v (.slice A_ ((bodyB W l v (Tree.mk n1 s2 b3 l4 u5) 0).length) c_)), (10, .v (.slice A3_ ((tagsK W l (Tree.mk n1 s2 b3 l4 u5) k2 ++ dm).length) c3_)), (11, .v (.int .i64 ((tagsN W l (Tree.mk n1 s2 b3 l4 u5) k2 + cn : Nat) : Int))), (14, .v (.int .i64 ((k2 : Nat) : Int))), (15, .v (.int .i64 ((q : Nat) : Int))), (16, .p 1 0), (51, .v (.int .i64 (((knownI l).toNat : Nat) : Int))), (52, .v (.int .i64 ((k2 : Nat) : Int))), (55, .v (.slice A l.length c)), (56, .v (.int .i64 ((l.length : Nat) : Int))), (57, .v (.int .i64 ((q : Nat) : Int))), (66, .v (.bool true))]) (by rw [bE])
      clear cg
      refine go_rnD [5, 6, 7] [(0, .v (.slice A l.length c)), (1, .v (.int .i64 v)), (2, .v (.bool flex)), (7, .p 0 0), (9, .v (.slice A_ ((bodyB W l v (Tree.mk n1 s2 b3 l4 u5) 0).length) c_)), (10, .v (.slice A3_ ((tagsK W l (Tree.mk n1 s2 b3 l4 u5) k2 ++ dm).length) c3_)), (11, .v (.int .i64 ((tagsN W l (Tree.mk n1 s2 b3 l4 u5) k2 + cn : Nat) : Int))), (14, .v (.int .i64 ((k2 : Nat) : Int))), (15, .v (.int .i64 ((q : Nat) : Int))), (16, .p 1 0), (51, .v (.int .i64 (((knownI l).toNat : Nat) : Int))), (52, .v (.int .i64 ((k2 : Nat) : Int))), (55, .v (.slice A l.length c)), (56, .v (.int .i64 ((l.length : Nat) : Int))), (57, .v (.int .i64 ((q : Nat) : Int))), (66, .v (.bool true)), (67, .v (.agg #[.int .i64 ab, .int .i64 ac, .int .i64 ae, .int .i64 af, .int .i64 aa, .int .i64 ag, .int .i64 ah, .slice bC ai.length bD])), (68, .v (.agg #[.int .i64 n1, .slice A6 s2.length c7, .bool b3, .slice A8 l4.length c9, .slice aW u5.length aX])), (69, .v (.int .i64 ((q : Nat) : Int)))] 4 (panicFree_then (panicFree_block (panicFree_then (panicFree_then (panicFree_block (panicFree_block (panicFree_then (panicFree_then (panicFree_block (panicFree_then panicFree_body)))))))))) (fun _ h => h.cells) dh ev fun mK ew => ?_
      clear ev
      refine anyC_op (i := 8) kz (wpOp_call ew (f := 37) (vs := [.agg #[.int .i64 n1, .slice A6 s2.length c7, .bool b3, .slice A8 l4.length c9, .slice aW u5.length aX], .int .i64 ((q : Nat) : Int)]) (d := 70) kz Tryz.call37 (sAt _ _ q _ _ (ht.move aP.step nilM aP.imm)) ?_)
      rintro e_ mL ⟨k7, rfl, il, bF⟩
      have di := il.move bF nilM (fun b o h_ hb_ => aP.laid (G := F) bF b o (.inl h_) (Nat.lt_of_lt_of_le hb_ bF.size))
      obtain ⟨jY, jZ, j0, j1, j2, j3, j4, j5, j6, j7, j8, k8, k9, dj, j9, ka, mM, mN⟩ := di.open_
      rw [dj] at di
      have kd := j9.small
      have ke := ka.small
      rw [dj]
      refine ⟨_, rfl, fun mO ey => ?_⟩
      have ba := aP.next_nil bF
      have cl := aP.frN bF
      clear ew
      have im := TT.ofW cl ba
      refine ⟨fun _ => im, ?_⟩
      refine anyC_op (i := 9) kz (wpOp_call ey (f := 92) (vs := [.agg #[.int .i64 ab, .int .i64 ac, .int .i64 ae, .int .i64 af, .int .i64 aa, .int .i64 ag, .int .i64 ah, .slice bC ai.length bD], .agg #[.int .i64 jY, .slice j3 jZ.length j4, .bool j0, .slice j5 j1.length j6, .slice j7 j2.length j8]]) (d := 71) kz Tryz.call92 (sUsual _ _ _ _ _ _ _ (ce.move ba.step nilM ba.imm) (Nat.le_refl _) di) ?_)
      rintro e_ mP ⟨rfl, ez⟩
      refine ⟨_, rfl, fun mQ eA => ?_⟩
      have bG := ba.next_nil ez
      have dl := ba.frN ez
      clear ey ba
      have eB := TT.ofW (cl.trans dl) bG
      refine ⟨fun _ => eB, ?_⟩
      refine go_rnD [10, 11] [(0, .v (.slice A l.length c)), (1, .v (.int .i64 v)), (2, .v (.bool flex)), (7, .p 0 0), (9, .v (.slice A_ ((bodyB W l v (Tree.mk n1 s2 b3 l4 u5) 0).length) c_)), (10, .v (.slice A3_ ((tagsK W l (Tree.mk n1 s2 b3 l4 u5) k2 ++ dm).length) c3_)), (11, .v (.int .i64 ((tagsN W l (Tree.mk n1 s2 b3 l4 u5) k2 + cn : Nat) : Int))), (14, .v (.int .i64 ((k2 : Nat) : Int))), (15, .v (.int .i64 ((q : Nat) : Int))), (16, .p 1 0), (51, .v (.int .i64 (((knownI l).toNat : Nat) : Int))), (52, .v (.int .i64 ((k2 : Nat) : Int))), (55, .v (.slice A l.length c)), (56, .v (.int .i64 ((l.length : Nat) : Int))), (57, .v (.int .i64 ((q : Nat) : Int))), (73, .v (.bool (!(Fld.usual (Fld.mk ab ac ae af aa ag ah ai) (Tree.at_ (Tree.mk n1 s2 b3 l4 u5) q)))))] 0 (panicFree_then (panicFree_block (panicFree_then (panicFree_then (panicFree_block (panicFree_block (panicFree_then (panicFree_then (panicFree_block (panicFree_then panicFree_body)))))))))) (fun _ h => h.cells) eB eA fun mR bH => ?_
      clear eA
      refine anyC_done kz ?_ _
      refine then_normal ?_
      refine cond_of bH (b := !(Fld.usual (Fld.mk ab ac ae af aa ag ah ai) (Tree.at_ (Tree.mk n1 s2 b3 l4 u5) q))) kz (fun aA => ?_) (fun aA => ?_)
      ·
       refine go_seq_drawK 7 kz bG fun mS io bI ip => ?_
       clear bG
       refine go_rnD [0, 1, 2, 3, 4] [(0, .v (.slice A l.length c)), (1, .v (.int .i64 v)), (2, .v (.bool flex)), (7, .p 0 0), (9, .v (.slice A_ ((bodyB W l v (Tree.mk n1 s2 b3 l4 u5) 0).length) c_)), (10, .v (.slice A3_ ((tagsK W l (Tree.mk n1 s2 b3 l4 u5) k2 ++ dm).length) c3_)), (11, .v (.int .i64 ((tagsN W l (Tree.mk n1 s2 b3 l4 u5) k2 + cn : Nat) : Int))), (14, .v (.int .i64 ((k2 : Nat) : Int))), (51, .v (.int .i64 (((knownI l).toNat : Nat) : Int))), (52, .v (.int .i64 ((k2 : Nat) : Int))), (55, .v (.slice A l.length c)), (56, .v (.int .i64 ((l.length : Nat) : Int))), (57, .v (.int .i64 ((q : Nat) : Int))), (74, .v (.agg #[.int .i64 ab, .int .i64 ac, .int .i64 ae, .int .i64 af, .int .i64 aa, .int .i64 ag, .int .i64 ah, .slice bC ai.length bD])), (75, .v (.int .i64 v)), (76, .v (.bool flex)), (77, .v (.agg #[.int .i64 n1, .slice A6 s2.length c7, .bool b3, .slice A8 l4.length c9, .slice aW u5.length aX])), (78, .v (.int .i64 ((q : Nat) : Int)))] 3 (panicFree_then (panicFree_block (panicFree_then (panicFree_then (panicFree_block (panicFree_block (panicFree_then (panicFree_then (panicFree_block (panicFree_then panicFree_body)))))))))) (fun _ h => h.cells) ip bH fun mT eC => ?_
       clear bH
       refine anyC_op (i := 5) kz (wpOp_call eC (f := 37) (vs := [.agg #[.int .i64 n1, .slice A6 s2.length c7, .bool b3, .slice A8 l4.length c9, .slice aW u5.length aX], .int .i64 ((q : Nat) : Int)]) (d := 79) kz Tryz.call37 (sAt _ _ q _ _ (ht.move bI.step nilM bI.imm)) ?_)
       rintro e_ mU ⟨la, rfl, iq, bJ⟩
       have dp := iq.move bJ nilM (fun b o h_ hb_ => bI.laid (G := F) bJ b o (.inl h_) (Nat.lt_of_lt_of_le hb_ bJ.size))
       obtain ⟨kf, kg, kh, ki, kj, km, kn, ko, kp, kq, ku, lb, lc, dq, kv, kw, mV, mW⟩ := dp.open_
       rw [dq] at dp
       have kx := kv.small
       have ky := kw.small
       rw [dq]
       refine ⟨_, rfl, fun mX eD => ?_⟩
       have bK := bI.next_nil bJ
       have dr := bI.frN bJ
       clear eC
       have ir := TT.ofW dr bK
       refine ⟨fun _ => ir, ?_⟩
       refine anyC_op (i := 6) kz (wpOp_call eD (f := 91) (vs := [.agg #[.int .i64 ab, .int .i64 ac, .int .i64 ae, .int .i64 af, .int .i64 aa, .int .i64 ag, .int .i64 ah, .slice bC ai.length bD], .int .i64 v, .bool flex, .agg #[.int .i64 kf, .slice km kg.length kn, .bool kh, .slice ko ki.length kp, .slice kq kj.length ku]]) (d := 80) kz Tryz.call91 ( hW_ _ _ _ _ _ _ (List.mem_of_getElem? ap) (ce.move bK.step nilM bK.imm) dp (by have h_ := congrArg List.length hB2; rw [tagB_pos ap (by omega) (by simpa using aA)] at h_; simp only [List.length_append] at h_; omega)) ?_)
       rintro e_ mY ⟨av, aw, rfl, iu, iv⟩
       refine ⟨_, rfl, fun mZ eE => ?_⟩
       obtain ⟨bL, eF⟩ := bK.frFresh iv (brow av aw 5 (W (Fld.mk ab ac ae af aa ag ah ai) (Tree.at_ (Tree.mk n1 s2 b3 l4 u5) q))) (Nat.le_refl _) iu
       clear eD bK
       have kA : (W (Fld.mk ab ac ae af aa ag ah ai) (Tree.at_ (Tree.mk n1 s2 b3 l4 u5) q)).length ≤ 1099511627776 := by have h_ := congrArg List.length hB2; rw [tagB_pos ap (by omega) (by simpa using aA)] at h_; simp only [List.length_append] at h_; omega
       have iw := TT.ofW (dr.trans eF) bL
       refine ⟨fun _ => iw, ?_⟩
       refine anyC_op (i := 7) kz (wpOp_pure [0, 1, 2, 7, 9, 10, 11, 14, 17, 51, 52, 55, 56, 57] bL.cells eE (env' := [(0, .v (.slice A l.length c)), (1, .v (.int .i64 v)), (2, .v (.bool flex)), (7, .p 0 0), (9, .v (.slice A_ ((bodyB W l v (Tree.mk n1 s2 b3 l4 u5) 0).length) c_)), (10, .v (.slice A3_ ((tagsK W l (Tree.mk n1 s2 b3 l4 u5) k2 ++ dm).length) c3_)), (11, .v (.int .i64 ((tagsN W l (Tree.mk n1 s2 b3 l4 u5) k2 + cn : Nat) : Int))), (14, .v (.int .i64 ((k2 : Nat) : Int))), (17, .v (.slice av ((W (Fld.mk ab ac ae af aa ag ah ai) (Tree.at_ (Tree.mk n1 s2 b3 l4 u5) q)).length) aw)), (51, .v (.int .i64 (((knownI l).toNat : Nat) : Int))), (52, .v (.int .i64 ((k2 : Nat) : Int))), (55, .v (.slice A l.length c)), (56, .v (.int .i64 ((l.length : Nat) : Int))), (57, .v (.int .i64 ((q : Nat) : Int)))]) kz fun m6 eG => ?_)
       clear eE
       refine ⟨fun h => absurd rfl h, ?_⟩
       refine anyC_done kz ?_ _
       refine then_normal ?_
       refine go_seq_region [0, 1, 2, 3, 4, 5, 6, 7, 8, 9, 10, 11, 12] kz ?_
       refine go_rn [0, 1, 2] [3, 4, 5, 6, 7, 8, 9, 10, 11, 12] [(0, .v (.slice A l.length c)), (1, .v (.int .i64 v)), (2, .v (.bool flex)), (7, .p 0 0), (9, .v (.slice A_ ((bodyB W l v (Tree.mk n1 s2 b3 l4 u5) 0).length) c_)), (11, .v (.int .i64 ((tagsN W l (Tree.mk n1 s2 b3 l4 u5) k2 + cn : Nat) : Int))), (14, .v (.int .i64 ((k2 : Nat) : Int))), (17, .v (.slice av ((W (Fld.mk ab ac ae af aa ag ah ai) (Tree.at_ (Tree.mk n1 s2 b3 l4 u5) q)).length) aw)), (51, .v (.int .i64 (((knownI l).toNat : Nat) : Int))), (52, .v (.int .i64 ((k2 : Nat) : Int))), (55, .v (.slice A l.length c)), (56, .v (.int .i64 ((l.length : Nat) : Int))), (57, .v (.int .i64 ((q : Nat) : Int))), (81, .v (.slice A3_ ((tagsK W l (Tree.mk n1 s2 b3 l4 u5) k2 ++ dm).length) c3_)), (83, .v (.int .u64 (IntKind.u64.wrap ((k2 : Nat) : Int))))] bL eG fun m7 eH => ?_
       clear eG
       have ix : IntKind.u64.wrap ((k2 : Nat) : Int) = ((k2 : Nat) : Int) := by simp only [wrap_u64, wrap_u32, wrap_u16, IntKind.wrap_i64, IntKind.wrap_i32]; omega
       have eI := EnvOk.pick eH (ks := [0, 1, 2, 7, 9, 11, 14, 17, 51, 52, 55, 56, 57, 81, 83]) (env' := [(0, .v (.slice A l.length c)), (1, .v (.int .i64 v)), (2, .v (.bool flex)), (7, .p 0 0), (9, .v (.slice A_ ((bodyB W l v (Tree.mk n1 s2 b3 l4 u5) 0).length) c_)), (11, .v (.int .i64 ((tagsN W l (Tree.mk n1 s2 b3 l4 u5) k2 + cn : Nat) : Int))), (14, .v (.int .i64 ((k2 : Nat) : Int))), (17, .v (.slice av ((W (Fld.mk ab ac ae af aa ag ah ai) (Tree.at_ (Tree.mk n1 s2 b3 l4 u5) q)).length) aw)), (51, .v (.int .i64 (((knownI l).toNat : Nat) : Int))), (52, .v (.int .i64 ((k2 : Nat) : Int))), (55, .v (.slice A l.length c)), (56, .v (.int .i64 ((l.length : Nat) : Int))), (57, .v (.int .i64 ((q : Nat) : Int))), (81, .v (.slice A3_ ((tagsK W l (Tree.mk n1 s2 b3 l4 u5) k2 ++ dm).length) c3_)), (83, .v (.int .u64 (IntKind.u64.wrap ((k2 : Nat) : Int))))]) kz
       have eJ := eI.cast (env' := [(0, .v (.slice A l.length c)), (1, .v (.int .i64 v)), (2, .v (.bool flex)), (7, .p 0 0), (9, .v (.slice A_ ((bodyB W l v (Tree.mk n1 s2 b3 l4 u5) 0).length) c_)), (11, .v (.int .i64 ((tagsN W l (Tree.mk n1 s2 b3 l4 u5) k2 + cn : Nat) : Int))), (14, .v (.int .i64 ((k2 : Nat) : Int))), (17, .v (.slice av ((W (Fld.mk ab ac ae af aa ag ah ai) (Tree.at_ (Tree.mk n1 s2 b3 l4 u5) q)).length) aw)), (51, .v (.int .i64 (((knownI l).toNat : Nat) : Int))), (52, .v (.int .i64 ((k2 : Nat) : Int))), (55, .v (.slice A l.length c)), (56, .v (.int .i64 ((l.length : Nat) : Int))), (57, .v (.int .i64 ((q : Nat) : Int))), (81, .v (.slice A3_ ((tagsK W l (Tree.mk n1 s2 b3 l4 u5) k2 ++ dm).length) c3_)), (83, .v (.int .u64 ((k2 : Nat) : Int)))]) (by rw [ix])
       clear eH eI
       refine of_op (wpOp_call eJ (f := 93) (vs := [.int .u64 ((k2 : Nat) : Int)]) (d := 84) kz Tryz.call93 (sUvarint k2 (by omega) _) ?_)
       rintro e_ m8 ⟨bY, bZ, rfl, iy, iz⟩
       refine ⟨_, rfl, fun m9 eK => ?_⟩
       obtain ⟨cm, iA⟩ := bL.frFresh iz (brow bY bZ 5 (uv k2)) (Nat.le_refl _) iy
       clear eJ bL
       refine of_op (wpOp_append cm eK (k := 1) (d := 85) (t := 22) (e := 5) (size := 1) (bytes := 1) (A := A3_) (As := bY) (m0 := ((tagsK W l (Tree.mk n1 s2 b3 l4 u5) k2 ++ dm).length)) (c := c3_) (m := ((uv k2).length)) (cs := bZ) (xs := (bc (tagsK W l (Tree.mk n1 s2 b3 l4 u5) k2 ++ dm))) (news := bc (uv k2)) kz kz rfl (own_src (cm.own 3 _ rfl) (bc_one _)) (own_cap (cm.own 3 _ rfl)) (by have h_ := congrArg List.length hB2; rw [tagB_pos ap (by omega) (by simpa using aA)] at h_; simp only [List.length_append] at h_ ⊢; omega) fun aQ aR na nb iB eL eM => ?_)
       clear eK cm
       have iC : (⟨aQ, aR, 5, 1, (tagsK W l (Tree.mk n1 s2 b3 l4 u5) k2 ++ dm).length + (uv k2).length, bc (tagsK W l (Tree.mk n1 s2 b3 l4 u5) k2 ++ dm) ++ bc (uv k2)⟩ : Rw) = brow aQ aR 5 (tagsK W l (Tree.mk n1 s2 b3 l4 u5) k2 ++ dm ++ (uv k2)) := brow_eq (rfl) rfl
       obtain ⟨dt, iD⟩ := eL.rowEq 1 [brow A_ c_ 5 (bodyB W l v (Tree.mk n1 s2 b3 l4 u5) 0), brow aQ aR 5 (tagsK W l (Tree.mk n1 s2 b3 l4 u5) k2 ++ dm ++ (uv k2)), brow av aw 5 (W (Fld.mk ab ac ae af aa ag ah ai) (Tree.at_ (Tree.mk n1 s2 b3 l4 u5) q)), brow bY bZ 5 (uv k2)] iC
       clear eL
       have eN := EnvOk.pick eM (ks := [0, 1, 2, 7, 9, 11, 14, 17, 51, 52, 55, 56, 57, 81, 83, 84, 85]) (env' := [(0, .v (.slice A l.length c)), (1, .v (.int .i64 v)), (2, .v (.bool flex)), (7, .p 0 0), (9, .v (.slice A_ ((bodyB W l v (Tree.mk n1 s2 b3 l4 u5) 0).length) c_)), (11, .v (.int .i64 ((tagsN W l (Tree.mk n1 s2 b3 l4 u5) k2 + cn : Nat) : Int))), (14, .v (.int .i64 ((k2 : Nat) : Int))), (17, .v (.slice av ((W (Fld.mk ab ac ae af aa ag ah ai) (Tree.at_ (Tree.mk n1 s2 b3 l4 u5) q)).length) aw)), (51, .v (.int .i64 (((knownI l).toNat : Nat) : Int))), (52, .v (.int .i64 ((k2 : Nat) : Int))), (55, .v (.slice A l.length c)), (56, .v (.int .i64 ((l.length : Nat) : Int))), (57, .v (.int .i64 ((q : Nat) : Int))), (81, .v (.slice A3_ ((tagsK W l (Tree.mk n1 s2 b3 l4 u5) k2 ++ dm).length) c3_)), (83, .v (.int .u64 ((k2 : Nat) : Int))), (84, .v (.slice bY ((uv k2).length) bZ)), (85, .v (.slice aQ ((tagsK W l (Tree.mk n1 s2 b3 l4 u5) k2 ++ dm).length + (uv k2).length) aR))]) kz
       have eO := eN.cast (env' := [(0, .v (.slice A l.length c)), (1, .v (.int .i64 v)), (2, .v (.bool flex)), (7, .p 0 0), (9, .v (.slice A_ ((bodyB W l v (Tree.mk n1 s2 b3 l4 u5) 0).length) c_)), (11, .v (.int .i64 ((tagsN W l (Tree.mk n1 s2 b3 l4 u5) k2 + cn : Nat) : Int))), (14, .v (.int .i64 ((k2 : Nat) : Int))), (17, .v (.slice av ((W (Fld.mk ab ac ae af aa ag ah ai) (Tree.at_ (Tree.mk n1 s2 b3 l4 u5) q)).length) aw)), (51, .v (.int .i64 (((knownI l).toNat : Nat) : Int))), (52, .v (.int .i64 ((k2 : Nat) : Int))), (55, .v (.slice A l.length c)), (56, .v (.int .i64 ((l.length : Nat) : Int))), (57, .v (.int .i64 ((q : Nat) : Int))), (81, .v (.slice A3_ ((tagsK W l (Tree.mk n1 s2 b3 l4 u5) k2 ++ dm).length) c3_)), (83, .v (.int .u64 ((k2 : Nat) : Int))), (84, .v (.slice bY ((uv k2).length) bZ)), (85, .v (.slice aQ ((tagsK W l (Tree.mk n1 s2 b3 l4 u5) k2 ++ dm ++ (uv k2)).length) aR))]) (by simp only [List.length_append, List.length_cons, List.length_nil, Nat.zero_add])
       clear eM
       clear eN
       refine go_rn [5, 6, 7] [8, 9, 10, 11, 12] [(0, .v (.slice A l.length c)), (1, .v (.int .i64 v)), (2, .v (.bool flex)), (7, .p 0 0), (9, .v (.slice A_ ((bodyB W l v (Tree.mk n1 s2 b3 l4 u5) 0).length) c_)), (11, .v (.int .i64 ((tagsN W l (Tree.mk n1 s2 b3 l4 u5) k2 + cn : Nat) : Int))), (14, .v (.int .i64 ((k2 : Nat) : Int))), (17, .v (.slice av ((W (Fld.mk ab ac ae af aa ag ah ai) (Tree.at_ (Tree.mk n1 s2 b3 l4 u5) q)).length) aw)), (51, .v (.int .i64 (((knownI l).toNat : Nat) : Int))), (52, .v (.int .i64 ((k2 : Nat) : Int))), (55, .v (.slice A l.length c)), (56, .v (.int .i64 ((l.length : Nat) : Int))), (57, .v (.int .i64 ((q : Nat) : Int))), (85, .v (.slice aQ ((tagsK W l (Tree.mk n1 s2 b3 l4 u5) k2 ++ dm ++ (uv k2)).length) aR)), (88, .v (.int .u64 (IntKind.u64.wrap (((W (Fld.mk ab ac ae af aa ag ah ai) (Tree.at_ (Tree.mk n1 s2 b3 l4 u5) q)).length : Nat) : Int))))] dt eO fun nc eP => ?_
       clear eO
       have iE : IntKind.u64.wrap (((W (Fld.mk ab ac ae af aa ag ah ai) (Tree.at_ (Tree.mk n1 s2 b3 l4 u5) q)).length : Nat) : Int) = (((W (Fld.mk ab ac ae af aa ag ah ai) (Tree.at_ (Tree.mk n1 s2 b3 l4 u5) q)).length : Nat) : Int) := by simp only [wrap_u64, wrap_u32, wrap_u16, IntKind.wrap_i64, IntKind.wrap_i32]; omega
       have eQ := EnvOk.pick eP (ks := [0, 1, 2, 7, 9, 11, 14, 17, 51, 52, 55, 56, 57, 85, 88]) (env' := [(0, .v (.slice A l.length c)), (1, .v (.int .i64 v)), (2, .v (.bool flex)), (7, .p 0 0), (9, .v (.slice A_ ((bodyB W l v (Tree.mk n1 s2 b3 l4 u5) 0).length) c_)), (11, .v (.int .i64 ((tagsN W l (Tree.mk n1 s2 b3 l4 u5) k2 + cn : Nat) : Int))), (14, .v (.int .i64 ((k2 : Nat) : Int))), (17, .v (.slice av ((W (Fld.mk ab ac ae af aa ag ah ai) (Tree.at_ (Tree.mk n1 s2 b3 l4 u5) q)).length) aw)), (51, .v (.int .i64 (((knownI l).toNat : Nat) : Int))), (52, .v (.int .i64 ((k2 : Nat) : Int))), (55, .v (.slice A l.length c)), (56, .v (.int .i64 ((l.length : Nat) : Int))), (57, .v (.int .i64 ((q : Nat) : Int))), (85, .v (.slice aQ ((tagsK W l (Tree.mk n1 s2 b3 l4 u5) k2 ++ dm ++ (uv k2)).length) aR)), (88, .v (.int .u64 (IntKind.u64.wrap (((W (Fld.mk ab ac ae af aa ag ah ai) (Tree.at_ (Tree.mk n1 s2 b3 l4 u5) q)).length : Nat) : Int))))]) kz
       have eR := eQ.cast (env' := [(0, .v (.slice A l.length c)), (1, .v (.int .i64 v)), (2, .v (.bool flex)), (7, .p 0 0), (9, .v (.slice A_ ((bodyB W l v (Tree.mk n1 s2 b3 l4 u5) 0).length) c_)), (11, .v (.int .i64 ((tagsN W l (Tree.mk n1 s2 b3 l4 u5) k2 + cn : Nat) : Int))), (14, .v (.int .i64 ((k2 : Nat) : Int))), (17, .v (.slice av ((W (Fld.mk ab ac ae af aa ag ah ai) (Tree.at_ (Tree.mk n1 s2 b3 l4 u5) q)).length) aw)), (51, .v (.int .i64 (((knownI l).toNat : Nat) : Int))), (52, .v (.int .i64 ((k2 : Nat) : Int))), (55, .v (.slice A l.length c)), (56, .v (.int .i64 ((l.length : Nat) : Int))), (57, .v (.int .i64 ((q : Nat) : Int))), (85, .v (.slice aQ ((tagsK W l (Tree.mk n1 s2 b3 l4 u5) k2 ++ dm ++ (uv k2)).length) aR)), (88, .v (.int .u64 (((W (Fld.mk ab ac ae af aa ag ah ai) (Tree.at_ (Tree.mk n1 s2 b3 l4 u5) q)).length : Nat) : Int)))]) (by rw [iE])
       clear eP eQ
       refine of_op (wpOp_call eR (f := 93) (vs := [.int .u64 (((W (Fld.mk ab ac ae af aa ag ah ai) (Tree.at_ (Tree.mk n1 s2 b3 l4 u5) q)).length : Nat) : Int)]) (d := 89) kz Tryz.call93 (sUvarint ((W (Fld.mk ab ac ae af aa ag ah ai) (Tree.at_ (Tree.mk n1 s2 b3 l4 u5) q)).length) (by omega) _) ?_)
       rintro e_ nf ⟨cE, cG, rfl, iF, iG⟩
       refine ⟨_, rfl, fun ng eS => ?_⟩
       obtain ⟨cq, iH⟩ := dt.frFresh iG (brow cE cG 5 (uv ((W (Fld.mk ab ac ae af aa ag ah ai) (Tree.at_ (Tree.mk n1 s2 b3 l4 u5) q)).length))) (Nat.le_refl _) iF
       clear eR dt
       refine of_op (wpOp_append cq eS (k := 1) (d := 90) (t := 22) (e := 5) (size := 1) (bytes := 1) (A := aQ) (As := cE) (m0 := ((tagsK W l (Tree.mk n1 s2 b3 l4 u5) k2 ++ dm ++ (uv k2)).length)) (c := aR) (m := ((uv ((W (Fld.mk ab ac ae af aa ag ah ai) (Tree.at_ (Tree.mk n1 s2 b3 l4 u5) q)).length)).length)) (cs := cG) (xs := (bc (tagsK W l (Tree.mk n1 s2 b3 l4 u5) k2 ++ dm ++ (uv k2)))) (news := bc (uv ((W (Fld.mk ab ac ae af aa ag ah ai) (Tree.at_ (Tree.mk n1 s2 b3 l4 u5) q)).length))) kz kz rfl (own_src (cq.own 4 _ rfl) (bc_one _)) (own_cap (cq.own 4 _ rfl)) (by have h_ := congrArg List.length hB2; rw [tagB_pos ap (by omega) (by simpa using aA)] at h_; simp only [List.length_append] at h_ ⊢; omega) fun bf bg nh ni iI eT eU => ?_)
       clear eS cq
       have iJ : (⟨bf, bg, 5, 1, (tagsK W l (Tree.mk n1 s2 b3 l4 u5) k2 ++ dm ++ (uv k2)).length + (uv ((W (Fld.mk ab ac ae af aa ag ah ai) (Tree.at_ (Tree.mk n1 s2 b3 l4 u5) q)).length)).length, bc (tagsK W l (Tree.mk n1 s2 b3 l4 u5) k2 ++ dm ++ (uv k2)) ++ bc (uv ((W (Fld.mk ab ac ae af aa ag ah ai) (Tree.at_ (Tree.mk n1 s2 b3 l4 u5) q)).length))⟩ : Rw) = brow bf bg 5 (tagsK W l (Tree.mk n1 s2 b3 l4 u5) k2 ++ dm ++ (uv k2) ++ (uv ((W (Fld.mk ab ac ae af aa ag ah ai) (Tree.at_ (Tree.mk n1 s2 b3 l4 u5) q)).length))) := brow_eq (rfl) rfl
       obtain ⟨bM, iK⟩ := eT.rowEq 1 [brow A_ c_ 5 (bodyB W l v (Tree.mk n1 s2 b3 l4 u5) 0), brow bf bg 5 (tagsK W l (Tree.mk n1 s2 b3 l4 u5) k2 ++ dm ++ (uv k2) ++ (uv ((W (Fld.mk ab ac ae af aa ag ah ai) (Tree.at_ (Tree.mk n1 s2 b3 l4 u5) q)).length))), brow av aw 5 (W (Fld.mk ab ac ae af aa ag ah ai) (Tree.at_ (Tree.mk n1 s2 b3 l4 u5) q)), brow bY bZ 5 (uv k2), brow cE cG 5 (uv ((W (Fld.mk ab ac ae af aa ag ah ai) (Tree.at_ (Tree.mk n1 s2 b3 l4 u5) q)).length))] iJ
       clear eT
       have eV := EnvOk.pick eU (ks := [0, 1, 2, 7, 9, 11, 14, 17, 51, 52, 55, 56, 57, 85, 88, 89, 90]) (env' := [(0, .v (.slice A l.length c)), (1, .v (.int .i64 v)), (2, .v (.bool flex)), (7, .p 0 0), (9, .v (.slice A_ ((bodyB W l v (Tree.mk n1 s2 b3 l4 u5) 0).length) c_)), (11, .v (.int .i64 ((tagsN W l (Tree.mk n1 s2 b3 l4 u5) k2 + cn : Nat) : Int))), (14, .v (.int .i64 ((k2 : Nat) : Int))), (17, .v (.slice av ((W (Fld.mk ab ac ae af aa ag ah ai) (Tree.at_ (Tree.mk n1 s2 b3 l4 u5) q)).length) aw)), (51, .v (.int .i64 (((knownI l).toNat : Nat) : Int))), (52, .v (.int .i64 ((k2 : Nat) : Int))), (55, .v (.slice A l.length c)), (56, .v (.int .i64 ((l.length : Nat) : Int))), (57, .v (.int .i64 ((q : Nat) : Int))), (85, .v (.slice aQ ((tagsK W l (Tree.mk n1 s2 b3 l4 u5) k2 ++ dm ++ (uv k2)).length) aR)), (88, .v (.int .u64 (((W (Fld.mk ab ac ae af aa ag ah ai) (Tree.at_ (Tree.mk n1 s2 b3 l4 u5) q)).length : Nat) : Int))), (89, .v (.slice cE ((uv ((W (Fld.mk ab ac ae af aa ag ah ai) (Tree.at_ (Tree.mk n1 s2 b3 l4 u5) q)).length)).length) cG)), (90, .v (.slice bf ((tagsK W l (Tree.mk n1 s2 b3 l4 u5) k2 ++ dm ++ (uv k2)).length + (uv ((W (Fld.mk ab ac ae af aa ag ah ai) (Tree.at_ (Tree.mk n1 s2 b3 l4 u5) q)).length)).length) bg))]) kz
       have eW := eV.cast (env' := [(0, .v (.slice A l.length c)), (1, .v (.int .i64 v)), (2, .v (.bool flex)), (7, .p 0 0), (9, .v (.slice A_ ((bodyB W l v (Tree.mk n1 s2 b3 l4 u5) 0).length) c_)), (11, .v (.int .i64 ((tagsN W l (Tree.mk n1 s2 b3 l4 u5) k2 + cn : Nat) : Int))), (14, .v (.int .i64 ((k2 : Nat) : Int))), (17, .v (.slice av ((W (Fld.mk ab ac ae af aa ag ah ai) (Tree.at_ (Tree.mk n1 s2 b3 l4 u5) q)).length) aw)), (51, .v (.int .i64 (((knownI l).toNat : Nat) : Int))), (52, .v (.int .i64 ((k2 : Nat) : Int))), (55, .v (.slice A l.length c)), (56, .v (.int .i64 ((l.length : Nat) : Int))), (57, .v (.int .i64 ((q : Nat) : Int))), (85, .v (.slice aQ ((tagsK W l (Tree.mk n1 s2 b3 l4 u5) k2 ++ dm ++ (uv k2)).length) aR)), (88, .v (.int .u64 (((W (Fld.mk ab ac ae af aa ag ah ai) (Tree.at_ (Tree.mk n1 s2 b3 l4 u5) q)).length : Nat) : Int))), (89, .v (.slice cE ((uv ((W (Fld.mk ab ac ae af aa ag ah ai) (Tree.at_ (Tree.mk n1 s2 b3 l4 u5) q)).length)).length) cG)), (90, .v (.slice bf ((tagsK W l (Tree.mk n1 s2 b3 l4 u5) k2 ++ dm ++ (uv k2) ++ (uv ((W (Fld.mk ab ac ae af aa ag ah ai) (Tree.at_ (Tree.mk n1 s2 b3 l4 u5) q)).length))).length) bg))]) (by simp only [List.length_append, List.length_cons, List.length_nil, Nat.zero_add])
       clear eU
       clear eV
       refine go_rn [10] [11, 12] [(0, .v (.slice A l.length c)), (1, .v (.int .i64 v)), (2, .v (.bool flex)), (7, .p 0 0), (9, .v (.slice A_ ((bodyB W l v (Tree.mk n1 s2 b3 l4 u5) 0).length) c_)), (11, .v (.int .i64 ((tagsN W l (Tree.mk n1 s2 b3 l4 u5) k2 + cn : Nat) : Int))), (14, .v (.int .i64 ((k2 : Nat) : Int))), (51, .v (.int .i64 (((knownI l).toNat : Nat) : Int))), (52, .v (.int .i64 ((k2 : Nat) : Int))), (55, .v (.slice A l.length c)), (56, .v (.int .i64 ((l.length : Nat) : Int))), (57, .v (.int .i64 ((q : Nat) : Int))), (90, .v (.slice bf ((tagsK W l (Tree.mk n1 s2 b3 l4 u5) k2 ++ dm ++ (uv k2) ++ (uv ((W (Fld.mk ab ac ae af aa ag ah ai) (Tree.at_ (Tree.mk n1 s2 b3 l4 u5) q)).length))).length) bg)), (91, .v (.slice av ((W (Fld.mk ab ac ae af aa ag ah ai) (Tree.at_ (Tree.mk n1 s2 b3 l4 u5) q)).length) aw))] bM eW fun nj eX => ?_
       clear eW
       refine of_op (wpOp_append bM eX (k := 1) (d := 92) (t := 22) (e := 5) (size := 1) (bytes := 1) (A := bf) (As := av) (m0 := ((tagsK W l (Tree.mk n1 s2 b3 l4 u5) k2 ++ dm ++ (uv k2) ++ (uv ((W (Fld.mk ab ac ae af aa ag ah ai) (Tree.at_ (Tree.mk n1 s2 b3 l4 u5) q)).length))).length)) (c := bg) (m := ((W (Fld.mk ab ac ae af aa ag ah ai) (Tree.at_ (Tree.mk n1 s2 b3 l4 u5) q)).length)) (cs := aw) (xs := (bc (tagsK W l (Tree.mk n1 s2 b3 l4 u5) k2 ++ dm ++ (uv k2) ++ (uv ((W (Fld.mk ab ac ae af aa ag ah ai) (Tree.at_ (Tree.mk n1 s2 b3 l4 u5) q)).length))))) (news := bc (W (Fld.mk ab ac ae af aa ag ah ai) (Tree.at_ (Tree.mk n1 s2 b3 l4 u5) q))) kz kz rfl (own_src (bM.own 2 _ rfl) (bc_one _)) (own_cap (bM.own 2 _ rfl)) (by have h_ := congrArg List.length hB2; rw [tagB_pos ap (by omega) (by simpa using aA)] at h_; simp only [List.length_append] at h_ ⊢; omega) fun aJ aK nk nl iL eY eZ => ?_)
       clear eX bM
       have iM : (⟨aJ, aK, 5, 1, (tagsK W l (Tree.mk n1 s2 b3 l4 u5) k2 ++ dm ++ (uv k2) ++ (uv ((W (Fld.mk ab ac ae af aa ag ah ai) (Tree.at_ (Tree.mk n1 s2 b3 l4 u5) q)).length))).length + (W (Fld.mk ab ac ae af aa ag ah ai) (Tree.at_ (Tree.mk n1 s2 b3 l4 u5) q)).length, bc (tagsK W l (Tree.mk n1 s2 b3 l4 u5) k2 ++ dm ++ (uv k2) ++ (uv ((W (Fld.mk ab ac ae af aa ag ah ai) (Tree.at_ (Tree.mk n1 s2 b3 l4 u5) q)).length))) ++ bc (W (Fld.mk ab ac ae af aa ag ah ai) (Tree.at_ (Tree.mk n1 s2 b3 l4 u5) q))⟩ : Rw) = brow aJ aK 5 (tagsK W l (Tree.mk n1 s2 b3 l4 u5) k2 ++ dm ++ (uv k2) ++ (uv ((W (Fld.mk ab ac ae af aa ag ah ai) (Tree.at_ (Tree.mk n1 s2 b3 l4 u5) q)).length)) ++ (W (Fld.mk ab ac ae af aa ag ah ai) (Tree.at_ (Tree.mk n1 s2 b3 l4 u5) q))) := brow_eq (rfl) rfl
       obtain ⟨cr, iN⟩ := eY.rowEq 1 [brow A_ c_ 5 (bodyB W l v (Tree.mk n1 s2 b3 l4 u5) 0), brow aJ aK 5 (tagsK W l (Tree.mk n1 s2 b3 l4 u5) k2 ++ dm ++ (uv k2) ++ (uv ((W (Fld.mk ab ac ae af aa ag ah ai) (Tree.at_ (Tree.mk n1 s2 b3 l4 u5) q)).length)) ++ (W (Fld.mk ab ac ae af aa ag ah ai) (Tree.at_ (Tree.mk n1 s2 b3 l4 u5) q))), brow av aw 5 (W (Fld.mk ab ac ae af aa ag ah ai) (Tree.at_ (Tree.mk n1 s2 b3 l4 u5) q)), brow bY bZ 5 (uv k2), brow cE cG 5 (uv ((W (Fld.mk ab ac ae af aa ag ah ai) (Tree.at_ (Tree.mk n1 s2 b3 l4 u5) q)).length))] iM
       clear eY
       have e5 := EnvOk.pick eZ (ks := [0, 1, 2, 7, 9, 11, 14, 51, 52, 55, 56, 57, 90, 91, 92]) (env' := [(0, .v (.slice A l.length c)), (1, .v (.int .i64 v)), (2, .v (.bool flex)), (7, .p 0 0), (9, .v (.slice A_ ((bodyB W l v (Tree.mk n1 s2 b3 l4 u5) 0).length) c_)), (11, .v (.int .i64 ((tagsN W l (Tree.mk n1 s2 b3 l4 u5) k2 + cn : Nat) : Int))), (14, .v (.int .i64 ((k2 : Nat) : Int))), (51, .v (.int .i64 (((knownI l).toNat : Nat) : Int))), (52, .v (.int .i64 ((k2 : Nat) : Int))), (55, .v (.slice A l.length c)), (56, .v (.int .i64 ((l.length : Nat) : Int))), (57, .v (.int .i64 ((q : Nat) : Int))), (90, .v (.slice bf ((tagsK W l (Tree.mk n1 s2 b3 l4 u5) k2 ++ dm ++ (uv k2) ++ (uv ((W (Fld.mk ab ac ae af aa ag ah ai) (Tree.at_ (Tree.mk n1 s2 b3 l4 u5) q)).length))).length) bg)), (91, .v (.slice av ((W (Fld.mk ab ac ae af aa ag ah ai) (Tree.at_ (Tree.mk n1 s2 b3 l4 u5) q)).length) aw)), (92, .v (.slice aJ ((tagsK W l (Tree.mk n1 s2 b3 l4 u5) k2 ++ dm ++ (uv k2) ++ (uv ((W (Fld.mk ab ac ae af aa ag ah ai) (Tree.at_ (Tree.mk n1 s2 b3 l4 u5) q)).length))).length + (W (Fld.mk ab ac ae af aa ag ah ai) (Tree.at_ (Tree.mk n1 s2 b3 l4 u5) q)).length) aK))]) kz
       have e6 := e5.cast (env' := [(0, .v (.slice A l.length c)), (1, .v (.int .i64 v)), (2, .v (.bool flex)), (7, .p 0 0), (9, .v (.slice A_ ((bodyB W l v (Tree.mk n1 s2 b3 l4 u5) 0).length) c_)), (11, .v (.int .i64 ((tagsN W l (Tree.mk n1 s2 b3 l4 u5) k2 + cn : Nat) : Int))), (14, .v (.int .i64 ((k2 : Nat) : Int))), (51, .v (.int .i64 (((knownI l).toNat : Nat) : Int))), (52, .v (.int .i64 ((k2 : Nat) : Int))), (55, .v (.slice A l.length c)), (56, .v (.int .i64 ((l.length : Nat) : Int))), (57, .v (.int .i64 ((q : Nat) : Int))), (90, .v (.slice bf ((tagsK W l (Tree.mk n1 s2 b3 l4 u5) k2 ++ dm ++ (uv k2) ++ (uv ((W (Fld.mk ab ac ae af aa ag ah ai) (Tree.at_ (Tree.mk n1 s2 b3 l4 u5) q)).length))).length) bg)), (91, .v (.slice av ((W (Fld.mk ab ac ae af aa ag ah ai) (Tree.at_ (Tree.mk n1 s2 b3 l4 u5) q)).length) aw)), (92, .v (.slice aJ ((tagsK W l (Tree.mk n1 s2 b3 l4 u5) k2 ++ dm ++ (uv k2) ++ (uv ((W (Fld.mk ab ac ae af aa ag ah ai) (Tree.at_ (Tree.mk n1 s2 b3 l4 u5) q)).length)) ++ (W (Fld.mk ab ac ae af aa ag ah ai) (Tree.at_ (Tree.mk n1 s2 b3 l4 u5) q))).length) aK))]) (by simp only [List.length_append, List.length_cons, List.length_nil, Nat.zero_add])
       clear eZ
       clear e5
       refine go_rn [12] [] [(0, .v (.slice A l.length c)), (1, .v (.int .i64 v)), (2, .v (.bool flex)), (7, .p 0 0), (9, .v (.slice A_ ((bodyB W l v (Tree.mk n1 s2 b3 l4 u5) 0).length) c_)), (10, .v (.slice aJ ((tagsK W l (Tree.mk n1 s2 b3 l4 u5) k2 ++ dm ++ (uv k2) ++ (uv ((W (Fld.mk ab ac ae af aa ag ah ai) (Tree.at_ (Tree.mk n1 s2 b3 l4 u5) q)).length)) ++ (W (Fld.mk ab ac ae af aa ag ah ai) (Tree.at_ (Tree.mk n1 s2 b3 l4 u5) q))).length) aK)), (11, .v (.int .i64 ((tagsN W l (Tree.mk n1 s2 b3 l4 u5) k2 + cn : Nat) : Int))), (14, .v (.int .i64 ((k2 : Nat) : Int))), (51, .v (.int .i64 (((knownI l).toNat : Nat) : Int))), (52, .v (.int .i64 ((k2 : Nat) : Int))), (55, .v (.slice A l.length c)), (56, .v (.int .i64 ((l.length : Nat) : Int))), (57, .v (.int .i64 ((q : Nat) : Int)))] cr e6 fun nm e7 => ?_
       clear e6
       refine wpOps_nil (then_normal ?_)
       refine go_region [0, 1, 2] kz ?_
       refine go_rn [0, 1, 2] [] [(0, .v (.slice A l.length c)), (1, .v (.int .i64 v)), (2, .v (.bool flex)), (7, .p 0 0), (9, .v (.slice A_ ((bodyB W l v (Tree.mk n1 s2 b3 l4 u5) 0).length) c_)), (10, .v (.slice aJ ((tagsK W l (Tree.mk n1 s2 b3 l4 u5) k2 ++ dm ++ (uv k2) ++ (uv ((W (Fld.mk ab ac ae af aa ag ah ai) (Tree.at_ (Tree.mk n1 s2 b3 l4 u5) q)).length)) ++ (W (Fld.mk ab ac ae af aa ag ah ai) (Tree.at_ (Tree.mk n1 s2 b3 l4 u5) q))).length) aK)), (11, .v (.int .i64 (IntKind.i64.wrap (((tagsN W l (Tree.mk n1 s2 b3 l4 u5) k2 + cn : Nat) : Int) + 1)))), (14, .v (.int .i64 ((k2 : Nat) : Int))), (51, .v (.int .i64 (((knownI l).toNat : Nat) : Int))), (52, .v (.int .i64 ((k2 : Nat) : Int))), (55, .v (.slice A l.length c)), (56, .v (.int .i64 ((l.length : Nat) : Int))), (57, .v (.int .i64 ((q : Nat) : Int)))] cr e7 fun np e9 => ?_
       clear e7
       refine wpOps_nil ?_
       refine block_normal ?_
       refine then_normal ?_
       refine go_region [0, 1] kz ?_
       refine go_rn [0, 1] [] [(0, .v (.slice A l.length c)), (1, .v (.int .i64 v)), (2, .v (.bool flex)), (7, .p 0 0), (9, .v (.slice A_ ((bodyB W l v (Tree.mk n1 s2 b3 l4 u5) 0).length) c_)), (10, .v (.slice aJ ((tagsK W l (Tree.mk n1 s2 b3 l4 u5) k2 ++ dm ++ (uv k2) ++ (uv ((W (Fld.mk ab ac ae af aa ag ah ai) (Tree.at_ (Tree.mk n1 s2 b3 l4 u5) q)).length)) ++ (W (Fld.mk ab ac ae af aa ag ah ai) (Tree.at_ (Tree.mk n1 s2 b3 l4 u5) q))).length) aK)), (11, .v (.int .i64 (IntKind.i64.wrap (((tagsN W l (Tree.mk n1 s2 b3 l4 u5) k2 + cn : Nat) : Int) + 1)))), (14, .v (.int .i64 ((k2 : Nat) : Int))), (51, .v (.int .i64 (((knownI l).toNat : Nat) : Int))), (52, .v (.int .i64 ((k2 : Nat) : Int))), (55, .v (.slice A l.length c)), (56, .v (.int .i64 ((l.length : Nat) : Int))), (57, .v (.int .i64 (IntKind.i64.wrap (((q : Nat) : Int) + 1))))] cr e9 fun nr iO => ?_
       clear e9
       refine wpOps_nil (then_normal ?_)
       obtain ⟨cu, iP, iQ⟩ := cr.cutB iO 1 [⟨cL, 0, [.int .i64 n1, .slice A6 s2.length c7, .bool b3, .slice A8 l4.length c9, .slice aW u5.length aX], true⟩] [(0, .v (.slice A l.length c)), (1, .v (.int .i64 v)), (2, .v (.bool flex)), (7, .p 0 0), (9, .v (.slice A_ ((bodyB W l v (Tree.mk n1 s2 b3 l4 u5) 0).length) c_)), (10, .v (.slice aJ ((tagsK W l (Tree.mk n1 s2 b3 l4 u5) k2 ++ dm ++ (uv k2) ++ (uv ((W (Fld.mk ab ac ae af aa ag ah ai) (Tree.at_ (Tree.mk n1 s2 b3 l4 u5) q)).length)) ++ (W (Fld.mk ab ac ae af aa ag ah ai) (Tree.at_ (Tree.mk n1 s2 b3 l4 u5) q))).length) aK)), (11, .v (.int .i64 (IntKind.i64.wrap (((tagsN W l (Tree.mk n1 s2 b3 l4 u5) k2 + cn : Nat) : Int) + 1)))), (14, .v (.int .i64 ((k2 : Nat) : Int))), (51, .v (.int .i64 (((knownI l).toNat : Nat) : Int))), (52, .v (.int .i64 ((k2 : Nat) : Int))), (55, .v (.slice A l.length c)), (56, .v (.int .i64 ((l.length : Nat) : Int))), (57, .v (.int .i64 (IntKind.i64.wrap (((q : Nat) : Int) + 1))))]
       obtain ⟨fa, iR⟩ := iP.cutR 2 [brow A_ c_ 5 (bodyB W l v (Tree.mk n1 s2 b3 l4 u5) 0), brow aJ aK 5 (tagsK W l (Tree.mk n1 s2 b3 l4 u5) k2 ++ dm ++ (uv k2) ++ (uv ((W (Fld.mk ab ac ae af aa ag ah ai) (Tree.at_ (Tree.mk n1 s2 b3 l4 u5) q)).length)) ++ (W (Fld.mk ab ac ae af aa ag ah ai) (Tree.at_ (Tree.mk n1 s2 b3 l4 u5) q)))]
       have fb : (tagsK W l (Tree.mk n1 s2 b3 l4 u5) k2 ++ dm ++ (uv k2) ++ (uv ((W (Fld.mk ab ac ae af aa ag ah ai) (Tree.at_ (Tree.mk n1 s2 b3 l4 u5) q)).length)) ++ (W (Fld.mk ab ac ae af aa ag ah ai) (Tree.at_ (Tree.mk n1 s2 b3 l4 u5) q))) = (tagsK W l (Tree.mk n1 s2 b3 l4 u5) k2 ++ (dm ++ (uv k2 ++ uv (W (Fld.mk ab ac ae af aa ag ah ai) (Tree.at_ (Tree.mk n1 s2 b3 l4 u5) q)).length ++ W (Fld.mk ab ac ae af aa ag ah ai) (Tree.at_ (Tree.mk n1 s2 b3 l4 u5) q)))) := by simp only [List.append_assoc]
       have iS := congrArg (brow aJ aK 5) fb
       obtain ⟨iT, iU⟩ := fa.rowEq 1 [brow A_ c_ 5 (bodyB W l v (Tree.mk n1 s2 b3 l4 u5) 0), brow aJ aK 5 (tagsK W l (Tree.mk n1 s2 b3 l4 u5) k2 ++ (dm ++ (uv k2 ++ uv (W (Fld.mk ab ac ae af aa ag ah ai) (Tree.at_ (Tree.mk n1 s2 b3 l4 u5) q)).length ++ W (Fld.mk ab ac ae af aa ag ah ai) (Tree.at_ (Tree.mk n1 s2 b3 l4 u5) q))))] iS
       clear fa
       rw [fb] at cu
       have iV : IntKind.i64.wrap (((q : Nat) : Int) + 1) = ((q + 1 : Nat) : Int) := wrap_succ (by omega)
       rw [iV] at cu
       have iW : IntKind.i64.wrap (((tagsN W l (Tree.mk n1 s2 b3 l4 u5) k2 + cn : Nat) : Int) + 1) = ((tagsN W l (Tree.mk n1 s2 b3 l4 u5) k2 + (cn + 1) : Nat) : Int) := by rw [wrap_i64 (by omega) (by omega)]; omega
       rw [iW] at cu
       exact ⟨l.length - (q + 1), by omega, q + 1, aJ, aK, (dm ++ (uv k2 ++ uv (W (Fld.mk ab ac ae af aa ag ah ai) (Tree.at_ (Tree.mk n1 s2 b3 l4 u5) q)).length ++ W (Fld.mk ab ac ae af aa ag ah ai) (Tree.at_ (Tree.mk n1 s2 b3 l4 u5) q))), (cn + 1), rfl, by omega, by rw [List.append_assoc, ← tagB_pos ap (by omega) (by simpa using aA)]; exact hB2, by rw [Nat.add_assoc, ← tagN_pos ap (by omega) (by simpa using aA)]; exact hN2, cu.pk, iT, (((((((((((((((((((cd.trans dc).trans df).trans dg).trans cl).trans dl).trans io).trans dr).trans eF).trans iA).trans iB).trans iD).trans iH).trans iI).trans iK).trans iL).trans iN).trans iQ).trans iR).trans iU)⟩
      ·
       refine wp_skip ?_
       refine block_normal ?_
       refine then_normal ?_
       refine go_region [0, 1] kz ?_
       refine go_rn [0, 1] [] [(0, .v (.slice A l.length c)), (1, .v (.int .i64 v)), (2, .v (.bool flex)), (7, .p 0 0), (9, .v (.slice A_ ((bodyB W l v (Tree.mk n1 s2 b3 l4 u5) 0).length) c_)), (10, .v (.slice A3_ ((tagsK W l (Tree.mk n1 s2 b3 l4 u5) k2 ++ dm).length) c3_)), (11, .v (.int .i64 ((tagsN W l (Tree.mk n1 s2 b3 l4 u5) k2 + cn : Nat) : Int))), (14, .v (.int .i64 ((k2 : Nat) : Int))), (51, .v (.int .i64 (((knownI l).toNat : Nat) : Int))), (52, .v (.int .i64 ((k2 : Nat) : Int))), (55, .v (.slice A l.length c)), (56, .v (.int .i64 ((l.length : Nat) : Int))), (57, .v (.int .i64 (IntKind.i64.wrap (((q : Nat) : Int) + 1))))] bG bH fun ns iX => ?_
       clear bH
       refine wpOps_nil (then_normal ?_)
       obtain ⟨fc, iY, iZ⟩ := bG.cutB iX 1 [⟨cL, 0, [.int .i64 n1, .slice A6 s2.length c7, .bool b3, .slice A8 l4.length c9, .slice aW u5.length aX], true⟩] [(0, .v (.slice A l.length c)), (1, .v (.int .i64 v)), (2, .v (.bool flex)), (7, .p 0 0), (9, .v (.slice A_ ((bodyB W l v (Tree.mk n1 s2 b3 l4 u5) 0).length) c_)), (10, .v (.slice A3_ ((tagsK W l (Tree.mk n1 s2 b3 l4 u5) k2 ++ dm).length) c3_)), (11, .v (.int .i64 ((tagsN W l (Tree.mk n1 s2 b3 l4 u5) k2 + cn : Nat) : Int))), (14, .v (.int .i64 ((k2 : Nat) : Int))), (51, .v (.int .i64 (((knownI l).toNat : Nat) : Int))), (52, .v (.int .i64 ((k2 : Nat) : Int))), (55, .v (.slice A l.length c)), (56, .v (.int .i64 ((l.length : Nat) : Int))), (57, .v (.int .i64 (IntKind.i64.wrap (((q : Nat) : Int) + 1))))]
       have i6 : IntKind.i64.wrap (((q : Nat) : Int) + 1) = ((q + 1 : Nat) : Int) := wrap_succ (by omega)
       rw [i6] at fc
       exact ⟨l.length - (q + 1), by omega, q + 1, A3_, c3_, dm, cn, rfl, by omega, by rw [← tagB_neg2 ap (by simpa using aA)]; exact hB2, by rw [← tagN_neg2 ap (by simpa using aA)]; exact hN2, fc.pk, iY, ((((((cd.trans dc).trans df).trans dg).trans cl).trans dl).trans iZ)⟩
     ·
      have ld : aa ≠ ((k2 : Nat) : Int) := by simpa using bE
      have fe := cg.cast (env' := [(0, .v (.slice A l.length c)), (1, .v (.int .i64 v)), (2, .v (.bool flex)), (7, .p 0 0), (9, .v (.slice A_ ((bodyB W l v (Tree.mk n1 s2 b3 l4 u5) 0).length) c_)), (10, .v (.slice A3_ ((tagsK W l (Tree.mk n1 s2 b3 l4 u5) k2 ++ dm).length) c3_)), (11, .v (.int .i64 ((tagsN W l (Tree.mk n1 s2 b3 l4 u5) k2 + cn : Nat) : Int))), (14, .v (.int .i64 ((k2 : Nat) : Int))), (15, .v (.int .i64 ((q : Nat) : Int))), (16, .p 1 0), (51, .v (.int .i64 (((knownI l).toNat : Nat) : Int))), (52, .v (.int .i64 ((k2 : Nat) : Int))), (55, .v (.slice A l.length c)), (56, .v (.int .i64 ((l.length : Nat) : Int))), (57, .v (.int .i64 ((q : Nat) : Int))), (66, .v (.bool false))]) (by rw [bE])
      clear cg
      refine go_rnD [5, 6, 7, 8, 9, 10, 11] [(0, .v (.slice A l.length c)), (1, .v (.int .i64 v)), (2, .v (.bool flex)), (7, .p 0 0), (9, .v (.slice A_ ((bodyB W l v (Tree.mk n1 s2 b3 l4 u5) 0).length) c_)), (10, .v (.slice A3_ ((tagsK W l (Tree.mk n1 s2 b3 l4 u5) k2 ++ dm).length) c3_)), (11, .v (.int .i64 ((tagsN W l (Tree.mk n1 s2 b3 l4 u5) k2 + cn : Nat) : Int))), (14, .v (.int .i64 ((k2 : Nat) : Int))), (15, .v (.int .i64 ((q : Nat) : Int))), (16, .p 1 0), (51, .v (.int .i64 (((knownI l).toNat : Nat) : Int))), (52, .v (.int .i64 ((k2 : Nat) : Int))), (55, .v (.slice A l.length c)), (56, .v (.int .i64 ((l.length : Nat) : Int))), (57, .v (.int .i64 ((q : Nat) : Int))), (73, .v (.bool false))] 0 (panicFree_then (panicFree_block (panicFree_then (panicFree_then (panicFree_block (panicFree_block (panicFree_then (panicFree_then (panicFree_block (panicFree_then panicFree_body)))))))))) (fun _ h => h.cells) dh fe fun nt du => ?_
      clear fe
      refine anyC_done kz ?_ _
      refine then_normal ?_
      refine cond_false du (b := false) kz rfl ?_
      refine wp_skip ?_
      refine block_normal ?_
      refine then_normal ?_
      refine go_region [0, 1] kz ?_
      refine go_rn [0, 1] [] [(0, .v (.slice A l.length c)), (1, .v (.int .i64 v)), (2, .v (.bool flex)), (7, .p 0 0), (9, .v (.slice A_ ((bodyB W l v (Tree.mk n1 s2 b3 l4 u5) 0).length) c_)), (10, .v (.slice A3_ ((tagsK W l (Tree.mk n1 s2 b3 l4 u5) k2 ++ dm).length) c3_)), (11, .v (.int .i64 ((tagsN W l (Tree.mk n1 s2 b3 l4 u5) k2 + cn : Nat) : Int))), (14, .v (.int .i64 ((k2 : Nat) : Int))), (51, .v (.int .i64 (((knownI l).toNat : Nat) : Int))), (52, .v (.int .i64 ((k2 : Nat) : Int))), (55, .v (.slice A l.length c)), (56, .v (.int .i64 ((l.length : Nat) : Int))), (57, .v (.int .i64 (IntKind.i64.wrap (((q : Nat) : Int) + 1))))] aP du fun nu i7 => ?_
      clear du
      refine wpOps_nil (then_normal ?_)
      obtain ⟨ff, ja, jb⟩ := aP.cutB i7 1 [⟨cL, 0, [.int .i64 n1, .slice A6 s2.length c7, .bool b3, .slice A8 l4.length c9, .slice aW u5.length aX], true⟩] [(0, .v (.slice A l.length c)), (1, .v (.int .i64 v)), (2, .v (.bool flex)), (7, .p 0 0), (9, .v (.slice A_ ((bodyB W l v (Tree.mk n1 s2 b3 l4 u5) 0).length) c_)), (10, .v (.slice A3_ ((tagsK W l (Tree.mk n1 s2 b3 l4 u5) k2 ++ dm).length) c3_)), (11, .v (.int .i64 ((tagsN W l (Tree.mk n1 s2 b3 l4 u5) k2 + cn : Nat) : Int))), (14, .v (.int .i64 ((k2 : Nat) : Int))), (51, .v (.int .i64 (((knownI l).toNat : Nat) : Int))), (52, .v (.int .i64 ((k2 : Nat) : Int))), (55, .v (.slice A l.length c)), (56, .v (.int .i64 ((l.length : Nat) : Int))), (57, .v (.int .i64 (IntKind.i64.wrap (((q : Nat) : Int) + 1))))]
      have jc : IntKind.i64.wrap (((q : Nat) : Int) + 1) = ((q + 1 : Nat) : Int) := wrap_succ (by omega)
      rw [jc] at ff
      exact ⟨l.length - (q + 1), by omega, q + 1, A3_, c3_, dm, cn, rfl, by omega, by rw [← tagB_neg1 ap (by omega)]; exact hB2, by rw [← tagN_neg1 ap (by omega)]; exact hN2, ff.pk, ja, ((((cd.trans dc).trans df).trans dg).trans jb)⟩
    ·
     have lf := of_decide_eq_false c5
     refine wp_exit ?_
     refine then_exit ?_
     refine then_exit ?_
     refine block_exit ?_
     refine block_normal ?_
     refine then_normal ?_
     refine go_region [0, 1] kz ?_
     refine go_rn [0, 1] [] [(0, .v (.slice A l.length c)), (1, .v (.int .i64 v)), (2, .v (.bool flex)), (7, .p 0 0), (9, .v (.slice A_ ((bodyB W l v (Tree.mk n1 s2 b3 l4 u5) 0).length) c_)), (10, .v (.slice A3_ ((tagsK W l (Tree.mk n1 s2 b3 l4 u5) k2 ++ dm).length) c3_)), (11, .v (.int .i64 ((tagsN W l (Tree.mk n1 s2 b3 l4 u5) k2 + cn : Nat) : Int))), (51, .v (.int .i64 (((knownI l).toNat : Nat) : Int))), (52, .v (.int .i64 (IntKind.i64.wrap (((k2 : Nat) : Int) + 1))))] aN bB fun nv cv => ?_
     clear bB
     refine wpOps_nil (then_normal ?_)
     have fg : (tagsK W l (Tree.mk n1 s2 b3 l4 u5) k2 ++ dm) = (tagsK W l (Tree.mk n1 s2 b3 l4 u5) (k2 + 1)) := by rw [tagsK, ← hB2, tagB_end (by omega), List.append_nil]
     have jd := congrArg (brow A3_ c3_ 5) fg
     obtain ⟨je, jf⟩ := aN.rowEq 1 [brow A_ c_ 5 (bodyB W l v (Tree.mk n1 s2 b3 l4 u5) 0), brow A3_ c3_ 5 (tagsK W l (Tree.mk n1 s2 b3 l4 u5) (k2 + 1))] jd
     clear aN
     rw [fg] at cv
     have jg : IntKind.i64.wrap (((k2 : Nat) : Int) + 1) = ((k2 + 1 : Nat) : Int) := wrap_succ (by omega)
     rw [jg] at cv
     have jh : ((tagsN W l (Tree.mk n1 s2 b3 l4 u5) k2 + cn : Nat) : Int) = ((tagsN W l (Tree.mk n1 s2 b3 l4 u5) (k2 + 1) : Nat) : Int) := by rw [tagsN, ← hN2, tagN_end (by omega), Nat.add_zero]
     rw [jh] at cv
     exact ⟨(knownI l).toNat - (k2 + 1), by omega, k2 + 1, A3_, c3_, rfl, by omega, cv.pk, je, (((ig.trans ij).trans cd).trans jf)⟩
   ·
    have lg := of_decide_eq_false cY
    refine wp_exit ?_
    refine then_exit ?_
    refine then_exit ?_
    refine block_exit ?_
    refine then_normal ?_
    refine wp_seq ?_
    refine go_seq_region [0, 1, 2, 3, 4, 5] kz ?_
    refine go_rn [0, 1, 2] [3, 4, 5] [(9, .v (.slice A_ ((bodyB W l v (Tree.mk n1 s2 b3 l4 u5) 0).length) c_)), (10, .v (.slice A2_ ((tagsK W l (Tree.mk n1 s2 b3 l4 u5) k2).length) c2_)), (11, .v (.int .i64 ((tagsN W l (Tree.mk n1 s2 b3 l4 u5) k2 : Nat) : Int))), (97, .v (.slice A l.length c)), (99, .v (.slice aW u5.length aX))] al bA fun nw fh => ?_
    clear bA
    refine of_op (wpOp_call fh (f := 38) (vs := [.slice A l.length c, .slice aW u5.length aX]) (d := 100) kz Tryz.call38 (sUnknown _ _ l _ _ u5 _ _ ⟨xfs, (h1.move al.step nilM al.imm), (fun i_ x_ h_ => ((h2 i_ x_ h_).move al.step nilM al.imm))⟩ (lC.move al.step nilM al.imm)) ?_)
    rintro e_ nx ⟨am, ao, rfl, ji, dv⟩
    have jj := ji.move (Step.refl _ Nil) nilM (al.laid (G := F) dv)
    refine ⟨_, rfl, fun ny fi => ?_⟩
    have dw := al.next_nil dv
    have lh := al.frN dv
    clear fh
    refine go_rn [4, 5] [] [(9, .v (.slice A_ ((bodyB W l v (Tree.mk n1 s2 b3 l4 u5) 0).length) c_)), (10, .v (.slice A2_ ((tagsK W l (Tree.mk n1 s2 b3 l4 u5) k2).length) c2_)), (11, .v (.int .i64 ((tagsN W l (Tree.mk n1 s2 b3 l4 u5) k2 : Nat) : Int))), (100, .v (.slice am ((unknownT l u5).length) ao)), (101, .v (.int .i64 (((unknownT l u5).length : Nat) : Int))), (102, .v (.int .i64 0))] dw fi fun nz dx => ?_
    clear fi
    refine wpOps_nil (then_normal ?_)
    refine wp_block ?_
    obtain ⟨li, jk, kB⟩ := jj.ex
    have kC := jk.small
    have hkk2 : k2 = (knownI l).toNat := by omega
    have hc2 := hcnt k2
    have hm2 := hmono k2 (by omega)
    have fj : (tagsK W l (Tree.mk n1 s2 b3 l4 u5) k2) = (tagsK W l (Tree.mk n1 s2 b3 l4 u5) k2 ++ tagsB ((unknownT l u5).take 0)) := (List.append_nil _).symm
    have jl := congrArg (brow A2_ c2_ 5) fj
    obtain ⟨fk, aO⟩ := dw.rowEq 1 [brow A_ c_ 5 (bodyB W l v (Tree.mk n1 s2 b3 l4 u5) 0), brow A2_ c2_ 5 (tagsK W l (Tree.mk n1 s2 b3 l4 u5) k2 ++ tagsB ((unknownT l u5).take 0))] jl
    clear dw
    rw [fj] at dx
    refine wp_loop_ghost (fun n_ a_ w_ => ∃ (k : Nat) (A4_ : Option Addr) (c4_ : Nat), n_ = (unknownT l u5).length - k ∧ k ≤ (unknownT l u5).length ∧ LInv fk 132 [⟨cL, 0, [.int .i64 n1, .slice A6 s2.length c7, .bool b3, .slice A8 l4.length c9, .slice aW u5.length aX], true⟩] [brow A_ c_ 5 (bodyB W l v (Tree.mk n1 s2 b3 l4 u5) 0), brow A4_ c4_ 5 (tagsK W l (Tree.mk n1 s2 b3 l4 u5) k2 ++ tagsB ((unknownT l u5).take k))] [(9, .v (.slice A_ ((bodyB W l v (Tree.mk n1 s2 b3 l4 u5) 0).length) c_)), (10, .v (.slice A4_ ((tagsK W l (Tree.mk n1 s2 b3 l4 u5) k2 ++ tagsB ((unknownT l u5).take k)).length) c4_)), (11, .v (.int .i64 ((tagsN W l (Tree.mk n1 s2 b3 l4 u5) k2 + k : Nat) : Int))), (100, .v (.slice am ((unknownT l u5).length) ao)), (101, .v (.int .i64 (((unknownT l u5).length : Nat) : Int))), (102, .v (.int .i64 ((k : Nat) : Int)))] a_ w_) ((unknownT l u5).length) ⟨0, A2_, c2_, by omega, by omega, dx.pk, fk, Fr.refl _ _ _⟩ ?_
    clear dx
    rintro nA nB nC ⟨k, A4_, c4_, lj, lm, fl, bd, aI⟩
    refine go_sp [(9, .v (.slice A_ ((bodyB W l v (Tree.mk n1 s2 b3 l4 u5) 0).length) c_)), (10, .v (.slice A4_ ((tagsK W l (Tree.mk n1 s2 b3 l4 u5) k2 ++ tagsB ((unknownT l u5).take k)).length) c4_)), (11, .v (.int .i64 ((tagsN W l (Tree.mk n1 s2 b3 l4 u5) k2 + k : Nat) : Int))), (100, .v (.slice am ((unknownT l u5).length) ao)), (101, .v (.int .i64 (((unknownT l u5).length : Nat) : Int))), (102, .v (.int .i64 ((k : Nat) : Int))), (103, .v (.bool (decide (((k : Nat) : Int) < (((unknownT l u5).length : Nat) : Int)))))] bd fl fun nD bN => ?_
    clear fl
    refine wp_seq ?_
    refine cond_of bN (b := decide (((k : Nat) : Int) < (((unknownT l u5).length : Nat) : Int))) kz (fun dy => ?_) (fun dy => ?_)
    ·
     have ln := of_decide_eq_true dy
     refine wp_skip ?_
     refine then_normal ?_
     refine wp_seq ?_
     refine wp_block ?_
     refine go_seq_region [0, 1, 2, 3] kz ?_
     obtain ⟨kD, kE, jm, lp, dz⟩ := Slots.get jk (i := k) (by omega)
     obtain ⟨⟨ak, aj⟩, bO⟩ : ∃ x, (unknownT l u5)[k]? = some x := ⟨_, List.getElem?_eq_getElem (by omega)⟩
     obtain ⟨⟨ar, au, gz, dA⟩, nE, nF⟩ := kB k ak aj bO
     rw [gz] at dz
     refine of_op (wpOp_index bN (t := 24) (A := am) (m := ((unknownT l u5).length)) (q := ((k : Nat) : Int)) (d := 104) kz (e := 63) (size := 2) (bytes := 32) kz jm rfl (by omega) fun nG fm => ?_)
     clear bN
     refine of_op (wpOp_load fm (t := 63) (b := kD) (o := kE + k * 2) (d := 105) kz (cs := [.int .u32 ak, .slice ar aj.length au]) (v := .agg #[.int .u32 ak, .slice ar aj.length au]) kz (AtF.move dz (aO.trans aI).step immM (aO.trans aI).to').at_ fun nH fo => ?_)
     clear fm
     refine of_op (wpOp_alloc bd fo (d := 19) (cs := [.int .u32 0, .slice none 0 0]) kz fun nI nJ nK lq lr aS fp fq => ?_)
     clear fo bd
     refine of_op (wpOp_store fp fq (oi := 1) (cs := [.int .u32 ak, .slice ar aj.length au]) kz fun nL aT cw fr => ?_)
     clear fq fp
     refine wpOps_nil (then_normal ?_)
     refine go_seq_region [0, 1, 2, 3] kz ?_
     refine go_rn [0, 1] [2, 3] [(9, .v (.slice A_ ((bodyB W l v (Tree.mk n1 s2 b3 l4 u5) 0).length) c_)), (10, .v (.slice A4_ ((tagsK W l (Tree.mk n1 s2 b3 l4 u5) k2 ++ tagsB ((unknownT l u5).take k)).length) c4_)), (11, .v (.int .i64 ((tagsN W l (Tree.mk n1 s2 b3 l4 u5) k2 + k : Nat) : Int))), (19, .p 1 0), (100, .v (.slice am ((unknownT l u5).length) ao)), (101, .v (.int .i64 (((unknownT l u5).length : Nat) : Int))), (102, .v (.int .i64 ((k : Nat) : Int))), (107, .v (.slice ar aj.length au))] cw fr fun nM ft => ?_
     clear fr
     have kF := whole_le aj
     refine of_op (wpOp_call ft (f := 39) (vs := [.slice ar aj.length au]) (d := 108) kz Tryz.call39 (sWhole _ _ aj (dA.move (((aO.trans aI).trans aS).trans aT).step immM (((aO.trans aI).trans aS).trans aT).to').le _) ?_)
     rintro e_ nN ⟨rfl, fu⟩
     refine ⟨_, rfl, fun nO fv => ?_⟩
     have cy := cw.next_nil fu
     have bP := cw.frN fu
     clear ft cw
     refine go_rn [3] [] [(9, .v (.slice A_ ((bodyB W l v (Tree.mk n1 s2 b3 l4 u5) 0).length) c_)), (10, .v (.slice A4_ ((tagsK W l (Tree.mk n1 s2 b3 l4 u5) k2 ++ tagsB ((unknownT l u5).take k)).length) c4_)), (11, .v (.int .i64 ((tagsN W l (Tree.mk n1 s2 b3 l4 u5) k2 + k : Nat) : Int))), (19, .p 1 0), (20, .v (.slice ar ((whole aj).length) au)), (100, .v (.slice am ((unknownT l u5).length) ao)), (101, .v (.int .i64 (((unknownT l u5).length : Nat) : Int))), (102, .v (.int .i64 ((k : Nat) : Int)))] cy fv fun nP fw => ?_
     clear fv
     refine wpOps_nil (then_normal ?_)
     refine go_seq_region [0, 1, 2, 3, 4, 5, 6, 7, 8, 9, 10, 11, 12, 13] kz ?_
     refine go_rn [0, 1, 2, 3] [4, 5, 6, 7, 8, 9, 10, 11, 12, 13] [(9, .v (.slice A_ ((bodyB W l v (Tree.mk n1 s2 b3 l4 u5) 0).length) c_)), (11, .v (.int .i64 ((tagsN W l (Tree.mk n1 s2 b3 l4 u5) k2 + k : Nat) : Int))), (20, .v (.slice ar ((whole aj).length) au)), (100, .v (.slice am ((unknownT l u5).length) ao)), (101, .v (.int .i64 (((unknownT l u5).length : Nat) : Int))), (102, .v (.int .i64 ((k : Nat) : Int))), (109, .v (.slice A4_ ((tagsK W l (Tree.mk n1 s2 b3 l4 u5) k2 ++ tagsB ((unknownT l u5).take k)).length) c4_)), (112, .v (.int .u64 (IntKind.u64.wrap ak)))] cy fw fun nQ fx => ?_
     clear fw
     have jn : IntKind.u64.wrap ak = ((ak.toNat : Nat) : Int) := by simp only [wrap_u64, wrap_u32, wrap_u16, IntKind.wrap_i64, IntKind.wrap_i32]; omega
     have fy := EnvOk.pick fx (ks := [9, 11, 20, 100, 101, 102, 109, 112]) (env' := [(9, .v (.slice A_ ((bodyB W l v (Tree.mk n1 s2 b3 l4 u5) 0).length) c_)), (11, .v (.int .i64 ((tagsN W l (Tree.mk n1 s2 b3 l4 u5) k2 + k : Nat) : Int))), (20, .v (.slice ar ((whole aj).length) au)), (100, .v (.slice am ((unknownT l u5).length) ao)), (101, .v (.int .i64 (((unknownT l u5).length : Nat) : Int))), (102, .v (.int .i64 ((k : Nat) : Int))), (109, .v (.slice A4_ ((tagsK W l (Tree.mk n1 s2 b3 l4 u5) k2 ++ tagsB ((unknownT l u5).take k)).length) c4_)), (112, .v (.int .u64 (IntKind.u64.wrap ak)))]) kz
     have fz := fy.cast (env' := [(9, .v (.slice A_ ((bodyB W l v (Tree.mk n1 s2 b3 l4 u5) 0).length) c_)), (11, .v (.int .i64 ((tagsN W l (Tree.mk n1 s2 b3 l4 u5) k2 + k : Nat) : Int))), (20, .v (.slice ar ((whole aj).length) au)), (100, .v (.slice am ((unknownT l u5).length) ao)), (101, .v (.int .i64 (((unknownT l u5).length : Nat) : Int))), (102, .v (.int .i64 ((k : Nat) : Int))), (109, .v (.slice A4_ ((tagsK W l (Tree.mk n1 s2 b3 l4 u5) k2 ++ tagsB ((unknownT l u5).take k)).length) c4_)), (112, .v (.int .u64 ((ak.toNat : Nat) : Int)))]) (by rw [jn])
     clear fx fy
     refine of_op (wpOp_call fz (f := 93) (vs := [.int .u64 ((ak.toNat : Nat) : Int)]) (d := 113) kz Tryz.call93 (sUvarint ak.toNat (by omega) _) ?_)
     rintro e_ nR ⟨b0, b5, rfl, jo, jp⟩
     refine ⟨_, rfl, fun nS fA => ?_⟩
     obtain ⟨cz, bQ⟩ := cy.frFresh jp (brow b0 b5 5 (uv ak.toNat)) (Nat.le_refl _) jo
     clear fz cy
     refine of_op (wpOp_append cz fA (k := 1) (d := 114) (t := 22) (e := 5) (size := 1) (bytes := 1) (A := A4_) (As := b0) (m0 := ((tagsK W l (Tree.mk n1 s2 b3 l4 u5) k2 ++ tagsB ((unknownT l u5).take k)).length)) (c := c4_) (m := ((uv ak.toNat).length)) (cs := b5) (xs := (bc (tagsK W l (Tree.mk n1 s2 b3 l4 u5) k2 ++ tagsB ((unknownT l u5).take k)))) (news := bc (uv ak.toNat)) kz kz rfl (own_src (cz.own 2 _ rfl) (bc_one _)) (own_cap (cz.own 2 _ rfl)) (by have h_ := tagsB_le (l := (unknownT l u5)) (k + 1); rw [tagsB_succ bO] at h_; simp only [List.length_append] at h_ ⊢; omega) fun aU aV nT nU bR fB fC => ?_)
     clear fA cz
     have jq : (⟨aU, aV, 5, 1, (tagsK W l (Tree.mk n1 s2 b3 l4 u5) k2 ++ tagsB ((unknownT l u5).take k)).length + (uv ak.toNat).length, bc (tagsK W l (Tree.mk n1 s2 b3 l4 u5) k2 ++ tagsB ((unknownT l u5).take k)) ++ bc (uv ak.toNat)⟩ : Rw) = brow aU aV 5 (tagsK W l (Tree.mk n1 s2 b3 l4 u5) k2 ++ tagsB ((unknownT l u5).take k) ++ (uv ak.toNat)) := brow_eq (rfl) rfl
     obtain ⟨dB, bS⟩ := fB.rowEq 1 [brow A_ c_ 5 (bodyB W l v (Tree.mk n1 s2 b3 l4 u5) 0), brow aU aV 5 (tagsK W l (Tree.mk n1 s2 b3 l4 u5) k2 ++ tagsB ((unknownT l u5).take k) ++ (uv ak.toNat)), brow b0 b5 5 (uv ak.toNat)] jq
     clear fB
     have fD := EnvOk.pick fC (ks := [9, 11, 20, 100, 101, 102, 109, 112, 113, 114]) (env' := [(9, .v (.slice A_ ((bodyB W l v (Tree.mk n1 s2 b3 l4 u5) 0).length) c_)), (11, .v (.int .i64 ((tagsN W l (Tree.mk n1 s2 b3 l4 u5) k2 + k : Nat) : Int))), (20, .v (.slice ar ((whole aj).length) au)), (100, .v (.slice am ((unknownT l u5).length) ao)), (101, .v (.int .i64 (((unknownT l u5).length : Nat) : Int))), (102, .v (.int .i64 ((k : Nat) : Int))), (109, .v (.slice A4_ ((tagsK W l (Tree.mk n1 s2 b3 l4 u5) k2 ++ tagsB ((unknownT l u5).take k)).length) c4_)), (112, .v (.int .u64 ((ak.toNat : Nat) : Int))), (113, .v (.slice b0 ((uv ak.toNat).length) b5)), (114, .v (.slice aU ((tagsK W l (Tree.mk n1 s2 b3 l4 u5) k2 ++ tagsB ((unknownT l u5).take k)).length + (uv ak.toNat).length) aV))]) kz
     have fE := fD.cast (env' := [(9, .v (.slice A_ ((bodyB W l v (Tree.mk n1 s2 b3 l4 u5) 0).length) c_)), (11, .v (.int .i64 ((tagsN W l (Tree.mk n1 s2 b3 l4 u5) k2 + k : Nat) : Int))), (20, .v (.slice ar ((whole aj).length) au)), (100, .v (.slice am ((unknownT l u5).length) ao)), (101, .v (.int .i64 (((unknownT l u5).length : Nat) : Int))), (102, .v (.int .i64 ((k : Nat) : Int))), (109, .v (.slice A4_ ((tagsK W l (Tree.mk n1 s2 b3 l4 u5) k2 ++ tagsB ((unknownT l u5).take k)).length) c4_)), (112, .v (.int .u64 ((ak.toNat : Nat) : Int))), (113, .v (.slice b0 ((uv ak.toNat).length) b5)), (114, .v (.slice aU ((tagsK W l (Tree.mk n1 s2 b3 l4 u5) k2 ++ tagsB ((unknownT l u5).take k) ++ (uv ak.toNat)).length) aV))]) (by simp only [List.length_append, List.length_cons, List.length_nil, Nat.zero_add])
     clear fC
     clear fD
     refine go_rn [6, 7, 8] [9, 10, 11, 12, 13] [(9, .v (.slice A_ ((bodyB W l v (Tree.mk n1 s2 b3 l4 u5) 0).length) c_)), (11, .v (.int .i64 ((tagsN W l (Tree.mk n1 s2 b3 l4 u5) k2 + k : Nat) : Int))), (20, .v (.slice ar ((whole aj).length) au)), (100, .v (.slice am ((unknownT l u5).length) ao)), (101, .v (.int .i64 (((unknownT l u5).length : Nat) : Int))), (102, .v (.int .i64 ((k : Nat) : Int))), (114, .v (.slice aU ((tagsK W l (Tree.mk n1 s2 b3 l4 u5) k2 ++ tagsB ((unknownT l u5).take k) ++ (uv ak.toNat)).length) aV)), (117, .v (.int .u64 (IntKind.u64.wrap (((whole aj).length : Nat) : Int))))] dB fE fun nV fF => ?_
     clear fE
     have jr : IntKind.u64.wrap (((whole aj).length : Nat) : Int) = (((whole aj).length : Nat) : Int) := by simp only [wrap_u64, wrap_u32, wrap_u16, IntKind.wrap_i64, IntKind.wrap_i32]; omega
     have fG := EnvOk.pick fF (ks := [9, 11, 20, 100, 101, 102, 114, 117]) (env' := [(9, .v (.slice A_ ((bodyB W l v (Tree.mk n1 s2 b3 l4 u5) 0).length) c_)), (11, .v (.int .i64 ((tagsN W l (Tree.mk n1 s2 b3 l4 u5) k2 + k : Nat) : Int))), (20, .v (.slice ar ((whole aj).length) au)), (100, .v (.slice am ((unknownT l u5).length) ao)), (101, .v (.int .i64 (((unknownT l u5).length : Nat) : Int))), (102, .v (.int .i64 ((k : Nat) : Int))), (114, .v (.slice aU ((tagsK W l (Tree.mk n1 s2 b3 l4 u5) k2 ++ tagsB ((unknownT l u5).take k) ++ (uv ak.toNat)).length) aV)), (117, .v (.int .u64 (IntKind.u64.wrap (((whole aj).length : Nat) : Int))))]) kz
     have fH := fG.cast (env' := [(9, .v (.slice A_ ((bodyB W l v (Tree.mk n1 s2 b3 l4 u5) 0).length) c_)), (11, .v (.int .i64 ((tagsN W l (Tree.mk n1 s2 b3 l4 u5) k2 + k : Nat) : Int))), (20, .v (.slice ar ((whole aj).length) au)), (100, .v (.slice am ((unknownT l u5).length) ao)), (101, .v (.int .i64 (((unknownT l u5).length : Nat) : Int))), (102, .v (.int .i64 ((k : Nat) : Int))), (114, .v (.slice aU ((tagsK W l (Tree.mk n1 s2 b3 l4 u5) k2 ++ tagsB ((unknownT l u5).take k) ++ (uv ak.toNat)).length) aV)), (117, .v (.int .u64 (((whole aj).length : Nat) : Int)))]) (by rw [jr])
     clear fF fG
     refine of_op (wpOp_call fH (f := 93) (vs := [.int .u64 (((whole aj).length : Nat) : Int)]) (d := 118) kz Tryz.call93 (sUvarint ((whole aj).length) (by omega) _) ?_)
     rintro e_ nW ⟨cH, cI, rfl, js, jt⟩
     refine ⟨_, rfl, fun nX fI => ?_⟩
     obtain ⟨cA, bT⟩ := dB.frFresh jt (brow cH cI 5 (uv ((whole aj).length))) (Nat.le_refl _) js
     clear fH dB
     refine of_op (wpOp_append cA fI (k := 1) (d := 119) (t := 22) (e := 5) (size := 1) (bytes := 1) (A := aU) (As := cH) (m0 := ((tagsK W l (Tree.mk n1 s2 b3 l4 u5) k2 ++ tagsB ((unknownT l u5).take k) ++ (uv ak.toNat)).length)) (c := aV) (m := ((uv ((whole aj).length)).length)) (cs := cI) (xs := (bc (tagsK W l (Tree.mk n1 s2 b3 l4 u5) k2 ++ tagsB ((unknownT l u5).take k) ++ (uv ak.toNat)))) (news := bc (uv ((whole aj).length))) kz kz rfl (own_src (cA.own 3 _ rfl) (bc_one _)) (own_cap (cA.own 3 _ rfl)) (by have h_ := tagsB_le (l := (unknownT l u5)) (k + 1); rw [tagsB_succ bO] at h_; simp only [List.length_append] at h_ ⊢; omega) fun bh bi nY nZ bU fJ fK => ?_)
     clear fI cA
     have ju : (⟨bh, bi, 5, 1, (tagsK W l (Tree.mk n1 s2 b3 l4 u5) k2 ++ tagsB ((unknownT l u5).take k) ++ (uv ak.toNat)).length + (uv ((whole aj).length)).length, bc (tagsK W l (Tree.mk n1 s2 b3 l4 u5) k2 ++ tagsB ((unknownT l u5).take k) ++ (uv ak.toNat)) ++ bc (uv ((whole aj).length))⟩ : Rw) = brow bh bi 5 (tagsK W l (Tree.mk n1 s2 b3 l4 u5) k2 ++ tagsB ((unknownT l u5).take k) ++ (uv ak.toNat) ++ (uv ((whole aj).length))) := brow_eq (rfl) rfl
     obtain ⟨dC, bV⟩ := fJ.rowEq 1 [brow A_ c_ 5 (bodyB W l v (Tree.mk n1 s2 b3 l4 u5) 0), brow bh bi 5 (tagsK W l (Tree.mk n1 s2 b3 l4 u5) k2 ++ tagsB ((unknownT l u5).take k) ++ (uv ak.toNat) ++ (uv ((whole aj).length))), brow b0 b5 5 (uv ak.toNat), brow cH cI 5 (uv ((whole aj).length))] ju
     clear fJ
     have fL := EnvOk.pick fK (ks := [9, 11, 20, 100, 101, 102, 114, 117, 118, 119]) (env' := [(9, .v (.slice A_ ((bodyB W l v (Tree.mk n1 s2 b3 l4 u5) 0).length) c_)), (11, .v (.int .i64 ((tagsN W l (Tree.mk n1 s2 b3 l4 u5) k2 + k : Nat) : Int))), (20, .v (.slice ar ((whole aj).length) au)), (100, .v (.slice am ((unknownT l u5).length) ao)), (101, .v (.int .i64 (((unknownT l u5).length : Nat) : Int))), (102, .v (.int .i64 ((k : Nat) : Int))), (114, .v (.slice aU ((tagsK W l (Tree.mk n1 s2 b3 l4 u5) k2 ++ tagsB ((unknownT l u5).take k) ++ (uv ak.toNat)).length) aV)), (117, .v (.int .u64 (((whole aj).length : Nat) : Int))), (118, .v (.slice cH ((uv ((whole aj).length)).length) cI)), (119, .v (.slice bh ((tagsK W l (Tree.mk n1 s2 b3 l4 u5) k2 ++ tagsB ((unknownT l u5).take k) ++ (uv ak.toNat)).length + (uv ((whole aj).length)).length) bi))]) kz
     have fM := fL.cast (env' := [(9, .v (.slice A_ ((bodyB W l v (Tree.mk n1 s2 b3 l4 u5) 0).length) c_)), (11, .v (.int .i64 ((tagsN W l (Tree.mk n1 s2 b3 l4 u5) k2 + k : Nat) : Int))), (20, .v (.slice ar ((whole aj).length) au)), (100, .v (.slice am ((unknownT l u5).length) ao)), (101, .v (.int .i64 (((unknownT l u5).length : Nat) : Int))), (102, .v (.int .i64 ((k : Nat) : Int))), (114, .v (.slice aU ((tagsK W l (Tree.mk n1 s2 b3 l4 u5) k2 ++ tagsB ((unknownT l u5).take k) ++ (uv ak.toNat)).length) aV)), (117, .v (.int .u64 (((whole aj).length : Nat) : Int))), (118, .v (.slice cH ((uv ((whole aj).length)).length) cI)), (119, .v (.slice bh ((tagsK W l (Tree.mk n1 s2 b3 l4 u5) k2 ++ tagsB ((unknownT l u5).take k) ++ (uv ak.toNat) ++ (uv ((whole aj).length))).length) bi))]) (by simp only [List.length_append, List.length_cons, List.length_nil, Nat.zero_add])
     clear fK
     clear fL
     refine go_rn [11] [12, 13] [(9, .v (.slice A_ ((bodyB W l v (Tree.mk n1 s2 b3 l4 u5) 0).length) c_)), (11, .v (.int .i64 ((tagsN W l (Tree.mk n1 s2 b3 l4 u5) k2 + k : Nat) : Int))), (100, .v (.slice am ((unknownT l u5).length) ao)), (101, .v (.int .i64 (((unknownT l u5).length : Nat) : Int))), (102, .v (.int .i64 ((k : Nat) : Int))), (119, .v (.slice bh ((tagsK W l (Tree.mk n1 s2 b3 l4 u5) k2 ++ tagsB ((unknownT l u5).take k) ++ (uv ak.toNat) ++ (uv ((whole aj).length))).length) bi)), (120, .v (.slice ar ((whole aj).length) au))] dC fM fun n8 fN => ?_
     clear fM
     refine of_op (wpOp_append dC fN (k := 1) (d := 121) (t := 22) (e := 5) (size := 1) (bytes := 1) (A := bh) (As := ar) (m0 := ((tagsK W l (Tree.mk n1 s2 b3 l4 u5) k2 ++ tagsB ((unknownT l u5).take k) ++ (uv ak.toNat) ++ (uv ((whole aj).length))).length)) (c := bi) (m := ((whole aj).length)) (cs := au) (xs := (bc (tagsK W l (Tree.mk n1 s2 b3 l4 u5) k2 ++ tagsB ((unknownT l u5).take k) ++ (uv ak.toNat) ++ (uv ((whole aj).length))))) (news := bc (whole aj)) kz kz rfl ((dA.take 32767).move ((((((((((aO.trans aI).trans aS).trans aT).trans bP).trans bQ).trans bR).trans bS).trans bT).trans bU).trans bV).step immM ((((((((((aO.trans aI).trans aS).trans aT).trans bP).trans bQ).trans bR).trans bS).trans bT).trans bU).trans bV).to').src ((dA.take 32767).move ((((((((((aO.trans aI).trans aS).trans aT).trans bP).trans bQ).trans bR).trans bS).trans bT).trans bU).trans bV).step immM ((((((((((aO.trans aI).trans aS).trans aT).trans bP).trans bQ).trans bR).trans bS).trans bT).trans bU).trans bV).to').cap (by have h_ := tagsB_le (l := (unknownT l u5)) (k + 1); rw [tagsB_succ bO] at h_; simp only [List.length_append] at h_ ⊢; omega) fun aL aM oa oc jv fO fP => ?_)
     clear fN dC
     have jw : (⟨aL, aM, 5, 1, (tagsK W l (Tree.mk n1 s2 b3 l4 u5) k2 ++ tagsB ((unknownT l u5).take k) ++ (uv ak.toNat) ++ (uv ((whole aj).length))).length + (whole aj).length, bc (tagsK W l (Tree.mk n1 s2 b3 l4 u5) k2 ++ tagsB ((unknownT l u5).take k) ++ (uv ak.toNat) ++ (uv ((whole aj).length))) ++ bc (whole aj)⟩ : Rw) = brow aL aM 5 (tagsK W l (Tree.mk n1 s2 b3 l4 u5) k2 ++ tagsB ((unknownT l u5).take k) ++ (uv ak.toNat) ++ (uv ((whole aj).length)) ++ (whole aj)) := brow_eq (rfl) rfl
     obtain ⟨cB, jx⟩ := fO.rowEq 1 [brow A_ c_ 5 (bodyB W l v (Tree.mk n1 s2 b3 l4 u5) 0), brow aL aM 5 (tagsK W l (Tree.mk n1 s2 b3 l4 u5) k2 ++ tagsB ((unknownT l u5).take k) ++ (uv ak.toNat) ++ (uv ((whole aj).length)) ++ (whole aj)), brow b0 b5 5 (uv ak.toNat), brow cH cI 5 (uv ((whole aj).length))] jw
     clear fO
     have fQ := EnvOk.pick fP (ks := [9, 11, 100, 101, 102, 119, 120, 121]) (env' := [(9, .v (.slice A_ ((bodyB W l v (Tree.mk n1 s2 b3 l4 u5) 0).length) c_)), (11, .v (.int .i64 ((tagsN W l (Tree.mk n1 s2 b3 l4 u5) k2 + k : Nat) : Int))), (100, .v (.slice am ((unknownT l u5).length) ao)), (101, .v (.int .i64 (((unknownT l u5).length : Nat) : Int))), (102, .v (.int .i64 ((k : Nat) : Int))), (119, .v (.slice bh ((tagsK W l (Tree.mk n1 s2 b3 l4 u5) k2 ++ tagsB ((unknownT l u5).take k) ++ (uv ak.toNat) ++ (uv ((whole aj).length))).length) bi)), (120, .v (.slice ar ((whole aj).length) au)), (121, .v (.slice aL ((tagsK W l (Tree.mk n1 s2 b3 l4 u5) k2 ++ tagsB ((unknownT l u5).take k) ++ (uv ak.toNat) ++ (uv ((whole aj).length))).length + (whole aj).length) aM))]) kz
     have fR := fQ.cast (env' := [(9, .v (.slice A_ ((bodyB W l v (Tree.mk n1 s2 b3 l4 u5) 0).length) c_)), (11, .v (.int .i64 ((tagsN W l (Tree.mk n1 s2 b3 l4 u5) k2 + k : Nat) : Int))), (100, .v (.slice am ((unknownT l u5).length) ao)), (101, .v (.int .i64 (((unknownT l u5).length : Nat) : Int))), (102, .v (.int .i64 ((k : Nat) : Int))), (119, .v (.slice bh ((tagsK W l (Tree.mk n1 s2 b3 l4 u5) k2 ++ tagsB ((unknownT l u5).take k) ++ (uv ak.toNat) ++ (uv ((whole aj).length))).length) bi)), (120, .v (.slice ar ((whole aj).length) au)), (121, .v (.slice aL ((tagsK W l (Tree.mk n1 s2 b3 l4 u5) k2 ++ tagsB ((unknownT l u5).take k) ++ (uv ak.toNat) ++ (uv ((whole aj).length)) ++ (whole aj)).length) aM))]) (by simp only [List.length_append, List.length_cons, List.length_nil, Nat.zero_add])
     clear fP
     clear fQ
     refine go_rn [13] [] [(9, .v (.slice A_ ((bodyB W l v (Tree.mk n1 s2 b3 l4 u5) 0).length) c_)), (10, .v (.slice aL ((tagsK W l (Tree.mk n1 s2 b3 l4 u5) k2 ++ tagsB ((unknownT l u5).take k) ++ (uv ak.toNat) ++ (uv ((whole aj).length)) ++ (whole aj)).length) aM)), (11, .v (.int .i64 ((tagsN W l (Tree.mk n1 s2 b3 l4 u5) k2 + k : Nat) : Int))), (100, .v (.slice am ((unknownT l u5).length) ao)), (101, .v (.int .i64 (((unknownT l u5).length : Nat) : Int))), (102, .v (.int .i64 ((k : Nat) : Int)))] cB fR fun od fS => ?_
     clear fR
     refine wpOps_nil (then_normal ?_)
     refine go_region [0, 1, 2] kz ?_
     refine go_rn [0, 1, 2] [] [(9, .v (.slice A_ ((bodyB W l v (Tree.mk n1 s2 b3 l4 u5) 0).length) c_)), (10, .v (.slice aL ((tagsK W l (Tree.mk n1 s2 b3 l4 u5) k2 ++ tagsB ((unknownT l u5).take k) ++ (uv ak.toNat) ++ (uv ((whole aj).length)) ++ (whole aj)).length) aM)), (11, .v (.int .i64 (IntKind.i64.wrap (((tagsN W l (Tree.mk n1 s2 b3 l4 u5) k2 + k : Nat) : Int) + 1)))), (100, .v (.slice am ((unknownT l u5).length) ao)), (101, .v (.int .i64 (((unknownT l u5).length : Nat) : Int))), (102, .v (.int .i64 ((k : Nat) : Int)))] cB fS fun oe fT => ?_
     clear fS
     refine wpOps_nil ?_
     refine block_normal ?_
     refine then_normal ?_
     refine go_region [0, 1] kz ?_
     refine go_rn [0, 1] [] [(9, .v (.slice A_ ((bodyB W l v (Tree.mk n1 s2 b3 l4 u5) 0).length) c_)), (10, .v (.slice aL ((tagsK W l (Tree.mk n1 s2 b3 l4 u5) k2 ++ tagsB ((unknownT l u5).take k) ++ (uv ak.toNat) ++ (uv ((whole aj).length)) ++ (whole aj)).length) aM)), (11, .v (.int .i64 (IntKind.i64.wrap (((tagsN W l (Tree.mk n1 s2 b3 l4 u5) k2 + k : Nat) : Int) + 1)))), (100, .v (.slice am ((unknownT l u5).length) ao)), (101, .v (.int .i64 (((unknownT l u5).length : Nat) : Int))), (102, .v (.int .i64 (IntKind.i64.wrap (((k : Nat) : Int) + 1))))] cB fT fun og jy => ?_
     clear fT
     refine wpOps_nil (then_normal ?_)
     obtain ⟨cC, jz, jA⟩ := cB.cutB jy 1 [⟨cL, 0, [.int .i64 n1, .slice A6 s2.length c7, .bool b3, .slice A8 l4.length c9, .slice aW u5.length aX], true⟩] [(9, .v (.slice A_ ((bodyB W l v (Tree.mk n1 s2 b3 l4 u5) 0).length) c_)), (10, .v (.slice aL ((tagsK W l (Tree.mk n1 s2 b3 l4 u5) k2 ++ tagsB ((unknownT l u5).take k) ++ (uv ak.toNat) ++ (uv ((whole aj).length)) ++ (whole aj)).length) aM)), (11, .v (.int .i64 (IntKind.i64.wrap (((tagsN W l (Tree.mk n1 s2 b3 l4 u5) k2 + k : Nat) : Int) + 1)))), (100, .v (.slice am ((unknownT l u5).length) ao)), (101, .v (.int .i64 (((unknownT l u5).length : Nat) : Int))), (102, .v (.int .i64 (IntKind.i64.wrap (((k : Nat) : Int) + 1))))]
     obtain ⟨fU, jB⟩ := jz.cutR 2 [brow A_ c_ 5 (bodyB W l v (Tree.mk n1 s2 b3 l4 u5) 0), brow aL aM 5 (tagsK W l (Tree.mk n1 s2 b3 l4 u5) k2 ++ tagsB ((unknownT l u5).take k) ++ (uv ak.toNat) ++ (uv ((whole aj).length)) ++ (whole aj))]
     have fV : (tagsK W l (Tree.mk n1 s2 b3 l4 u5) k2 ++ tagsB ((unknownT l u5).take k) ++ (uv ak.toNat) ++ (uv ((whole aj).length)) ++ (whole aj)) = (tagsK W l (Tree.mk n1 s2 b3 l4 u5) k2 ++ tagsB ((unknownT l u5).take (k + 1))) := by rw [tagsB_succ bO]; simp only [List.append_assoc]
     have jC := congrArg (brow aL aM 5) fV
     obtain ⟨jD, jE⟩ := fU.rowEq 1 [brow A_ c_ 5 (bodyB W l v (Tree.mk n1 s2 b3 l4 u5) 0), brow aL aM 5 (tagsK W l (Tree.mk n1 s2 b3 l4 u5) k2 ++ tagsB ((unknownT l u5).take (k + 1)))] jC
     clear fU
     rw [fV] at cC
     have jF : IntKind.i64.wrap (((k : Nat) : Int) + 1) = ((k + 1 : Nat) : Int) := wrap_succ (by omega)
     rw [jF] at cC
     have jG : IntKind.i64.wrap (((tagsN W l (Tree.mk n1 s2 b3 l4 u5) k2 + k : Nat) : Int) + 1) = ((tagsN W l (Tree.mk n1 s2 b3 l4 u5) k2 + (k + 1) : Nat) : Int) := by rw [wrap_i64 (by omega) (by omega)]; omega
     rw [jG] at cC
     exact ⟨(unknownT l u5).length - (k + 1), by omega, k + 1, aL, aM, rfl, by omega, cC.pk, jD, ((((((((((((((aI.trans aS).trans aT).trans bP).trans bQ).trans bR).trans bS).trans bT).trans bU).trans bV).trans jv).trans jx).trans jA).trans jB).trans jE)⟩
    ·
     have ls := of_decide_eq_false dy
     refine wp_exit ?_
     refine then_exit ?_
     refine then_exit ?_
     refine block_exit ?_
     refine then_normal ?_
     refine go_seq_region [0, 1, 2, 3, 4, 5, 6, 7] kz ?_
     refine go_rn [0, 1, 2] [3, 4, 5, 6, 7] [(10, .v (.slice A4_ ((tagsK W l (Tree.mk n1 s2 b3 l4 u5) k2 ++ tagsB ((unknownT l u5).take k)).length) c4_)), (125, .v (.slice A_ ((bodyB W l v (Tree.mk n1 s2 b3 l4 u5) 0).length) c_)), (127, .v (.int .u64 (IntKind.u64.wrap ((tagsN W l (Tree.mk n1 s2 b3 l4 u5) k2 + k : Nat) : Int))))] bd bN fun oh fW => ?_
     clear bN
     have jH : IntKind.u64.wrap ((tagsN W l (Tree.mk n1 s2 b3 l4 u5) k2 + k : Nat) : Int) = ((tagsN W l (Tree.mk n1 s2 b3 l4 u5) k2 + k : Nat) : Int) := by simp only [wrap_u64, wrap_u32, wrap_u16, IntKind.wrap_i64, IntKind.wrap_i32]; omega
     have fX := EnvOk.pick fW (ks := [10, 125, 127]) (env' := [(10, .v (.slice A4_ ((tagsK W l (Tree.mk n1 s2 b3 l4 u5) k2 ++ tagsB ((unknownT l u5).take k)).length) c4_)), (125, .v (.slice A_ ((bodyB W l v (Tree.mk n1 s2 b3 l4 u5) 0).length) c_)), (127, .v (.int .u64 (IntKind.u64.wrap ((tagsN W l (Tree.mk n1 s2 b3 l4 u5) k2 + k : Nat) : Int))))]) kz
     have fY := fX.cast (env' := [(10, .v (.slice A4_ ((tagsK W l (Tree.mk n1 s2 b3 l4 u5) k2 ++ tagsB ((unknownT l u5).take k)).length) c4_)), (125, .v (.slice A_ ((bodyB W l v (Tree.mk n1 s2 b3 l4 u5) 0).length) c_)), (127, .v (.int .u64 ((tagsN W l (Tree.mk n1 s2 b3 l4 u5) k2 + k : Nat) : Int)))]) (by rw [jH])
     clear fW fX
     refine of_op (wpOp_call fY (f := 93) (vs := [.int .u64 ((tagsN W l (Tree.mk n1 s2 b3 l4 u5) k2 + k : Nat) : Int)]) (d := 128) kz Tryz.call93 (sUvarint (tagsN W l (Tree.mk n1 s2 b3 l4 u5) k2 + k) (by omega) _) ?_)
     rintro e_ ol ⟨cJ, cK, rfl, jI, jJ⟩
     refine ⟨_, rfl, fun om fZ => ?_⟩
     obtain ⟨cD, lu⟩ := bd.frFresh jJ (brow cJ cK 5 (uv (tagsN W l (Tree.mk n1 s2 b3 l4 u5) k2 + k))) (Nat.le_refl _) jI
     clear fY bd
     refine of_op (wpOp_append cD fZ (k := 0) (d := 129) (t := 22) (e := 5) (size := 1) (bytes := 1) (A := A_) (As := cJ) (m0 := ((bodyB W l v (Tree.mk n1 s2 b3 l4 u5) 0).length)) (c := c_) (m := ((uv (tagsN W l (Tree.mk n1 s2 b3 l4 u5) k2 + k)).length)) (cs := cK) (xs := (bc (bodyB W l v (Tree.mk n1 s2 b3 l4 u5) 0))) (news := bc (uv (tagsN W l (Tree.mk n1 s2 b3 l4 u5) k2 + k))) kz kz rfl (own_src (cD.own 2 _ rfl) (bc_one _)) (own_cap (cD.own 2 _ rfl)) (by have hkk3 : k = (unknownT l u5).length := (by omega); subst hkk3; subst hkk2; simp only [List.length_append, List.take_length] at *; omega) fun bj bk oq ot lv f0 f5 => ?_)
     clear fZ cD
     have jK : (⟨bj, bk, 5, 1, (bodyB W l v (Tree.mk n1 s2 b3 l4 u5) 0).length + (uv (tagsN W l (Tree.mk n1 s2 b3 l4 u5) k2 + k)).length, bc (bodyB W l v (Tree.mk n1 s2 b3 l4 u5) 0) ++ bc (uv (tagsN W l (Tree.mk n1 s2 b3 l4 u5) k2 + k))⟩ : Rw) = brow bj bk 5 (bodyB W l v (Tree.mk n1 s2 b3 l4 u5) 0 ++ (uv (tagsN W l (Tree.mk n1 s2 b3 l4 u5) k2 + k))) := brow_eq (rfl) rfl
     obtain ⟨bW, lw⟩ := f0.rowEq 0 [brow bj bk 5 (bodyB W l v (Tree.mk n1 s2 b3 l4 u5) 0 ++ (uv (tagsN W l (Tree.mk n1 s2 b3 l4 u5) k2 + k))), brow A4_ c4_ 5 (tagsK W l (Tree.mk n1 s2 b3 l4 u5) k2 ++ tagsB ((unknownT l u5).take k)), brow cJ cK 5 (uv (tagsN W l (Tree.mk n1 s2 b3 l4 u5) k2 + k))] jK
     clear f0
     have f8 := EnvOk.pick f5 (ks := [10, 125, 127, 128, 129]) (env' := [(10, .v (.slice A4_ ((tagsK W l (Tree.mk n1 s2 b3 l4 u5) k2 ++ tagsB ((unknownT l u5).take k)).length) c4_)), (125, .v (.slice A_ ((bodyB W l v (Tree.mk n1 s2 b3 l4 u5) 0).length) c_)), (127, .v (.int .u64 ((tagsN W l (Tree.mk n1 s2 b3 l4 u5) k2 + k : Nat) : Int))), (128, .v (.slice cJ ((uv (tagsN W l (Tree.mk n1 s2 b3 l4 u5) k2 + k)).length) cK)), (129, .v (.slice bj ((bodyB W l v (Tree.mk n1 s2 b3 l4 u5) 0).length + (uv (tagsN W l (Tree.mk n1 s2 b3 l4 u5) k2 + k)).length) bk))]) kz
     have f9 := f8.cast (env' := [(10, .v (.slice A4_ ((tagsK W l (Tree.mk n1 s2 b3 l4 u5) k2 ++ tagsB ((unknownT l u5).take k)).length) c4_)), (125, .v (.slice A_ ((bodyB W l v (Tree.mk n1 s2 b3 l4 u5) 0).length) c_)), (127, .v (.int .u64 ((tagsN W l (Tree.mk n1 s2 b3 l4 u5) k2 + k : Nat) : Int))), (128, .v (.slice cJ ((uv (tagsN W l (Tree.mk n1 s2 b3 l4 u5) k2 + k)).length) cK)), (129, .v (.slice bj ((bodyB W l v (Tree.mk n1 s2 b3 l4 u5) 0 ++ (uv (tagsN W l (Tree.mk n1 s2 b3 l4 u5) k2 + k))).length) bk))]) (by simp only [List.length_append, List.length_cons, List.length_nil, Nat.zero_add])
     clear f5
     clear f8
     refine go_rn [5] [6, 7] [(129, .v (.slice bj ((bodyB W l v (Tree.mk n1 s2 b3 l4 u5) 0 ++ (uv (tagsN W l (Tree.mk n1 s2 b3 l4 u5) k2 + k))).length) bk)), (130, .v (.slice A4_ ((tagsK W l (Tree.mk n1 s2 b3 l4 u5) k2 ++ tagsB ((unknownT l u5).take k)).length) c4_))] bW f9 fun ou ga => ?_
     clear f9
     refine of_op (wpOp_append bW ga (k := 0) (d := 131) (t := 22) (e := 5) (size := 1) (bytes := 1) (A := bj) (As := A4_) (m0 := ((bodyB W l v (Tree.mk n1 s2 b3 l4 u5) 0 ++ (uv (tagsN W l (Tree.mk n1 s2 b3 l4 u5) k2 + k))).length)) (c := bk) (m := ((tagsK W l (Tree.mk n1 s2 b3 l4 u5) k2 ++ tagsB ((unknownT l u5).take k)).length)) (cs := c4_) (xs := (bc (bodyB W l v (Tree.mk n1 s2 b3 l4 u5) 0 ++ (uv (tagsN W l (Tree.mk n1 s2 b3 l4 u5) k2 + k))))) (news := bc (tagsK W l (Tree.mk n1 s2 b3 l4 u5) k2 ++ tagsB ((unknownT l u5).take k))) kz kz rfl (own_src (bW.own 1 _ rfl) (bc_one _)) (own_cap (bW.own 1 _ rfl)) (by have hkk3 : k = (unknownT l u5).length := (by omega); subst hkk3; subst hkk2; simp only [List.length_append, List.take_length] at *; omega) fun b6 b8 ov ow lx gb gc => ?_)
     clear ga bW
     have jL : (⟨b6, b8, 5, 1, (bodyB W l v (Tree.mk n1 s2 b3 l4 u5) 0 ++ (uv (tagsN W l (Tree.mk n1 s2 b3 l4 u5) k2 + k))).length + (tagsK W l (Tree.mk n1 s2 b3 l4 u5) k2 ++ tagsB ((unknownT l u5).take k)).length, bc (bodyB W l v (Tree.mk n1 s2 b3 l4 u5) 0 ++ (uv (tagsN W l (Tree.mk n1 s2 b3 l4 u5) k2 + k))) ++ bc (tagsK W l (Tree.mk n1 s2 b3 l4 u5) k2 ++ tagsB ((unknownT l u5).take k))⟩ : Rw) = brow b6 b8 5 (bodyB W l v (Tree.mk n1 s2 b3 l4 u5) 0 ++ (uv (tagsN W l (Tree.mk n1 s2 b3 l4 u5) k2 + k)) ++ (tagsK W l (Tree.mk n1 s2 b3 l4 u5) k2 ++ tagsB ((unknownT l u5).take k))) := brow_eq (rfl) rfl
     obtain ⟨dD, ly⟩ := gb.rowEq 0 [brow b6 b8 5 (bodyB W l v (Tree.mk n1 s2 b3 l4 u5) 0 ++ (uv (tagsN W l (Tree.mk n1 s2 b3 l4 u5) k2 + k)) ++ (tagsK W l (Tree.mk n1 s2 b3 l4 u5) k2 ++ tagsB ((unknownT l u5).take k))), brow A4_ c4_ 5 (tagsK W l (Tree.mk n1 s2 b3 l4 u5) k2 ++ tagsB ((unknownT l u5).take k)), brow cJ cK 5 (uv (tagsN W l (Tree.mk n1 s2 b3 l4 u5) k2 + k))] jL
     clear gb
     have gd := EnvOk.pick gc (ks := [129, 130, 131]) (env' := [(129, .v (.slice bj ((bodyB W l v (Tree.mk n1 s2 b3 l4 u5) 0 ++ (uv (tagsN W l (Tree.mk n1 s2 b3 l4 u5) k2 + k))).length) bk)), (130, .v (.slice A4_ ((tagsK W l (Tree.mk n1 s2 b3 l4 u5) k2 ++ tagsB ((unknownT l u5).take k)).length) c4_)), (131, .v (.slice b6 ((bodyB W l v (Tree.mk n1 s2 b3 l4 u5) 0 ++ (uv (tagsN W l (Tree.mk n1 s2 b3 l4 u5) k2 + k))).length + (tagsK W l (Tree.mk n1 s2 b3 l4 u5) k2 ++ tagsB ((unknownT l u5).take k)).length) b8))]) kz
     have ge := gd.cast (env' := [(129, .v (.slice bj ((bodyB W l v (Tree.mk n1 s2 b3 l4 u5) 0 ++ (uv (tagsN W l (Tree.mk n1 s2 b3 l4 u5) k2 + k))).length) bk)), (130, .v (.slice A4_ ((tagsK W l (Tree.mk n1 s2 b3 l4 u5) k2 ++ tagsB ((unknownT l u5).take k)).length) c4_)), (131, .v (.slice b6 ((bodyB W l v (Tree.mk n1 s2 b3 l4 u5) 0 ++ (uv (tagsN W l (Tree.mk n1 s2 b3 l4 u5) k2 + k)) ++ (tagsK W l (Tree.mk n1 s2 b3 l4 u5) k2 ++ tagsB ((unknownT l u5).take k))).length) b8))]) (by simp only [List.length_append, List.length_cons, List.length_nil, Nat.zero_add])
     clear gc
     clear gd
     refine go_rn [7] [] [(8, .v (.slice b6 ((bodyB W l v (Tree.mk n1 s2 b3 l4 u5) 0 ++ (uv (tagsN W l (Tree.mk n1 s2 b3 l4 u5) k2 + k)) ++ (tagsK W l (Tree.mk n1 s2 b3 l4 u5) k2 ++ tagsB ((unknownT l u5).take k))).length) b8))] dD ge fun ox jM => ?_
     clear ge
     refine wpOps_nil (then_normal ?_)
     refine wp_ret ?_
     refine leave jM dD.cells (v := .slice b6 ((bodyB W l v (Tree.mk n1 s2 b3 l4 u5) 0 ++ (uv (tagsN W l (Tree.mk n1 s2 b3 l4 u5) k2 + k)) ++ (tagsK W l (Tree.mk n1 s2 b3 l4 u5) k2 ++ tagsB ((unknownT l u5).take k))).length) b8) kz ?_
     have hkk3 : k = (unknownT l u5).length := by omega
     exact fresh_end dD (k := 0) rfl (by rw [show flex = true by simpa using cc, partW_flex, hkk3, hkk2, List.take_length])
theorem sPartOK : ∀ d, PartOK d
 | 0 => fun A c l v flex ct t w F hl hd ht hr => sPart (fun _ _ => []) A c l v flex ct t w F (fun cf f ct t w F hm hf ht hr => by
   obtain ⟨i, hi⟩ := List.mem_iff_getElem?.1 hm
   have h := depths_get hi
   obtain ⟨k, x1, x2, x3, x4, x5, x6, l, A, c, xs, rfl, _⟩ := hf.open_
   rw [depth_mk] at h; omega) hl ht hr
 | d + 1 => fun A c l v flex ct t w F hl hd ht hr => sPart (fun f t => fieldD d f v flex t) A c l v flex ct t w F (fun cf f ct t w F hm hf ht hr => sField (sPartOK d) cf f v flex ct t w F hf (by
   obtain ⟨i, hi⟩ := List.mem_iff_getElem?.1 hm
   have h := depths_get hi
   obtain ⟨k, x1, x2, x3, x4, x5, x6, l, A, c, xs, rfl, _⟩ := hf.open_
   rw [depth_mk] at h
   show depths l ≤ d
   omega) ht hr) hl ht hr
theorem sWrite {d : Nat} (A : Option Addr) (c : Nat) (l : List Fld) (x v : Int) (ct : List Value) (t : Tree) (w : World) (F : Nat → Nat → Prop) (hl : FldsR w F A c l) (hd : depths l ≤ d) (ht : TreeR w F ct t) (hroom : (writeB d l x v t).length ≤ 1099511627776) :
  Calls Tryz.prog 16 #[.agg #[.slice A l.length c, .int .i64 x], .int .i64 v, .agg ct.toArray] w (FreshB w 5 (writeB d l x v t)) := by
 obtain ⟨xfs, h1, h2⟩ := hl.ex
 have hsm := h1.small
 obtain ⟨n1, s2, b3, l4, u5, A6, c7, A8, c9, ag, ah, aJ, rfl, rfl, aK, aL, aW, aX⟩ := ht.open_
 have aH := aK.small
 have aI := aL.small
 refine enter (n := 21) Tryz.func16 rfl Tryz.ntmps16 kz fun a hE => ?_
 have hW := WOk.start w Nil
 refine go_seq_region [0, 1, 2] kz ?_
 refine of_op (wpOp_box hW hE (d := 3) (cs := [.slice A l.length c, .int .i64 x]) kz fun aY aZ ba aM aN aO ai aj => ?_)
 clear hE hW
 refine of_op (wpOp_box ai aj (d := 5) (cs := [.int .i64 n1, .slice A6 s2.length c7, .bool b3, .slice A8 l4.length c9, .slice ag u5.length ah]) kz fun bd bf bg aP aQ aR aa ak => ?_)
 clear aj ai
 refine go_rn [2] [] [(1, .v (.int .i64 v)), (3, .p 0 0), (5, .p 1 0)] aa ak fun bh al => ?_
 clear ak
 refine wpOps_nil (then_normal ?_)
 refine go_seq_region [0, 1, 2, 3, 4, 5, 6, 7, 8, 9, 10, 11, 12, 13, 14] kz ?_
 refine go_rn [0, 1, 2, 3, 4, 5, 6] [7, 8, 9, 10, 11, 12, 13, 14] [(1, .v (.int .i64 v)), (3, .p 0 0), (5, .p 1 0), (8, .v (.slice A l.length c)), (9, .v (.int .i64 v)), (13, .v (.bool (decide (x ≥ 0))))] aa al fun bi ac => ?_
 clear al
 refine (Bool.eq_false_or_eq_true (decide (x ≥ 0))).elim (fun ab => ?_) (fun ab => ?_)
 ·
  have aS := of_decide_eq_true ab
  have am := ac.cast (env' := [(1, .v (.int .i64 v)), (3, .p 0 0), (5, .p 1 0), (8, .v (.slice A l.length c)), (9, .v (.int .i64 v)), (13, .v (.bool true))]) (by rw [ab])
  clear ac
  refine go_rn [7, 8, 9, 10, 11, 12] [13, 14] [(8, .v (.slice A l.length c)), (9, .v (.int .i64 v)), (18, .v (.bool (decide (v ≥ x)))), (19, .v (.agg #[.int .i64 n1, .slice A6 s2.length c7, .bool b3, .slice A8 l4.length c9, .slice ag u5.length ah]))] aa am fun bj ao => ?_
  clear am
  refine of_op (wpOp_call ao (f := 40) (vs := [.slice A l.length c, .int .i64 v, .bool (decide (v ≥ x)), .agg #[.int .i64 n1, .slice A6 s2.length c7, .bool b3, .slice A8 l4.length c9, .slice ag u5.length ah]]) (d := 20) kz Tryz.call40 (sPartOK _ _ _ l v (decide (v ≥ x)) _ (Tree.mk n1 s2 b3 l4 u5) _ _ ⟨xfs, (h1.move aa.step nilM aa.imm), (fun i_ x_ h_ => ((h2 i_ x_ h_).move aa.step nilM aa.imm))⟩ hd (ht.move aa.step nilM aa.imm) (by simpa [writeB, ab] using hroom)) ?_)
  rintro e_ bk ⟨aw, ax, rfl, ay, aA⟩
  refine ⟨_, rfl, fun bn ap => ?_⟩
  obtain ⟨ae, aT⟩ := aa.frFresh aA (brow aw ax 5 (partB d l v (decide (v ≥ x)) (Tree.mk n1 s2 b3 l4 u5))) (Nat.le_refl _) ay
  clear ao aa
  refine go_rn [14] [] [(6, .v (.slice aw ((partB d l v (decide (v ≥ x)) (Tree.mk n1 s2 b3 l4 u5)).length) ax))] ae ap fun bp aB => ?_
  clear ap
  refine wpOps_nil (then_normal ?_)
  refine wp_ret ?_
  refine leave aB ae.cells (v := .slice aw ((partB d l v (decide (v ≥ x)) (Tree.mk n1 s2 b3 l4 u5)).length) ax) kz ?_
  exact fresh_end ae (k := 0) rfl (by simp [writeB, ab])
 ·
  have aU := of_decide_eq_false ab
  have ar := ac.cast (env' := [(1, .v (.int .i64 v)), (3, .p 0 0), (5, .p 1 0), (8, .v (.slice A l.length c)), (9, .v (.int .i64 v)), (13, .v (.bool false))]) (by rw [ab])
  clear ac
  refine go_rn [7, 8, 9, 10, 11, 12] [13, 14] [(8, .v (.slice A l.length c)), (9, .v (.int .i64 v)), (18, .v (.bool false)), (19, .v (.agg #[.int .i64 n1, .slice A6 s2.length c7, .bool b3, .slice A8 l4.length c9, .slice ag u5.length ah]))] aa ar fun bq au => ?_
  clear ar
  refine of_op (wpOp_call au (f := 40) (vs := [.slice A l.length c, .int .i64 v, .bool false, .agg #[.int .i64 n1, .slice A6 s2.length c7, .bool b3, .slice A8 l4.length c9, .slice ag u5.length ah]]) (d := 20) kz Tryz.call40 (sPartOK _ _ _ l v false _ (Tree.mk n1 s2 b3 l4 u5) _ _ ⟨xfs, (h1.move aa.step nilM aa.imm), (fun i_ x_ h_ => ((h2 i_ x_ h_).move aa.step nilM aa.imm))⟩ hd (ht.move aa.step nilM aa.imm) (by simpa [writeB, ab] using hroom)) ?_)
  rintro e_ br ⟨aC, aD, rfl, aE, aF⟩
  refine ⟨_, rfl, fun bt av => ?_⟩
  obtain ⟨af, aV⟩ := aa.frFresh aF (brow aC aD 5 (partB d l v false (Tree.mk n1 s2 b3 l4 u5))) (Nat.le_refl _) aE
  clear au aa
  refine go_rn [14] [] [(6, .v (.slice aC ((partB d l v false (Tree.mk n1 s2 b3 l4 u5)).length) aD))] af av fun bu aG => ?_
  clear av
  refine wpOps_nil (then_normal ?_)
  refine wp_ret ?_
  refine leave aG af.cells (v := .slice aC ((partB d l v false (Tree.mk n1 s2 b3 l4 u5)).length) aD) kz ?_
  exact fresh_end af (k := 0) rfl (by simp [writeB, ab])
def GivenOK (m : Nat) : Prop := ∀ (ct : List Value) (t : Tree) (w : World) (F : Nat → Nat → Prop), TreeR w F ct t → t.depth ≤ m →
  Calls Tryz.prog 14 #[.agg ct.toArray] w (GivesT w F t)
theorem lGiven_step {m : Nat} (hg : GivenOK m) (ct : List Value) (t : Tree) (w : World) (F : Nat → Nat → Prop) (ht : TreeR w F ct t) (hd : t.depth ≤ m + 1) :
  Calls Tryz.prog 14 #[.agg ct.toArray] w (GivesT w F t) := by
 obtain ⟨n1, s2, b3, l4, u5, A6, c7, A8, c9, av, aw, dM, rfl, rfl, dl, dp, dN, dO⟩ := ht.open_
 have dq := dl.small
 have dr := dp.small
 obtain ⟨dP, dt, dQ⟩ := dO.ex
 have du := dt.small
 refine enter (n := 49) Tryz.func14 rfl Tryz.ntmps14 kz fun a hE => ?_
 have hW := WOk.start w Nil
 refine go_seq_region [0, 1] kz ?_
 refine of_op (wpOp_box hW hE (d := 1) (cs := [.int .i64 n1, .slice A6 s2.length c7, .bool b3, .slice A8 l4.length c9, .slice av u5.length aw]) kz fun cb eZ e5 dR dS dT ce cg => ?_)
 clear hE hW
 refine of_op (wpOp_alloc ce cg (d := 2) (cs := [.int .i64 0, .slice none 0 0, .bool false, .slice none 0 0, .slice none 0 0]) kz fun cc e6 e7 dU dV dW b0 cl => ?_)
 clear cg ce
 refine wpOps_nil (then_normal ?_)
 refine go_seq_region [0, 1, 2, 3, 4, 5, 6, 7, 8] kz ?_
 refine go_rn [0, 1, 2, 3, 4, 5, 6] [7, 8] [(1, .p 0 0), (2, .p 1 0), (14, .v (.agg #[.int .i64 n1, .slice A6 s2.length c7, .bool b3, .slice none 0 0, .slice none 0 0]))] b0 cl fun e9 cm => ?_
 clear cl
 refine of_op (wpOp_alloc b0 cm (d := 3) (cs := [.int .i64 0, .slice none 0 0, .bool false, .slice none 0 0, .slice none 0 0]) kz fun cd fa fb dX dY dZ cq cr => ?_)
 clear cm b0
 refine of_op (wpOp_store cq cr (oi := 2) (cs := [.int .i64 n1, .slice A6 s2.length c7, .bool b3, .slice none 0 0, .slice none 0 0]) kz fun fc d4 bj cu => ?_)
 clear cr cq
 refine wpOps_nil (then_normal ?_)
 refine wp_seq ?_
 refine go_sp [(1, .p 0 0), (2, .p 1 0), (3, .p 2 0), (16, .v (.slice A8 l4.length c9)), (17, .v (.int .i64 ((l4.length : Nat) : Int))), (18, .v (.int .i64 0))] bj cu fun fe cv => ?_
 clear cu
 refine wp_block ?_
 have cw := bj.addNil 39 5
 have d5 := bj.frNil 39 5
 clear bj
 refine wp_loop_ghost (fun n_ a_ w_ => ∃ (k : Nat) (A_ : Option Addr) (c_ : Nat) (xs : List Value) (css : List (List Value)), n_ = l4.length - k ∧ k ≤ l4.length ∧ (Trees w_ (Imm F w w_ [⟨cb, 0, [.int .i64 n1, .slice A6 s2.length c7, .bool b3, .slice A8 l4.length c9, .slice av u5.length aw], true⟩, ⟨cc, 0, [.int .i64 0, .slice none 0 0, .bool false, .slice none 0 0, .slice none 0 0], true⟩, ⟨cd, 0, [.int .i64 n1, .slice A6 s2.length c7, .bool b3, .slice A_ k c_, .slice none 0 0], true⟩] [⟨A_, c_, 39, 5, k, xs⟩]) xs (l4.take k) css) ∧ LInv cw 49 [⟨cb, 0, [.int .i64 n1, .slice A6 s2.length c7, .bool b3, .slice A8 l4.length c9, .slice av u5.length aw], true⟩, ⟨cc, 0, [.int .i64 0, .slice none 0 0, .bool false, .slice none 0 0, .slice none 0 0], true⟩, ⟨cd, 0, [.int .i64 n1, .slice A6 s2.length c7, .bool b3, .slice A_ k c_, .slice none 0 0], true⟩] [⟨A_, c_, 39, 5, k, xs⟩] [(1, .p 0 0), (2, .p 1 0), (3, .p 2 0), (16, .v (.slice A8 l4.length c9)), (17, .v (.int .i64 ((l4.length : Nat) : Int))), (18, .v (.int .i64 ((k : Nat) : Int)))] a_ w_) (l4.length) ⟨0, none, 0, [], [], by omega, by omega, Trees.nil _ _, cv.pk, cw, Fr.refl _ _ _⟩ ?_
 clear cv
 rintro ff fg fh ⟨k, A_, c_, xs, css, d6, d7, hT, cy, ah, cZ⟩
 refine go_sp [(1, .p 0 0), (2, .p 1 0), (3, .p 2 0), (16, .v (.slice A8 l4.length c9)), (17, .v (.int .i64 ((l4.length : Nat) : Int))), (18, .v (.int .i64 ((k : Nat) : Int))), (19, .v (.bool (decide (((k : Nat) : Int) < ((l4.length : Nat) : Int)))))] ah cy fun fi ay => ?_
 clear cy
 refine wp_seq ?_
 refine cond_of ay (b := decide (((k : Nat) : Int) < ((l4.length : Nat) : Int))) kz (fun b5 => ?_) (fun b5 => ?_)
 ·
  have d8 := of_decide_eq_true b5
  refine wp_skip ?_
  refine then_normal ?_
  refine wp_seq ?_
  refine wp_block ?_
  refine go_seq_region [0, 1, 2, 3] kz ?_
  obtain ⟨d9, ea, c5, eb, bp⟩ := Slots.get dp (i := k) (by omega)
  obtain ⟨ec, b6⟩ : ∃ x, l4[k]? = some x := ⟨_, List.getElem?_eq_getElem (by omega)⟩
  have b8 := dN k ec b6
  obtain ⟨cz, cA, cB, cC, cD, cE, cG, cH, cI, cJ, cK, ee, rfl, bq, ef, eg, fj, fk⟩ := b8.open_
  rw [bq] at b8
  have dv := ef.small
  have dw := eg.small
  rw [bq] at bp
  refine of_op (wpOp_index ay (t := 23) (A := A8) (m := l4.length) (q := ((k : Nat) : Int)) (d := 20) kz (e := 26) (size := 5) (bytes := 88) kz c5 rfl (by omega) fun fl br => ?_)
  clear ay
  refine of_op (wpOp_load br (t := 26) (b := d9) (o := ea + k * 5) (d := 21) kz (cs := [.int .i64 cz, .slice cE cA.length cG, .bool cB, .slice cH cC.length cI, .slice cJ cD.length cK]) (v := .agg #[.int .i64 cz, .slice cE cA.length cG, .bool cB, .slice cH cC.length cI, .slice cJ cD.length cK]) kz (AtF.move bp ah.step nilM keepF).at_ fun eh bt => ?_)
  clear br
  refine of_op (wpOp_alloc ah bt (d := 5) (cs := [.int .i64 0, .slice none 0 0, .bool false, .slice none 0 0, .slice none 0 0]) kz fun ei ej ek dx dy aA bu bv => ?_)
  clear bt ah
  refine of_op (wpOp_store bu bv (oi := 3) (cs := [.int .i64 cz, .slice cE cA.length cG, .bool cB, .slice cH cC.length cI, .slice cJ cD.length cK]) kz fun em aB bw bz => ?_)
  clear bv bu
  refine wpOps_nil (then_normal ?_)
  refine go_drawK 7 kz bw fun eo aC ai cL => ?_
  clear bw
  refine go_rnD [0, 1, 2] [(1, .p 0 0), (2, .p 1 0), (3, .p 2 0), (16, .v (.slice A8 l4.length c9)), (17, .v (.int .i64 ((l4.length : Nat) : Int))), (18, .v (.int .i64 ((k : Nat) : Int))), (23, .v (.slice A_ k c_)), (24, .v (.agg #[.int .i64 cz, .slice cE cA.length cG, .bool cB, .slice cH cC.length cI, .slice cJ cD.length cK]))] 5 (panicFree_block (panicFree_then (panicFree_then (panicFree_block (panicFree_then panicFree_body))))) (fun _ h => h.cells) cL bz fun ep bA => ?_
  clear bz
  refine anyC_op (i := 3) kz (wpOp_call bA (f := 14) (vs := [.agg #[.int .i64 cz, .slice cE cA.length cG, .bool cB, .slice cH cC.length cI, .slice cJ cD.length cK]]) (d := 25) kz Tryz.call14 ( hg _ _ _ _ (b8.move ai.step nilM ai.imm) (by have h_ := deep_get b6; rw [tdepth_mk] at hd; omega)) ?_)
  rintro e_ eu ⟨dz, rfl, cM, aD⟩
  have aE := cM.move (Step.refl _ Nil) nilM (ai.laid (G := F) aD)
  obtain ⟨aF, aG, aH, aI, aJ, aK, aL, aM, aN, aO, aP, dA, dB, aQ, da, db, ev, ew⟩ := aE.open_
  rw [aQ] at aE
  have dc := da.small
  have de := db.small
  rw [aQ]
  refine ⟨_, rfl, fun ey bB => ?_⟩
  have aR := ai.next_nil aD
  have af := ai.frN aD
  clear bA
  have cN := TT.ofW af aR
  refine ⟨fun _ => cN, ?_⟩
  refine anyC_op (i := 4) kz (wpOp_lit aR bB (e := 39) (size := 5) (len := 1) (cs := [.int .i64 aF, .slice aK aG.length aL, .bool aH, .slice aM aI.length aN, .slice aO aJ.length aP]) (d := 26) kz kz fun df ez eA dC dD aa aj bC => ?_)
  clear bB aR
  have cO := TT.ofW (af.trans aa) aj
  refine ⟨fun _ => cO, ?_⟩
  refine anyC_op (i := 5) kz (wpOp_append aj bC (k := 0) (d := 27) (t := 36) (e := 39) (size := 5) (bytes := 88) (A := A_) (As := (some ⟨df, 0, none⟩)) (m0 := k) (c := c_) (m := 1) (cs := 1) (xs := xs) (news := [.int .i64 aF, .slice aK aG.length aL, .bool aH, .slice aM aI.length aN, .slice aO aJ.length aP]) kz kz rfl (own_src (aj.own 1 _ rfl) (allOne_ok kz)) (own_cap (aj.own 1 _ rfl)) (by omega) fun aS aT eB eC ag aU bD => ?_)
  clear bC aj
  have bE := TT.ofW ((af.trans aa).trans ag) aU
  refine ⟨fun _ => bE, ?_⟩
  refine go_rnD [6] [(1, .p 0 0), (2, .p 1 0), (3, .p 2 0), (16, .v (.slice A8 l4.length c9)), (17, .v (.int .i64 ((l4.length : Nat) : Int))), (18, .v (.int .i64 ((k : Nat) : Int))), (27, .v (.slice aS (k + 1) aT)), (28, .p 2 3)] 1 (panicFree_block (panicFree_then (panicFree_then (panicFree_block (panicFree_then panicFree_body))))) (fun _ h => h.cells) bE bD fun eD bF => ?_
  clear bD
  refine anyC_op (i := 7) kz (wpOp_store aU bF (oi := 2) (cs := [.int .i64 n1, .slice A6 s2.length c7, .bool b3, .slice aS (k + 1) aT, .slice none 0 0]) kz fun eE ak bG bH => ?_)
  clear bF aU
  refine ⟨fun h => absurd rfl h, ?_⟩
  refine anyC_done kz ?_ _
  refine block_normal ?_
  refine then_normal ?_
  refine go_region [0, 1] kz ?_
  refine go_rn [0, 1] [] [(1, .p 0 0), (2, .p 1 0), (3, .p 2 0), (16, .v (.slice A8 l4.length c9)), (17, .v (.int .i64 ((l4.length : Nat) : Int))), (18, .v (.int .i64 (IntKind.i64.wrap (((k : Nat) : Int) + 1))))] bG bH fun eF cP => ?_
  clear bH
  refine wpOps_nil (then_normal ?_)
  obtain ⟨bI, cQ, al⟩ := bG.cutB cP 3 [⟨cb, 0, [.int .i64 n1, .slice A6 s2.length c7, .bool b3, .slice A8 l4.length c9, .slice av u5.length aw], true⟩, ⟨cc, 0, [.int .i64 0, .slice none 0 0, .bool false, .slice none 0 0, .slice none 0 0], true⟩, ⟨cd, 0, [.int .i64 n1, .slice A6 s2.length c7, .bool b3, .slice aS (k + 1) aT, .slice none 0 0], true⟩] [(1, .p 0 0), (2, .p 1 0), (3, .p 2 0), (16, .v (.slice A8 l4.length c9)), (17, .v (.int .i64 ((l4.length : Nat) : Int))), (18, .v (.int .i64 (IntKind.i64.wrap (((k : Nat) : Int) + 1))))]
  obtain ⟨cR, am⟩ := cQ.cutR 1 [⟨aS, aT, 39, 5, k + 1, xs ++ [.int .i64 aF, .slice aK aG.length aL, .bool aH, .slice aM aI.length aN, .slice aO aJ.length aP]⟩]
  have cS : IntKind.i64.wrap (((k : Nat) : Int) + 1) = ((k + 1 : Nat) : Int) := wrap_succ (by omega)
  rw [cS] at bI
  exact ⟨l4.length - (k + 1), by omega, k + 1, aS, aT, xs ++ [Value.int .i64 aF, .slice aK aG.length aL, .bool aH, .slice aM aI.length aN, .slice aO aJ.length aP], (css ++ [[Value.int .i64 aF, .slice aK aG.length aL, .bool aH, .slice aM aI.length aN, .slice aO aJ.length aP]]), rfl, by omega, by rw [take_succ_of b6]; exact (hT.move ((((((((aA.trans aB).trans aC).trans af).trans aa).trans ag).trans ak).trans al).trans am).step immM ((((((((aA.trans aB).trans aC).trans af).trans aa).trans ag).trans ak).trans al).trans am).to').snoc (aE.move ((((aa.trans ag).trans ak).trans al).trans am).step immM ((((aa.trans ag).trans ak).trans al).trans am).to'), bI.pk, cR, (((((((((cZ.trans aA).trans aB).trans aC).trans af).trans aa).trans ag).trans ak).trans al).trans am)⟩
 ·
  have dE := of_decide_eq_false b5
  refine wp_exit ?_
  refine then_exit ?_
  refine then_exit ?_
  refine block_exit ?_
  refine then_normal ?_
  refine wp_seq ?_
  refine go_sp [(2, .p 1 0), (3, .p 2 0), (31, .v (.slice av u5.length aw)), (32, .v (.int .i64 ((u5.length : Nat) : Int))), (33, .v (.int .i64 0))] ah ay fun eG bJ => ?_
  clear ay
  refine wp_block ?_
  have hk0 : k = l4.length := by omega
  have bK := ah.addNil 64 2
  have bL := ah.frNil 64 2
  clear ah
  refine wp_loop_ghost (fun n_ a_ w_ => ∃ (q : Nat) (A5_ : Option Addr) (c5_ : Nat) (ys : List Value) (dss : List (List Value)), n_ = u5.length - q ∧ q ≤ u5.length ∧ (Tags w_ (Imm F w w_ [⟨cb, 0, [.int .i64 n1, .slice A6 s2.length c7, .bool b3, .slice A8 l4.length c9, .slice av u5.length aw], true⟩, ⟨cc, 0, [.int .i64 0, .slice none 0 0, .bool false, .slice none 0 0, .slice none 0 0], true⟩, ⟨cd, 0, [.int .i64 n1, .slice A6 s2.length c7, .bool b3, .slice A_ k c_, .slice A5_ q c5_], true⟩] [⟨A_, c_, 39, 5, k, xs⟩, ⟨A5_, c5_, 64, 2, q, ys⟩]) ys (u5.take q) dss) ∧ LInv bK 49 [⟨cb, 0, [.int .i64 n1, .slice A6 s2.length c7, .bool b3, .slice A8 l4.length c9, .slice av u5.length aw], true⟩, ⟨cc, 0, [.int .i64 0, .slice none 0 0, .bool false, .slice none 0 0, .slice none 0 0], true⟩, ⟨cd, 0, [.int .i64 n1, .slice A6 s2.length c7, .bool b3, .slice A_ k c_, .slice A5_ q c5_], true⟩] [⟨A_, c_, 39, 5, k, xs⟩, ⟨A5_, c5_, 64, 2, q, ys⟩] [(2, .p 1 0), (3, .p 2 0), (31, .v (.slice av u5.length aw)), (32, .v (.int .i64 ((u5.length : Nat) : Int))), (33, .v (.int .i64 ((q : Nat) : Int)))] a_ w_) (u5.length) ⟨0, none, 0, [], [], by omega, by omega, Tags.nil _ _, bJ.pk, bK, Fr.refl _ _ _⟩ ?_
  clear bJ
  rintro eH eI eJ ⟨q, A5_, c5_, ys, dss, dF, dG, hU, bM, ab, aV⟩
  refine go_sp [(2, .p 1 0), (3, .p 2 0), (31, .v (.slice av u5.length aw)), (32, .v (.int .i64 ((u5.length : Nat) : Int))), (33, .v (.int .i64 ((q : Nat) : Int))), (34, .v (.bool (decide (((q : Nat) : Int) < ((u5.length : Nat) : Int)))))] ab bM fun eK ao => ?_
  clear bM
  refine wp_seq ?_
  refine cond_of ao (b := decide (((q : Nat) : Int) < ((u5.length : Nat) : Int))) kz (fun aW => ?_) (fun aW => ?_)
  ·
   have dH := of_decide_eq_true aW
   refine wp_skip ?_
   refine then_normal ?_
   refine wp_seq ?_
   refine wp_block ?_
   refine go_seq_region [0, 1, 2, 3] kz ?_
   obtain ⟨dg, dh, cT, dI, aX⟩ := Slots.get dt (i := q) (by omega)
   obtain ⟨⟨ac, ae⟩, bN⟩ : ∃ x, u5[q]? = some x := ⟨_, List.getElem?_eq_getElem (by omega)⟩
   obtain ⟨⟨ap, ar, ca, cV⟩, di, dj⟩ := dQ q ac ae bN
   rw [ca] at aX
   refine of_op (wpOp_index ao (t := 24) (A := av) (m := u5.length) (q := ((q : Nat) : Int)) (d := 35) kz (e := 63) (size := 2) (bytes := 32) kz cT rfl (by omega) fun eL bO => ?_)
   clear ao
   refine of_op (wpOp_load bO (t := 63) (b := dg) (o := dh + q * 2) (d := 36) kz (cs := [.int .u32 ac, .slice ap ae.length ar]) (v := .agg #[.int .u32 ac, .slice ap ae.length ar]) kz (AtF.move aX ab.step nilM keepF).at_ fun eM bP => ?_)
   clear bO
   refine of_op (wpOp_alloc ab bP (d := 7) (cs := [.int .u32 0, .slice none 0 0]) kz fun eN eO eP dJ dK aY bQ bR => ?_)
   clear bP ab
   refine of_op (wpOp_store bQ bR (oi := 3) (cs := [.int .u32 ac, .slice ap ae.length ar]) kz fun eQ aZ ba bS => ?_)
   clear bR bQ
   refine wpOps_nil (then_normal ?_)
   refine go_region [0, 1, 2, 3, 4, 5, 6, 7, 8, 9, 10] kz ?_
   refine go_rn [0, 1, 2, 3, 4, 5, 6] [7, 8, 9, 10] [(2, .p 1 0), (3, .p 2 0), (31, .v (.slice av u5.length aw)), (32, .v (.int .i64 ((u5.length : Nat) : Int))), (33, .v (.int .i64 ((q : Nat) : Int))), (38, .v (.slice A5_ q c5_)), (43, .v (.agg #[.int .u32 ac, .slice ap ae.length ar]))] ba bS fun eR bT => ?_
   clear bS
   refine wpOps_push ba bT (k := 1) (e := 64) (size := 2) (len := 1) (cs := [.int .u32 ac, .slice ap ae.length ar]) (d1 := 44) (d := 45) kz (t := 37) (bytes := 32) kz (fun _ => by kernel_rfl) rfl kz (by omega) fun bk bn eS eT bd bf ⟨_, bU⟩ => ?_
   clear bT ba
   refine go_rn [9] [10] [(2, .p 1 0), (3, .p 2 0), (31, .v (.slice av u5.length aw)), (32, .v (.int .i64 ((u5.length : Nat) : Int))), (33, .v (.int .i64 ((q : Nat) : Int))), (45, .v (.slice bk (q + 1) bn)), (46, .p 2 4)] bf bU fun eU bV => ?_
   clear bU
   refine of_op (wpOp_store bf bV (oi := 2) (cs := [.int .i64 n1, .slice A6 s2.length c7, .bool b3, .slice A_ k c_, .slice bk (q + 1) bn]) kz fun eV bg bW bX => ?_)
   clear bV bf
   refine wpOps_nil ?_
   refine block_normal ?_
   refine then_normal ?_
   refine go_region [0, 1] kz ?_
   refine go_rn [0, 1] [] [(2, .p 1 0), (3, .p 2 0), (31, .v (.slice av u5.length aw)), (32, .v (.int .i64 ((u5.length : Nat) : Int))), (33, .v (.int .i64 (IntKind.i64.wrap (((q : Nat) : Int) + 1))))] bW bX fun eW cW => ?_
   clear bX
   refine wpOps_nil (then_normal ?_)
   obtain ⟨bY, bh, bi⟩ := bW.cutB cW 3 [⟨cb, 0, [.int .i64 n1, .slice A6 s2.length c7, .bool b3, .slice A8 l4.length c9, .slice av u5.length aw], true⟩, ⟨cc, 0, [.int .i64 0, .slice none 0 0, .bool false, .slice none 0 0, .slice none 0 0], true⟩, ⟨cd, 0, [.int .i64 n1, .slice A6 s2.length c7, .bool b3, .slice A_ k c_, .slice bk (q + 1) bn], true⟩] [(2, .p 1 0), (3, .p 2 0), (31, .v (.slice av u5.length aw)), (32, .v (.int .i64 ((u5.length : Nat) : Int))), (33, .v (.int .i64 (IntKind.i64.wrap (((q : Nat) : Int) + 1))))]
   have cX : IntKind.i64.wrap (((q : Nat) : Int) + 1) = ((q + 1 : Nat) : Int) := wrap_succ (by omega)
   rw [cX] at bY
   exact ⟨u5.length - (q + 1), by omega, q + 1, bk, bn, ys ++ [Value.int .u32 ac, .slice ap ae.length ar], (dss ++ [[Value.int .u32 ac, .slice ap ae.length ar]]), rfl, by omega, by rw [take_succ_of bN]; exact (hU.move ((((aY.trans aZ).trans bd).trans bg).trans bi).step immM ((((aY.trans aZ).trans bd).trans bg).trans bi).to').snoc (c := [.int .u32 ac, .slice ap ae.length ar]) (x := (ac, ae)) ⟨⟨_, _, rfl, (cV.move bh.step nilM bh.imm)⟩, di, dj⟩, bY.pk, bh, (((((aV.trans aY).trans aZ).trans bd).trans bg).trans bi)⟩
  ·
   have dL := of_decide_eq_false aW
   refine wp_exit ?_
   refine then_exit ?_
   refine then_exit ?_
   refine block_exit ?_
   refine then_normal ?_
   refine go_seq_region [0, 1] kz ?_
   refine go_rn [0] [1] [(2, .p 1 0), (48, .v (.agg #[.int .i64 n1, .slice A6 s2.length c7, .bool b3, .slice A_ k c_, .slice A5_ q c5_]))] ab ao fun eX bZ => ?_
   clear ao
   refine of_op (wpOp_store ab bZ (oi := 1) (cs := [.int .i64 n1, .slice A6 s2.length c7, .bool b3, .slice A_ k c_, .slice A5_ q c5_]) kz fun eY ax au cY => ?_)
   clear bZ ab
   refine wpOps_nil (then_normal ?_)
   refine wp_ret ?_
   refine leave cY au.cells (v := .agg #[.int .i64 n1, .slice A6 s2.length c7, .bool b3, .slice A_ k c_, .slice A5_ q c5_]) kz ?_
   have hq0 : q = u5.length := by omega
   have hT' := (hT.move ((bL.trans aV).trans ax).step immM ((bL.trans aV).trans ax).to')
   have hU' := (hU.move ax.step immM ax.to')
   rw [show l4.take k = l4 by rw [hk0, List.take_length]] at hT'
   rw [show u5.take q = u5 by rw [hq0, List.take_length]] at hU'
   exact tree_end au rfl (dl.move au.step nilM startFp) hk0 (trees_fp au (k := 0) rfl hT' hk0 (by omega)) hq0 (tags_fp au (k := 1) rfl hU' hq0 (by omega)) rfl
theorem lGiven : ∀ m, GivenOK m
 | 0 => fun ct t w F ht hd => by
  obtain ⟨n, s, b, l, u, A1, c1, A2, c2, A3, c3, xs, rfl, _⟩ := ht.open_
  rw [tdepth_mk] at hd; omega
 | m + 1 => lGiven_step (lGiven m)
end Go.Proofs.YtbjopfcbpobnpaaGreat.ME