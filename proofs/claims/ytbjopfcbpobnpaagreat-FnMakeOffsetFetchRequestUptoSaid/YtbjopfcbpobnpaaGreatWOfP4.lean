/- The texts of a claim, put together: the engine, the contracts, the law. Own work. -/
import Derived.Test.YtbjopfcbpobnpaaGreatWOfP3
/- Contracts: printed by tools/sp.py. Own work. -/
namespace Go.Proofs.YtbjopfcbpobnpaaGreat.ME
open Go
set_option linter.unusedVariables false
set_option linter.unusedSimpArgs false
set_option maxRecDepth 20000

/-- the fitting of a part whose fields are at most d deep -/
def FitOK (d : Nat) : Prop := ∀ (A : Option Addr) (c : Nat) (l : List Fld) (v : Int) (ct : List Value) (t : Tree) (w : World) (F : Nat → Nat → Prop), FldsR w F A c l → plains l → depths l ≤ d → TreeR w F ct t →
    Calls Tryz.prog 15 #[.slice A l.length c, .int .i64 v, .agg ct.toArray] w (GivesT w F (fitT v d l t))

theorem sFitted0 {d : Nat} (hfit : FitOK d) (cf : List Value) (f : Fld) (v : Int) (ct : List Value) (t : Tree) (w : World) (F : Nat → Nat → Prop) (hf : FldR w F cf f) (hpl : plains f.sub) (hd : depths f.sub ≤ d) (hk11 : f.kind ≠ 11) (ht : TreeR w F ct t) :
    Calls Tryz.prog 36 #[.agg cf.toArray, .int .i64 v, .agg ct.toArray] w (GivesT w F (fitted0 (fitT v d) f (f.nul v t) t)) := by
  obtain ⟨n1, s2, b3, l4, u5, A6, c7, A8, c9, A10, c11, xs12, rfl, rfl, h14, h15, h16, h17⟩ := ht.open_
  have hsm19 := h14.small
  have hsm20 := h15.small
  obtain ⟨k21, y22, y23, y24, y25, y26, y27, l28, A29, c30, xs31, rfl, rfl, h33, h34⟩ := hf.open_
  have hsm35 := h33.small
  have hk11 : k21 ≠ 11 := hk11
  refine enter (n := 82) Tryz.func36 rfl Tryz.ntmps36 (by kernel_rfl) fun a hE => ?_
  have hW := WOk.start w Nil
  refine go_seq_region [0, 1, 2] (by kernel_rfl) ?_
  refine of_op (wpOp_box hW hE (d := 3) (cs := [.int .i64 k21, .int .i64 y22, .int .i64 y23, .int .i64 y24, .int .i64 y25, .int .i64 y26, .int .i64 y27, .slice A29 l28.length c30]) (by kernel_rfl) fun b36 a37 w38 hb39 hz40 hF41 hW42 hE43 => ?_)
  clear hE hW
  refine of_op (wpOp_box hW42 hE43 (d := 5) (cs := [.int .i64 n1, .slice A6 s2.length c7, .bool b3, .slice A8 l4.length c9, .slice A10 u5.length c11]) (by kernel_rfl) fun b44 a45 w46 hb47 hz48 hF49 hW50 hE51 => ?_)
  clear hE43 hW42
  refine of_op (wpOp_alloc hW50 hE51 (d := 6) (cs := [.int .i64 0, .slice none 0 0, .bool false, .slice none 0 0, .slice none 0 0]) (by kernel_rfl) fun b52 a53 w54 hb55 hz56 hF57 hW58 hE59 => ?_)
  clear hE51 hW50
  refine wpOps_nil ?_
  refine then_normal ?_
  refine go_seq_region [0, 1, 2, 3, 4] (by kernel_rfl) ?_
  refine go_rn [0, 1, 2] [3, 4] [(1, .v (.int .i64 v)), (3, .p 0 0), (5, .p 1 0), (6, .p 2 0), (13, .v (.agg #[.int .i64 k21, .int .i64 y22, .int .i64 y23, .int .i64 y24, .int .i64 y25, .int .i64 y26, .int .i64 y27, .slice A29 l28.length c30])), (14, .v (.int .i64 v)), (15, .v (.agg #[.int .i64 n1, .slice A6 s2.length c7, .bool b3, .slice A8 l4.length c9, .slice A10 u5.length c11]))] hW58 hE59 fun a60 hE61 => ?_
  clear hE59
  refine of_op (wpOp_call hE61 (f := 87) (vs := [.agg #[.int .i64 k21, .int .i64 y22, .int .i64 y23, .int .i64 y24, .int .i64 y25, .int .i64 y26, .int .i64 y27, .slice A29 l28.length c30], .int .i64 v, .agg #[.int .i64 n1, .slice A6 s2.length c7, .bool b3, .slice A8 l4.length c9, .slice A10 u5.length c11]]) (d := 16) (by kernel_rfl) Tryz.call87 (sNull k21 y22 y23 y24 y25 y26 y27 l28 _ _ v n1 s2 b3 l4 u5 _ _ _ _ _ _ _) ?_)
  rintro e_ w63 ⟨rfl, hs62⟩
  refine ⟨_, rfl, fun a64 hE65 => ?_⟩
  have hW66 := hW58.next_nil hs62
  have hF67 := hW58.frN hs62
  clear hE61 hW58
  refine go_rn [4] [] [(1, .v (.int .i64 v)), (3, .p 0 0), (5, .p 1 0), (6, .p 2 0), (7, .v (.bool (Fld.nul (Fld.mk k21 y22 y23 y24 y25 y26 y27 l28) v (Tree.mk n1 s2 b3 l4 u5))))] hW66 hE65 fun a68 hE69 => ?_
  clear hE65
  refine wpOps_nil ?_
  refine then_normal ?_
  refine wp_seq ?_
  refine go_sp [(1, .v (.int .i64 v)), (3, .p 0 0), (5, .p 1 0), (6, .p 2 0), (7, .v (.bool (Fld.nul (Fld.mk k21 y22 y23 y24 y25 y26 y27 l28) v (Tree.mk n1 s2 b3 l4 u5)))), (18, .v (.int .i64 k21))] hW66 hE69 fun a70 hE71 => ?_
  clear hE69
  refine wp_block ?_
  refine wp_seq ?_
  refine go_sp [(1, .v (.int .i64 v)), (3, .p 0 0), (5, .p 1 0), (6, .p 2 0), (7, .v (.bool (Fld.nul (Fld.mk k21 y22 y23 y24 y25 y26 y27 l28) v (Tree.mk n1 s2 b3 l4 u5)))), (18, .v (.int .i64 k21)), (19, .v (.bool (k21 == 8)))] hW66 hE71 fun a72 hE73 => ?_
  clear hE71
  refine cond_of hE73 (b := k21 == 8) (by kernel_rfl) (fun hc74 => ?_) (fun hc74 => ?_)
  ·
    have hf75 : k21 = 8 := by simpa using hc74
    refine wp_skip ?_
    refine then_normal ?_
    refine cond_true hE73 (b := k21 == 8) (by kernel_rfl) (hc74) ?_
    refine go_seq_region [0, 1, 2, 3, 4, 5] (by kernel_rfl) ?_
    refine go_rn [0, 1] [2, 3, 4, 5] [(6, .p 2 0), (7, .v (.bool (Fld.nul (Fld.mk k21 y22 y23 y24 y25 y26 y27 l28) v (Tree.mk n1 s2 b3 l4 u5)))), (23, .v (.slice A6 s2.length c7))] hW66 hE73 fun a76 hE77 => ?_
    clear hE73
    have hwl79 := whole_le s2
    refine of_op (wpOp_call hE77 (f := 39) (vs := [.slice A6 s2.length c7]) (d := 24) (by kernel_rfl) Tryz.call39 (sWhole _ _ s2 (h14.move hW66.step nilM hW66.imm).le _) ?_)
    rintro e_ w80 ⟨rfl, hs78⟩
    refine ⟨_, rfl, fun a81 hE82 => ?_⟩
    have hW83 := hW66.next_nil hs78
    have hF84 := hW66.frN hs78
    clear hE77 hW66
    refine go_rn [3, 4] [5] [(6, .p 2 0), (26, .v (.agg #[.int .i64 0, .slice A6 ((whole s2).length) c7, .bool (Fld.nul (Fld.mk k21 y22 y23 y24 y25 y26 y27 l28) v (Tree.mk n1 s2 b3 l4 u5)), .slice none 0 0, .slice none 0 0]))] hW83 hE82 fun a85 hE86 => ?_
    clear hE82
    refine of_op (wpOp_store hW83 hE86 (oi := 2) (cs := [.int .i64 0, .slice A6 ((whole s2).length) c7, .bool (Fld.nul (Fld.mk k21 y22 y23 y24 y25 y26 y27 l28) v (Tree.mk n1 s2 b3 l4 u5)), .slice none 0 0, .slice none 0 0]) (by kernel_rfl) fun w87 hF88 hW89 hE90 => ?_)
    clear hE86 hW83
    refine wpOps_nil ?_
    refine then_normal ?_
    refine wp_ret ?_
    refine block_ret ?_
    refine then_ret ?_
    refine leave hE90 hW89.cells (v := .agg #[.int .i64 0, .slice A6 ((whole s2).length) c7, .bool (Fld.nul (Fld.mk k21 y22 y23 y24 y25 y26 y27 l28) v (Tree.mk n1 s2 b3 l4 u5)), .slice none 0 0, .slice none 0 0]) (by kernel_rfl) ?_
    exact tree_end hW89 rfl (((h14.take 32767).move hW89.step nilM hW89.imm).move (Step.refl _ Nil) nilM immOut) rfl (noTrees _ _) rfl (TagsR.nil _ _) (fitted_8 (by omega))
  ·
    have hf91 : k21 ≠ 8 := by simpa using hc74
    refine go_region [0, 1] (by kernel_rfl) ?_
    refine go_rn [0, 1] [] [(1, .v (.int .i64 v)), (3, .p 0 0), (5, .p 1 0), (6, .p 2 0), (7, .v (.bool (Fld.nul (Fld.mk k21 y22 y23 y24 y25 y26 y27 l28) v (Tree.mk n1 s2 b3 l4 u5)))), (18, .v (.int .i64 k21)), (19, .v (.bool (k21 == 9)))] hW66 hE73 fun a92 hE93 => ?_
    clear hE73
    refine wpOps_nil ?_
    refine then_normal ?_
    refine cond_of hE93 (b := k21 == 9) (by kernel_rfl) (fun hc94 => ?_) (fun hc94 => ?_)
    ·
      have hf95 : k21 = 9 := by simpa using hc94
      refine go_seq_region [0, 1, 2, 3, 4, 5] (by kernel_rfl) ?_
      refine go_rn [0, 1] [2, 3, 4, 5] [(6, .p 2 0), (7, .v (.bool (Fld.nul (Fld.mk k21 y22 y23 y24 y25 y26 y27 l28) v (Tree.mk n1 s2 b3 l4 u5)))), (23, .v (.slice A6 s2.length c7))] hW66 hE93 fun a96 hE97 => ?_
      clear hE93
      have hwl99 := whole_le s2
      refine of_op (wpOp_call hE97 (f := 39) (vs := [.slice A6 s2.length c7]) (d := 24) (by kernel_rfl) Tryz.call39 (sWhole _ _ s2 (h14.move hW66.step nilM hW66.imm).le _) ?_)
      rintro e_ w100 ⟨rfl, hs98⟩
      refine ⟨_, rfl, fun a101 hE102 => ?_⟩
      have hW103 := hW66.next_nil hs98
      have hF104 := hW66.frN hs98
      clear hE97 hW66
      refine go_rn [3, 4] [5] [(6, .p 2 0), (26, .v (.agg #[.int .i64 0, .slice A6 ((whole s2).length) c7, .bool (Fld.nul (Fld.mk k21 y22 y23 y24 y25 y26 y27 l28) v (Tree.mk n1 s2 b3 l4 u5)), .slice none 0 0, .slice none 0 0]))] hW103 hE102 fun a105 hE106 => ?_
      clear hE102
      refine of_op (wpOp_store hW103 hE106 (oi := 2) (cs := [.int .i64 0, .slice A6 ((whole s2).length) c7, .bool (Fld.nul (Fld.mk k21 y22 y23 y24 y25 y26 y27 l28) v (Tree.mk n1 s2 b3 l4 u5)), .slice none 0 0, .slice none 0 0]) (by kernel_rfl) fun w107 hF108 hW109 hE110 => ?_)
      clear hE106 hW103
      refine wpOps_nil ?_
      refine then_normal ?_
      refine wp_ret ?_
      refine block_ret ?_
      refine then_ret ?_
      refine leave hE110 hW109.cells (v := .agg #[.int .i64 0, .slice A6 ((whole s2).length) c7, .bool (Fld.nul (Fld.mk k21 y22 y23 y24 y25 y26 y27 l28) v (Tree.mk n1 s2 b3 l4 u5)), .slice none 0 0, .slice none 0 0]) (by kernel_rfl) ?_
      exact tree_end hW109 rfl (((h14.take 32767).move hW109.step nilM hW109.imm).move (Step.refl _ Nil) nilM immOut) rfl (noTrees _ _) rfl (TagsR.nil _ _) (fitted_8 (by omega))
    ·
      have hf111 : k21 ≠ 9 := by simpa using hc94
      refine go_sp [(1, .v (.int .i64 v)), (3, .p 0 0), (5, .p 1 0), (6, .p 2 0), (7, .v (.bool (Fld.nul (Fld.mk k21 y22 y23 y24 y25 y26 y27 l28) v (Tree.mk n1 s2 b3 l4 u5)))), (18, .v (.int .i64 k21)), (27, .v (.bool (k21 == 10)))] hW66 hE93 fun a112 hE113 => ?_
      clear hE93
      refine cond_of hE113 (b := k21 == 10) (by kernel_rfl) (fun hc114 => ?_) (fun hc114 => ?_)
      ·
        have hf115 : k21 = 10 := by simpa using hc114
        refine go_seq_region [0, 1, 2, 3, 4, 5, 6] (by kernel_rfl) ?_
        refine go_rn [0, 1, 2, 3] [4, 5, 6] [(6, .p 2 0), (7, .v (.bool (Fld.nul (Fld.mk k21 y22 y23 y24 y25 y26 y27 l28) v (Tree.mk n1 s2 b3 l4 u5)))), (30, .v (.slice A29 l28.length c30)), (31, .v (.int .i64 v)), (32, .v (.agg #[.int .i64 n1, .slice A6 s2.length c7, .bool b3, .slice A8 l4.length c9, .slice A10 u5.length c11]))] hW66 hE113 fun a116 hE117 => ?_
        clear hE113
        refine of_op (wpOp_call hE117 (f := 15) (vs := [.slice A29 l28.length c30, .int .i64 v, .agg #[.int .i64 n1, .slice A6 s2.length c7, .bool b3, .slice A8 l4.length c9, .slice A10 u5.length c11]]) (d := 33) (by kernel_rfl) Tryz.call15 ( hfit _ _ l28 v _ (Tree.mk n1 s2 b3 l4 u5) _ _ ⟨xs31, (h33.move hW66.step nilM hW66.imm), (fun i_ x_ h_ => ((h34 i_ x_ h_).move hW66.step nilM hW66.imm))⟩ hpl hd (ht.move hW66.step nilM hW66.imm)) ?_)
        rintro e_ w121 ⟨cs120, rfl, hr119, hs118⟩
        have hr122 := hr119.move (Step.refl _ Nil) nilM (hW66.laid (G := F) hs118)
        obtain ⟨n123, s124, b125, l126, u127, A128, c129, A130, c131, A132, c133, xs134, ht140, hcs135, h136, h137, h138, h139⟩ := hr122.open_
        rw [hcs135] at hr122
        have hsm141 := h136.small
        have hsm142 := h137.small
        rw [hcs135]
        refine ⟨_, rfl, fun a143 hE144 => ?_⟩
        have hW145 := hW66.next_nil hs118
        have hF146 := hW66.frN hs118
        clear hE117
        refine of_op (wpOp_alloc hW145 hE144 (d := 8) (cs := [.int .i64 0, .slice none 0 0, .bool false, .slice none 0 0, .slice none 0 0]) (by kernel_rfl) fun b147 a148 w149 hb150 hz151 hF152 hW153 hE154 => ?_)
        clear hE144 hW145
        refine of_op (wpOp_store hW153 hE154 (oi := 3) (cs := [.int .i64 n123, .slice A128 s124.length c129, .bool b125, .slice A130 l126.length c131, .slice A132 u127.length c133]) (by kernel_rfl) fun w155 hF156 hW157 hE158 => ?_)
        clear hE154 hW153
        refine wpOps_nil ?_
        refine then_normal ?_
        refine go_seq_region [0, 1, 2] (by kernel_rfl) ?_
        refine go_rn [0, 1] [2] [(6, .p 2 0), (8, .p 3 0), (34, .v (.bool (Fld.nul (Fld.mk k21 y22 y23 y24 y25 y26 y27 l28) v (Tree.mk n1 s2 b3 l4 u5)))), (35, .p 3 2)] hW157 hE158 fun a159 hE160 => ?_
        clear hE158
        refine of_op (wpOp_store hW157 hE160 (oi := 3) (cs := [.int .i64 n123, .slice A128 s124.length c129, .bool (Fld.nul (Fld.mk k21 y22 y23 y24 y25 y26 y27 l28) v (Tree.mk n1 s2 b3 l4 u5)), .slice A130 l126.length c131, .slice A132 u127.length c133]) (by kernel_rfl) fun w161 hF162 hW163 hE164 => ?_)
        clear hE160 hW157
        refine wpOps_nil ?_
        refine then_normal ?_
        refine go_seq_region [0, 1] (by kernel_rfl) ?_
        refine go_rn [0] [1] [(6, .p 2 0), (36, .v (.agg #[.int .i64 n123, .slice A128 s124.length c129, .bool (Fld.nul (Fld.mk k21 y22 y23 y24 y25 y26 y27 l28) v (Tree.mk n1 s2 b3 l4 u5)), .slice A130 l126.length c131, .slice A132 u127.length c133]))] hW163 hE164 fun a165 hE166 => ?_
        clear hE164
        refine of_op (wpOp_store hW163 hE166 (oi := 2) (cs := [.int .i64 n123, .slice A128 s124.length c129, .bool (Fld.nul (Fld.mk k21 y22 y23 y24 y25 y26 y27 l28) v (Tree.mk n1 s2 b3 l4 u5)), .slice A130 l126.length c131, .slice A132 u127.length c133]) (by kernel_rfl) fun w167 hF168 hW169 hE170 => ?_)
        clear hE166 hW163
        refine wpOps_nil ?_
        refine then_normal ?_
        refine wp_ret ?_
        refine block_ret ?_
        refine then_ret ?_
        refine leave hE170 hW169.cells (v := .agg #[.int .i64 n123, .slice A128 s124.length c129, .bool (Fld.nul (Fld.mk k21 y22 y23 y24 y25 y26 y27 l28) v (Tree.mk n1 s2 b3 l4 u5)), .slice A130 l126.length c131, .slice A132 u127.length c133]) (by kernel_rfl) ?_
        exact tree_end hW169 rfl ((h136.move (Fr.trans (Fr.trans (Fr.trans hF152 hF156) hF162) hF168).step immM (Fr.trans (Fr.trans (Fr.trans hF152 hF156) hF162) hF168).to').move (Step.refl _ Nil) nilM immOut) rfl ⟨(h137.move (Fr.trans (Fr.trans (Fr.trans hF152 hF156) hF162) hF168).step immM (Fr.trans (Fr.trans (Fr.trans hF152 hF156) hF162) hF168).to').move (Step.refl _ Nil) nilM immOut, fun i_ x_ h_ => ((fun i_ x_ h_ => ((h138 i_ x_ h_).move (Fr.trans (Fr.trans (Fr.trans hF152 hF156) hF162) hF168).step immM (Fr.trans (Fr.trans (Fr.trans hF152 hF156) hF162) hF168).to')) i_ x_ h_).move (Step.refl _ Nil) nilM immOut⟩ rfl ((h139.move (Fr.trans (Fr.trans (Fr.trans hF152 hF156) hF162) hF168).step immM (Fr.trans (Fr.trans (Fr.trans hF152 hF156) hF162) hF168).to').move (Step.refl _ Nil) nilM immOut) (fitted_10 (by assumption) (by assumption) (by assumption) ht140)
      ·
        have hf171 : k21 ≠ 10 := by simpa using hc114
        refine go_sp [(1, .v (.int .i64 v)), (3, .p 0 0), (5, .p 1 0), (6, .p 2 0), (7, .v (.bool (Fld.nul (Fld.mk k21 y22 y23 y24 y25 y26 y27 l28) v (Tree.mk n1 s2 b3 l4 u5)))), (37, .v (.bool (k21 == 11)))] hW66 hE113 fun a172 hE173 => ?_
        clear hE113
        refine cond_false hE173 (b := k21 == 11) (by kernel_rfl) (by simpa using hk11) ?_
        refine wp_skip ?_
        refine block_normal ?_
        refine then_normal ?_
        refine go_seq_region [0, 1, 2, 3, 4, 5] (by kernel_rfl) ?_
        refine go_rn [0, 1, 2, 3, 4] [5] [(6, .p 2 0), (81, .v (.agg #[.int .i64 n1, .slice A6 s2.length c7, .bool false, .slice none 0 0, .slice none 0 0]))] hW66 hE173 fun a174 hE175 => ?_
        clear hE173
        refine of_op (wpOp_store hW66 hE175 (oi := 2) (cs := [.int .i64 n1, .slice A6 s2.length c7, .bool false, .slice none 0 0, .slice none 0 0]) (by kernel_rfl) fun w176 hF177 hW178 hE179 => ?_)
        clear hE175
        refine wpOps_nil ?_
        refine then_normal ?_
        refine wp_ret ?_
        refine leave hE179 hW178.cells (v := .agg #[.int .i64 n1, .slice A6 s2.length c7, .bool false, .slice none 0 0, .slice none 0 0]) (by kernel_rfl) ?_
        exact tree_end hW178 rfl ((h14.move hW178.step nilM hW178.imm).move (Step.refl _ Nil) nilM immOut) rfl (noTrees _ _) rfl (TagsR.nil _ _) (fitted_else (by assumption) (by assumption) (by assumption))

theorem sFitted11 {d : Nat} (hfit : FitOK d) (cf : List Value) (f : Fld) (v : Int) (ct : List Value) (t : Tree) (w : World) (F : Nat → Nat → Prop) (hf : FldR w F cf f) (hpl : f.plain) (hd : depths f.sub ≤ d) (hk11 : f.kind = 11) (ht : TreeR w F ct t) :
    Calls Tryz.prog 36 #[.agg cf.toArray, .int .i64 v, .agg ct.toArray] w (GivesT w F (fittedW (fitT v d) v f t)) := by
  obtain ⟨n1, s2, b3, l4, u5, A6, c7, A8, c9, A10, c11, xs12, rfl, rfl, h14, h15, h16, h17⟩ := ht.open_
  have hsm19 := h14.small
  have hsm20 := h15.small
  obtain ⟨k21, y22, y23, y24, y25, y26, y27, l28, A29, c30, xs31, rfl, rfl, h33, h34⟩ := hf.open_
  have hsm35 := h33.small
  have hk11 : k21 = 11 := hk11
  have hof : y27 ≠ 11 := hpl.1
  refine enter (n := 82) Tryz.func36 rfl Tryz.ntmps36 (by kernel_rfl) fun a hE => ?_
  have hW := WOk.start w Nil
  refine go_seq_region [0, 1, 2] (by kernel_rfl) ?_
  refine of_op (wpOp_box hW hE (d := 3) (cs := [.int .i64 k21, .int .i64 y22, .int .i64 y23, .int .i64 y24, .int .i64 y25, .int .i64 y26, .int .i64 y27, .slice A29 l28.length c30]) (by kernel_rfl) fun b36 a37 w38 hb39 hz40 hF41 hW42 hE43 => ?_)
  clear hE hW
  refine of_op (wpOp_box hW42 hE43 (d := 5) (cs := [.int .i64 n1, .slice A6 s2.length c7, .bool b3, .slice A8 l4.length c9, .slice A10 u5.length c11]) (by kernel_rfl) fun b44 a45 w46 hb47 hz48 hF49 hW50 hE51 => ?_)
  clear hE43 hW42
  refine of_op (wpOp_alloc hW50 hE51 (d := 6) (cs := [.int .i64 0, .slice none 0 0, .bool false, .slice none 0 0, .slice none 0 0]) (by kernel_rfl) fun b52 a53 w54 hb55 hz56 hF57 hW58 hE59 => ?_)
  clear hE51 hW50
  refine wpOps_nil ?_
  refine then_normal ?_
  refine go_seq_region [0, 1, 2, 3, 4] (by kernel_rfl) ?_
  refine go_rn [0, 1, 2] [3, 4] [(1, .v (.int .i64 v)), (3, .p 0 0), (5, .p 1 0), (6, .p 2 0), (13, .v (.agg #[.int .i64 k21, .int .i64 y22, .int .i64 y23, .int .i64 y24, .int .i64 y25, .int .i64 y26, .int .i64 y27, .slice A29 l28.length c30])), (14, .v (.int .i64 v)), (15, .v (.agg #[.int .i64 n1, .slice A6 s2.length c7, .bool b3, .slice A8 l4.length c9, .slice A10 u5.length c11]))] hW58 hE59 fun a60 hE61 => ?_
  clear hE59
  refine of_op (wpOp_call hE61 (f := 87) (vs := [.agg #[.int .i64 k21, .int .i64 y22, .int .i64 y23, .int .i64 y24, .int .i64 y25, .int .i64 y26, .int .i64 y27, .slice A29 l28.length c30], .int .i64 v, .agg #[.int .i64 n1, .slice A6 s2.length c7, .bool b3, .slice A8 l4.length c9, .slice A10 u5.length c11]]) (d := 16) (by kernel_rfl) Tryz.call87 (sNull k21 y22 y23 y24 y25 y26 y27 l28 _ _ v n1 s2 b3 l4 u5 _ _ _ _ _ _ _) ?_)
  rintro e_ w63 ⟨rfl, hs62⟩
  refine ⟨_, rfl, fun a64 hE65 => ?_⟩
  have hW66 := hW58.next_nil hs62
  have hF67 := hW58.frN hs62
  clear hE61 hW58
  refine go_rn [4] [] [(1, .v (.int .i64 v)), (3, .p 0 0), (5, .p 1 0), (6, .p 2 0), (7, .v (.bool (Fld.nul (Fld.mk k21 y22 y23 y24 y25 y26 y27 l28) v (Tree.mk n1 s2 b3 l4 u5))))] hW66 hE65 fun a68 hE69 => ?_
  clear hE65
  refine wpOps_nil ?_
  refine then_normal ?_
  refine wp_seq ?_
  refine go_sp [(1, .v (.int .i64 v)), (3, .p 0 0), (5, .p 1 0), (6, .p 2 0), (7, .v (.bool (Fld.nul (Fld.mk k21 y22 y23 y24 y25 y26 y27 l28) v (Tree.mk n1 s2 b3 l4 u5)))), (18, .v (.int .i64 k21))] hW66 hE69 fun a70 hE71 => ?_
  clear hE69
  refine wp_block ?_
  refine wp_seq ?_
  refine go_sp [(1, .v (.int .i64 v)), (3, .p 0 0), (5, .p 1 0), (6, .p 2 0), (7, .v (.bool (Fld.nul (Fld.mk k21 y22 y23 y24 y25 y26 y27 l28) v (Tree.mk n1 s2 b3 l4 u5)))), (18, .v (.int .i64 k21)), (19, .v (.bool (k21 == 8)))] hW66 hE71 fun a72 hE73 => ?_
  clear hE71
  refine cond_false hE73 (b := k21 == 8) (by kernel_rfl) (by simp [hk11]) ?_
  refine go_region [0, 1] (by kernel_rfl) ?_
  refine go_rn [0, 1] [] [(1, .v (.int .i64 v)), (3, .p 0 0), (5, .p 1 0), (6, .p 2 0), (7, .v (.bool (Fld.nul (Fld.mk k21 y22 y23 y24 y25 y26 y27 l28) v (Tree.mk n1 s2 b3 l4 u5)))), (18, .v (.int .i64 k21)), (19, .v (.bool (k21 == 9)))] hW66 hE73 fun a74 hE75 => ?_
  clear hE73
  refine wpOps_nil ?_
  refine then_normal ?_
  refine cond_false hE75 (b := k21 == 9) (by kernel_rfl) (by simp [hk11]) ?_
  refine go_sp [(1, .v (.int .i64 v)), (3, .p 0 0), (5, .p 1 0), (6, .p 2 0), (7, .v (.bool (Fld.nul (Fld.mk k21 y22 y23 y24 y25 y26 y27 l28) v (Tree.mk n1 s2 b3 l4 u5)))), (18, .v (.int .i64 k21)), (27, .v (.bool (k21 == 10)))] hW66 hE75 fun a76 hE77 => ?_
  clear hE75
  refine cond_false hE77 (b := k21 == 10) (by kernel_rfl) (by simp [hk11]) ?_
  refine go_sp [(1, .v (.int .i64 v)), (3, .p 0 0), (5, .p 1 0), (6, .p 2 0), (7, .v (.bool (Fld.nul (Fld.mk k21 y22 y23 y24 y25 y26 y27 l28) v (Tree.mk n1 s2 b3 l4 u5)))), (37, .v (.bool (k21 == 11)))] hW66 hE77 fun a78 hE79 => ?_
  clear hE77
  refine cond_true hE79 (b := k21 == 11) (by kernel_rfl) (by simpa using hk11) ?_
  refine go_seq_region [0, 1, 2, 3, 4, 5, 6, 7, 8, 9, 10, 11, 12, 13, 14] (by kernel_rfl) ?_
  refine go_rn [0, 1] [2, 3, 4, 5, 6, 7, 8, 9, 10, 11, 12, 13, 14] [(1, .v (.int .i64 v)), (3, .p 0 0), (5, .p 1 0), (6, .p 2 0), (40, .v (.bool (Fld.nul (Fld.mk k21 y22 y23 y24 y25 y26 y27 l28) v (Tree.mk n1 s2 b3 l4 u5))))] hW66 hE79 fun a80 hE81 => ?_
  clear hE79
  refine (Bool.eq_false_or_eq_true (Fld.nul (Fld.mk k21 y22 y23 y24 y25 y26 y27 l28) v (Tree.mk n1 s2 b3 l4 u5))).elim (fun hc82 => ?_) (fun hc82 => ?_)
  ·
    have hE84 := hE81.cast (env' := [(1, .v (.int .i64 v)), (3, .p 0 0), (5, .p 1 0), (6, .p 2 0), (40, .v (.bool true))]) (by rw [hc82])
    clear hE81
    refine go_rn [2, 3, 4, 5, 6, 7, 8, 9, 10, 11, 12] [13, 14] [(1, .v (.int .i64 v)), (3, .p 0 0), (5, .p 1 0), (6, .p 2 0), (51, .v (.agg #[.int .i64 0, .slice none 0 0, .bool true, .slice none 0 0, .slice none 0 0]))] hW66 hE84 fun a85 hE86 => ?_
    clear hE84
    refine of_op (wpOp_alloc hW66 hE86 (d := 9) (cs := [.int .i64 0, .slice none 0 0, .bool false, .slice none 0 0, .slice none 0 0]) (by kernel_rfl) fun b87 a88 w89 hb90 hz91 hF92 hW93 hE94 => ?_)
    clear hE86 hW66
    refine of_op (wpOp_store hW93 hE94 (oi := 3) (cs := [.int .i64 0, .slice none 0 0, .bool true, .slice none 0 0, .slice none 0 0]) (by kernel_rfl) fun w95 hF96 hW97 hE98 => ?_)
    clear hE94 hW93
    refine wpOps_nil ?_
    refine then_normal ?_
    refine go_seq_region [0, 1, 2] (by kernel_rfl) ?_
    refine go_rn [0] [1, 2] [(1, .v (.int .i64 v)), (3, .p 0 0), (5, .p 1 0), (6, .p 2 0), (9, .p 3 0), (52, .v (.agg #[.int .i64 k21, .int .i64 y22, .int .i64 y23, .int .i64 y24, .int .i64 y25, .int .i64 y26, .int .i64 y27, .slice A29 l28.length c30]))] hW97 hE98 fun a99 hE100 => ?_
    clear hE98
    refine of_op (wpOp_alloc hW97 hE100 (d := 10) (cs := [.int .i64 0, .int .i64 0, .int .i64 0, .int .i64 0, .int .i64 0, .int .i64 0, .int .i64 0, .slice none 0 0]) (by kernel_rfl) fun b101 a102 w103 hb104 hz105 hF106 hW107 hE108 => ?_)
    clear hE100 hW97
    refine of_op (wpOp_store hW107 hE108 (oi := 4) (cs := [.int .i64 k21, .int .i64 y22, .int .i64 y23, .int .i64 y24, .int .i64 y25, .int .i64 y26, .int .i64 y27, .slice A29 l28.length c30]) (by kernel_rfl) fun w109 hF110 hW111 hE112 => ?_)
    clear hE108 hW107
    refine wpOps_nil ?_
    refine then_normal ?_
    refine go_seq_region [0, 1, 2, 3, 4, 5, 6, 7] (by kernel_rfl) ?_
    refine go_rn [0, 1, 2] [3, 4, 5, 6, 7] [(1, .v (.int .i64 v)), (5, .p 1 0), (6, .p 2 0), (9, .p 3 0), (10, .p 4 0), (54, .v (.int .i64 y27)), (55, .p 4 0)] hW111 hE112 fun a113 hE114 => ?_
    clear hE112
    refine of_op (wpOp_store hW111 hE114 (oi := 4) (cs := [.int .i64 y27, .int .i64 y22, .int .i64 y23, .int .i64 y24, .int .i64 y25, .int .i64 y26, .int .i64 y27, .slice A29 l28.length c30]) (by kernel_rfl) fun w115 hF116 hW117 hE118 => ?_)
    clear hE114 hW111
    refine go_rn [4] [5, 6, 7] [(1, .v (.int .i64 v)), (5, .p 1 0), (6, .p 2 0), (9, .p 3 0), (10, .p 4 0), (56, .p 4 3)] hW117 hE118 fun a119 hE120 => ?_
    clear hE118
    refine of_op (wpOp_store hW117 hE120 (oi := 4) (cs := [.int .i64 y27, .int .i64 y22, .int .i64 y23, .int .i64 (-1), .int .i64 y25, .int .i64 y26, .int .i64 y27, .slice A29 l28.length c30]) (by kernel_rfl) fun w121 hF122 hW123 hE124 => ?_)
    clear hE120 hW117
    refine go_rn [6] [7] [(1, .v (.int .i64 v)), (5, .p 1 0), (6, .p 2 0), (9, .p 3 0), (10, .p 4 0), (57, .p 4 4)] hW123 hE124 fun a125 hE126 => ?_
    clear hE124
    refine of_op (wpOp_store hW123 hE126 (oi := 4) (cs := [.int .i64 y27, .int .i64 y22, .int .i64 y23, .int .i64 (-1), .int .i64 (-1), .int .i64 y26, .int .i64 y27, .slice A29 l28.length c30]) (by kernel_rfl) fun w127 hF128 hW129 hE130 => ?_)
    clear hE126 hW123
    refine wpOps_nil ?_
    refine then_normal ?_
    refine wp_seq ?_
    refine go_seq_region [0, 1, 2, 3, 4] (by kernel_rfl) ?_
    refine go_rn [0, 1] [2, 3, 4] [(1, .v (.int .i64 v)), (6, .p 2 0), (9, .p 3 0), (10, .p 4 0), (59, .v (.slice A8 l4.length c9))] hW129 hE130 fun a131 hE132 => ?_
    clear hE130
    refine of_op (wpOp_call hE132 (f := 88) (vs := [.slice A8 l4.length c9]) (d := 60) (by kernel_rfl) Tryz.call88 (sThings _ _ l4 (h15.move hW129.step nilM hW129.imm).le _) ?_)
    rintro e_ w134 ⟨rfl, hs133⟩
    refine ⟨_, rfl, fun a135 hE136 => ?_⟩
    have hW137 := hW129.next_nil hs133
    have hF138 := hW129.frN hs133
    clear hE132 hW129
    refine go_rn [3, 4] [] [(1, .v (.int .i64 v)), (6, .p 2 0), (9, .p 3 0), (10, .p 4 0), (60, .v (.slice A8 ((things l4).length) c9)), (61, .v (.int .i64 (((things l4).length : Nat) : Int))), (62, .v (.int .i64 0))] hW137 hE136 fun a139 hE140 => ?_
    clear hE136
    refine wpOps_nil ?_
    refine then_normal ?_
    refine wp_block ?_
    have hW141 := hW137.addNil 26 5
    have hF142 := hW137.frNil 26 5
    clear hW137
    have hsm3 : (things l4).length ≤ 32767 := things_le _
    refine wp_loop_ghost (fun n_ a_ w_ => ∃ (k : Nat) (A_ : Option Addr) (c_ : Nat) (xs : List Value) (css : List (List Value)), n_ = (things l4).length - k ∧ k ≤ (things l4).length ∧ (Trees w_ (Imm F w w_ [⟨b36, 0, [.int .i64 k21, .int .i64 y22, .int .i64 y23, .int .i64 y24, .int .i64 y25, .int .i64 y26, .int .i64 y27, .slice A29 l28.length c30], true⟩, ⟨b44, 0, [.int .i64 n1, .slice A6 s2.length c7, .bool b3, .slice A8 l4.length c9, .slice A10 u5.length c11], true⟩, ⟨b52, 0, [.int .i64 0, .slice none 0 0, .bool false, .slice none 0 0, .slice none 0 0], true⟩, ⟨b87, 0, [.int .i64 0, .slice none 0 0, .bool true, .slice A_ k c_, .slice none 0 0], true⟩, ⟨b101, 0, [.int .i64 y27, .int .i64 y22, .int .i64 y23, .int .i64 (-1), .int .i64 (-1), .int .i64 y26, .int .i64 y27, .slice A29 l28.length c30], true⟩] [⟨A_, c_, 26, 5, k, xs⟩]) xs ((fitL (fitT v d) v (Fld.mk y27 y22 y23 (-1) (-1) y26 y27 l28) l4).take k) css) ∧ LInv hW141 82 [⟨b36, 0, [.int .i64 k21, .int .i64 y22, .int .i64 y23, .int .i64 y24, .int .i64 y25, .int .i64 y26, .int .i64 y27, .slice A29 l28.length c30], true⟩, ⟨b44, 0, [.int .i64 n1, .slice A6 s2.length c7, .bool b3, .slice A8 l4.length c9, .slice A10 u5.length c11], true⟩, ⟨b52, 0, [.int .i64 0, .slice none 0 0, .bool false, .slice none 0 0, .slice none 0 0], true⟩, ⟨b87, 0, [.int .i64 0, .slice none 0 0, .bool true, .slice A_ k c_, .slice none 0 0], true⟩, ⟨b101, 0, [.int .i64 y27, .int .i64 y22, .int .i64 y23, .int .i64 (-1), .int .i64 (-1), .int .i64 y26, .int .i64 y27, .slice A29 l28.length c30], true⟩] [⟨A_, c_, 26, 5, k, xs⟩] [(1, .v (.int .i64 v)), (6, .p 2 0), (9, .p 3 0), (10, .p 4 0), (60, .v (.slice A8 ((things l4).length) c9)), (61, .v (.int .i64 (((things l4).length : Nat) : Int))), (62, .v (.int .i64 ((k : Nat) : Int)))] a_ w_) ((things l4).length) ⟨0, none, 0, [], [], by omega, by omega, Trees.nil _ _, hE140.pk, hW141, Fr.refl _ _ _⟩ ?_
    clear hE140
    rintro n143 a144 w145 ⟨k, A_, c_, xs, css, hn148, hk149, hT, hE146, hW147, hF150⟩
    refine go_sp [(1, .v (.int .i64 v)), (6, .p 2 0), (9, .p 3 0), (10, .p 4 0), (60, .v (.slice A8 ((things l4).length) c9)), (61, .v (.int .i64 (((things l4).length : Nat) : Int))), (62, .v (.int .i64 ((k : Nat) : Int))), (63, .v (.bool (decide (((k : Nat) : Int) < (((things l4).length : Nat) : Int)))))] hW147 hE146 fun a151 hE152 => ?_
    clear hE146
    refine wp_seq ?_
    refine cond_of hE152 (b := decide (((k : Nat) : Int) < (((things l4).length : Nat) : Int))) (by kernel_rfl) (fun hc153 => ?_) (fun hc153 => ?_)
    ·
      have hf154 := of_decide_eq_true hc153
      refine wp_skip ?_
      refine then_normal ?_
      refine wp_seq ?_
      refine wp_block ?_
      refine go_seq_region [0, 1, 2, 3] (by kernel_rfl) ?_
      obtain ⟨b155, o156, hA157, hl158, hat159⟩ := Slots.get (things_slots h15) (i := k) (by omega)
      obtain ⟨x160, he161⟩ : ∃ x, (things l4)[k]? = some x := ⟨_, List.getElem?_eq_getElem (by omega)⟩
      have hr162 := (things_each h16) k x160 he161
      obtain ⟨n163, s164, b165, l166, u167, A168, c169, A170, c171, A172, c173, xs174, rfl, hcs175, h176, h177, h178, h179⟩ := hr162.open_
      rw [hcs175] at hr162
      have hsm181 := h176.small
      have hsm182 := h177.small
      rw [hcs175] at hat159
      refine of_op (wpOp_index hE152 (t := 23) (A := A8) (m := (things l4).length) (q := ((k : Nat) : Int)) (d := 64) (by kernel_rfl) (e := 26) (size := 5) (bytes := 88) (by kernel_rfl) hA157 rfl (by omega) fun a183 hE184 => ?_)
      clear hE152
      refine of_op (wpOp_load hE184 (t := 26) (b := b155) (o := o156 + k * 5) (d := 65) (by kernel_rfl) (cs := [.int .i64 n163, .slice A168 s164.length c169, .bool b165, .slice A170 l166.length c171, .slice A172 u167.length c173]) (v := .agg #[.int .i64 n163, .slice A168 s164.length c169, .bool b165, .slice A170 l166.length c171, .slice A172 u167.length c173]) (by kernel_rfl) (AtF.move hat159 hW147.step nilM keepF).at_ fun a185 hE186 => ?_)
      clear hE184
      refine of_op (wpOp_alloc hW147 hE186 (d := 12) (cs := [.int .i64 0, .slice none 0 0, .bool false, .slice none 0 0, .slice none 0 0]) (by kernel_rfl) fun b187 a188 w189 hb190 hz191 hF192 hW193 hE194 => ?_)
      clear hE186 hW147
      refine of_op (wpOp_store hW193 hE194 (oi := 5) (cs := [.int .i64 n163, .slice A168 s164.length c169, .bool b165, .slice A170 l166.length c171, .slice A172 u167.length c173]) (by kernel_rfl) fun w195 hF196 hW197 hE198 => ?_)
      clear hE194 hW193
      refine wpOps_nil ?_
      refine then_normal ?_
      refine go_drawK 9 (by kernel_rfl) hW197 fun w199 hF200 hW201 hT202 => ?_
      clear hW197
      refine go_rnD [0, 1, 2, 3, 4] [(1, .v (.int .i64 v)), (6, .p 2 0), (9, .p 3 0), (10, .p 4 0), (60, .v (.slice A8 ((things l4).length) c9)), (61, .v (.int .i64 (((things l4).length : Nat) : Int))), (62, .v (.int .i64 ((k : Nat) : Int))), (67, .v (.slice A_ k c_)), (68, .v (.agg #[.int .i64 y27, .int .i64 y22, .int .i64 y23, .int .i64 (-1), .int .i64 (-1), .int .i64 y26, .int .i64 y27, .slice A29 l28.length c30])), (69, .v (.int .i64 v)), (70, .v (.agg #[.int .i64 n163, .slice A168 s164.length c169, .bool b165, .slice A170 l166.length c171, .slice A172 u167.length c173]))] 5 (panicFree_block (panicFree_then (panicFree_then (panicFree_block (panicFree_then (panicFree_block (panicFree_then panicFree_body))))))) (fun _ h => h.cells) hT202 hE198 fun a203 hE204 => ?_
      clear hE198
      refine anyC_op (i := 5) (by kernel_rfl) (wpOp_call hE204 (f := 36) (vs := [.agg #[.int .i64 y27, .int .i64 y22, .int .i64 y23, .int .i64 (-1), .int .i64 (-1), .int .i64 y26, .int .i64 y27, .slice A29 l28.length c30], .int .i64 v, .agg #[.int .i64 n163, .slice A168 s164.length c169, .bool b165, .slice A170 l166.length c171, .slice A172 u167.length c173]]) (d := 71) (by kernel_rfl) Tryz.call36 ( sFitted0 hfit _ (Fld.mk y27 y22 y23 (-1) (-1) y26 y27 l28) v _ (Tree.mk n163 s164 b165 l166 u167) _ _ (FldR.mk (l := l28) xs31 (h33.move hW201.step nilM hW201.imm) (fun i_ x_ h_ => ((h34 i_ x_ h_).move hW201.step nilM hW201.imm))) hpl.2 hd hof (hr162.move hW201.step nilM hW201.imm)) ?_)
      rintro e_ w208 ⟨cs207, rfl, hr206, hs205⟩
      have hr209 := hr206.move (Step.refl _ Nil) nilM (hW201.laid (G := F) hs205)
      obtain ⟨n210, s211, b212, l213, u214, A215, c216, A217, c218, A219, c220, xs221, ht227, hcs222, h223, h224, h225, h226⟩ := hr209.open_
      rw [hcs222] at hr209
      have hsm228 := h223.small
      have hsm229 := h224.small
      rw [hcs222]
      refine ⟨_, rfl, fun a230 hE231 => ?_⟩
      have hW232 := hW201.next_nil hs205
      have hF233 := hW201.frN hs205
      clear hE204
      have hT234 := TT.ofW hF233 hW232
      refine ⟨fun _ => hT234, ?_⟩
      refine anyC_op (i := 6) (by kernel_rfl) (wpOp_lit hW232 hE231 (e := 26) (size := 5) (len := 1) (cs := [.int .i64 n210, .slice A215 s211.length c216, .bool b212, .slice A217 l213.length c218, .slice A219 u214.length c220]) (d := 72) (by kernel_rfl) (by kernel_rfl) fun b235 a236 w237 hb238 hz239 hF240 hW241 hE242 => ?_)
      clear hE231 hW232
      have hT243 := TT.ofW (Fr.trans hF233 hF240) hW241
      refine ⟨fun _ => hT243, ?_⟩
      refine anyC_op (i := 7) (by kernel_rfl) (wpOp_append hW241 hE242 (k := 0) (d := 73) (t := 23) (e := 26) (size := 5) (bytes := 88) (A := A_) (As := (some ⟨b235, 0, none⟩)) (m0 := k) (c := c_) (m := 1) (cs := 1) (xs := xs) (news := [.int .i64 n210, .slice A215 s211.length c216, .bool b212, .slice A217 l213.length c218, .slice A219 u214.length c220]) (by kernel_rfl) (by kernel_rfl) rfl (own_src (hW241.own 1 _ rfl) (allOne_ok (by kernel_rfl))) (own_cap (hW241.own 1 _ rfl)) (by omega) fun A244 c245 a246 w247 hF248 hW249 hE250 => ?_)
      clear hE242 hW241
      have hT251 := TT.ofW (Fr.trans (Fr.trans hF233 hF240) hF248) hW249
      refine ⟨fun _ => hT251, ?_⟩
      refine go_rnD [8] [(1, .v (.int .i64 v)), (6, .p 2 0), (9, .p 3 0), (10, .p 4 0), (60, .v (.slice A8 ((things l4).length) c9)), (61, .v (.int .i64 (((things l4).length : Nat) : Int))), (62, .v (.int .i64 ((k : Nat) : Int))), (73, .v (.slice A244 (k + 1) c245)), (74, .p 3 3)] 1 (panicFree_block (panicFree_then (panicFree_then (panicFree_block (panicFree_then (panicFree_block (panicFree_then panicFree_body))))))) (fun _ h => h.cells) hT251 hE250 fun a252 hE253 => ?_
      clear hE250
      refine anyC_op (i := 9) (by kernel_rfl) (wpOp_store hW249 hE253 (oi := 3) (cs := [.int .i64 0, .slice none 0 0, .bool true, .slice A244 (k + 1) c245, .slice none 0 0]) (by kernel_rfl) fun w254 hF255 hW256 hE257 => ?_)
      clear hE253 hW249
      refine ⟨fun h => absurd rfl h, ?_⟩
      refine anyC_done (by kernel_rfl) ?_ _
      refine block_normal ?_
      refine then_normal ?_
      refine go_region [0, 1] (by kernel_rfl) ?_
      refine go_rn [0, 1] [] [(1, .v (.int .i64 v)), (6, .p 2 0), (9, .p 3 0), (10, .p 4 0), (60, .v (.slice A8 ((things l4).length) c9)), (61, .v (.int .i64 (((things l4).length : Nat) : Int))), (62, .v (.int .i64 (IntKind.i64.wrap (((k : Nat) : Int) + 1))))] hW256 hE257 fun a258 hE259 => ?_
      clear hE257
      refine wpOps_nil ?_
      refine then_normal ?_
      obtain ⟨hE260, hW261, hF262⟩ := hW256.cutB hE259 5 [⟨b36, 0, [.int .i64 k21, .int .i64 y22, .int .i64 y23, .int .i64 y24, .int .i64 y25, .int .i64 y26, .int .i64 y27, .slice A29 l28.length c30], true⟩, ⟨b44, 0, [.int .i64 n1, .slice A6 s2.length c7, .bool b3, .slice A8 l4.length c9, .slice A10 u5.length c11], true⟩, ⟨b52, 0, [.int .i64 0, .slice none 0 0, .bool false, .slice none 0 0, .slice none 0 0], true⟩, ⟨b87, 0, [.int .i64 0, .slice none 0 0, .bool true, .slice A244 (k + 1) c245, .slice none 0 0], true⟩, ⟨b101, 0, [.int .i64 y27, .int .i64 y22, .int .i64 y23, .int .i64 (-1), .int .i64 (-1), .int .i64 y26, .int .i64 y27, .slice A29 l28.length c30], true⟩] [(1, .v (.int .i64 v)), (6, .p 2 0), (9, .p 3 0), (10, .p 4 0), (60, .v (.slice A8 ((things l4).length) c9)), (61, .v (.int .i64 (((things l4).length : Nat) : Int))), (62, .v (.int .i64 (IntKind.i64.wrap (((k : Nat) : Int) + 1))))]
      obtain ⟨hW263, hF264⟩ := hW261.cutR 1 [⟨A244, c245, 26, 5, k + 1, xs ++ [.int .i64 n210, .slice A215 s211.length c216, .bool b212, .slice A217 l213.length c218, .slice A219 u214.length c220]⟩]
      have he265 : IntKind.i64.wrap (((k : Nat) : Int) + 1) = ((k + 1 : Nat) : Int) := wrap_succ (by omega)
      rw [he265] at hE260
      exact ⟨(things l4).length - (k + 1), by omega, k + 1, A244, c245, xs ++ [Value.int .i64 n210, .slice A215 s211.length c216, .bool b212, .slice A217 l213.length c218, .slice A219 u214.length c220], (css ++ [[Value.int .i64 n210, .slice A215 s211.length c216, .bool b212, .slice A217 l213.length c218, .slice A219 u214.length c220]]), rfl, by omega, by rw [take_succ_of (fitL_get (p := fitT v d) (v := v) (f := (Fld.mk y27 y22 y23 (-1) (-1) y26 y27 l28)) he161)]; exact (hT.move (Fr.trans (Fr.trans (Fr.trans (Fr.trans (Fr.trans (Fr.trans (Fr.trans (Fr.trans hF192 hF196) hF200) hF233) hF240) hF248) hF255) hF262) hF264).step immM (Fr.trans (Fr.trans (Fr.trans (Fr.trans (Fr.trans (Fr.trans (Fr.trans (Fr.trans hF192 hF196) hF200) hF233) hF240) hF248) hF255) hF262) hF264).to').snoc (hr209.move (Fr.trans (Fr.trans (Fr.trans (Fr.trans hF240 hF248) hF255) hF262) hF264).step immM (Fr.trans (Fr.trans (Fr.trans (Fr.trans hF240 hF248) hF255) hF262) hF264).to'), hE260.pk, hW263, (Fr.trans (Fr.trans (Fr.trans (Fr.trans (Fr.trans (Fr.trans (Fr.trans (Fr.trans (Fr.trans hF150 hF192) hF196) hF200) hF233) hF240) hF248) hF255) hF262) hF264)⟩
    ·
      have hf266 := of_decide_eq_false hc153
      refine wp_exit ?_
      refine then_exit ?_
      refine then_exit ?_
      refine block_exit ?_
      refine then_normal ?_
      refine go_seq_region [0, 1] (by kernel_rfl) ?_
      refine go_rn [0] [1] [(6, .p 2 0), (76, .v (.agg #[.int .i64 0, .slice none 0 0, .bool true, .slice A_ k c_, .slice none 0 0]))] hW147 hE152 fun a267 hE268 => ?_
      clear hE152
      refine of_op (wpOp_store hW147 hE268 (oi := 2) (cs := [.int .i64 0, .slice none 0 0, .bool true, .slice A_ k c_, .slice none 0 0]) (by kernel_rfl) fun w269 hF270 hW271 hE272 => ?_)
      clear hE268 hW147
      refine wpOps_nil ?_
      refine then_normal ?_
      refine wp_ret ?_
      refine block_ret ?_
      refine then_ret ?_
      refine leave hE272 hW271.cells (v := .agg #[.int .i64 0, .slice none 0 0, .bool true, .slice A_ k c_, .slice none 0 0]) (by kernel_rfl) ?_
      have hk0 : k = (fitL (fitT v d) v (Fld.mk y27 y22 y23 (-1) (-1) y26 y27 l28) l4).length := by rw [fitL_len]; omega
      have hT' := (hT.move hF270.step immM hF270.to')
      rw [show (fitL (fitT v d) v (Fld.mk y27 y22 y23 (-1) (-1) y26 y27 l28) l4).take k = (fitL (fitT v d) v (Fld.mk y27 y22 y23 (-1) (-1) y26 y27 l28) l4) by rw [hk0, List.take_length]] at hT'
      exact tree_end hW271 rfl (Octs.nil _ _) hk0 (trees_fp hW271 (k := 0) rfl hT' hk0 (by rw [fitL_len]; omega)) rfl (TagsR.nil _ _) (fittedW_11 hk11 (by simp only [hc82]; try simp))
  ·
    have hE274 := hE81.cast (env' := [(1, .v (.int .i64 v)), (3, .p 0 0), (5, .p 1 0), (6, .p 2 0), (40, .v (.bool false))]) (by rw [hc82])
    clear hE81
    refine go_rn [2, 3, 4, 5] [6, 7, 8, 9, 10, 11, 12, 13, 14] [(1, .v (.int .i64 v)), (3, .p 0 0), (5, .p 1 0), (6, .p 2 0), (40, .v (.bool false)), (44, .v (.bool (decide (y25 ≥ 0))))] hW66 hE274 fun a275 hE276 => ?_
    clear hE274
    refine (Bool.eq_false_or_eq_true (decide (y25 ≥ 0))).elim (fun hc277 => ?_) (fun hc277 => ?_)
    ·
      have hf278 := of_decide_eq_true hc277
      have hE279 := hE276.cast (env' := [(1, .v (.int .i64 v)), (3, .p 0 0), (5, .p 1 0), (6, .p 2 0), (40, .v (.bool false)), (44, .v (.bool true))]) (by rw [hc277])
      clear hE276
      refine go_rn [6, 7, 8, 9, 10, 11, 12] [13, 14] [(1, .v (.int .i64 v)), (3, .p 0 0), (5, .p 1 0), (6, .p 2 0), (51, .v (.agg #[.int .i64 0, .slice none 0 0, .bool (((l4.length : Nat) : Int) == 0), .slice none 0 0, .slice none 0 0]))] hW66 hE279 fun a280 hE281 => ?_
      clear hE279
      refine of_op (wpOp_alloc hW66 hE281 (d := 9) (cs := [.int .i64 0, .slice none 0 0, .bool false, .slice none 0 0, .slice none 0 0]) (by kernel_rfl) fun b282 a283 w284 hb285 hz286 hF287 hW288 hE289 => ?_)
      clear hE281 hW66
      refine of_op (wpOp_store hW288 hE289 (oi := 3) (cs := [.int .i64 0, .slice none 0 0, .bool (((l4.length : Nat) : Int) == 0), .slice none 0 0, .slice none 0 0]) (by kernel_rfl) fun w290 hF291 hW292 hE293 => ?_)
      clear hE289 hW288
      refine wpOps_nil ?_
      refine then_normal ?_
      refine go_seq_region [0, 1, 2] (by kernel_rfl) ?_
      refine go_rn [0] [1, 2] [(1, .v (.int .i64 v)), (3, .p 0 0), (5, .p 1 0), (6, .p 2 0), (9, .p 3 0), (52, .v (.agg #[.int .i64 k21, .int .i64 y22, .int .i64 y23, .int .i64 y24, .int .i64 y25, .int .i64 y26, .int .i64 y27, .slice A29 l28.length c30]))] hW292 hE293 fun a294 hE295 => ?_
      clear hE293
      refine of_op (wpOp_alloc hW292 hE295 (d := 10) (cs := [.int .i64 0, .int .i64 0, .int .i64 0, .int .i64 0, .int .i64 0, .int .i64 0, .int .i64 0, .slice none 0 0]) (by kernel_rfl) fun b296 a297 w298 hb299 hz300 hF301 hW302 hE303 => ?_)
      clear hE295 hW292
      refine of_op (wpOp_store hW302 hE303 (oi := 4) (cs := [.int .i64 k21, .int .i64 y22, .int .i64 y23, .int .i64 y24, .int .i64 y25, .int .i64 y26, .int .i64 y27, .slice A29 l28.length c30]) (by kernel_rfl) fun w304 hF305 hW306 hE307 => ?_)
      clear hE303 hW302
      refine wpOps_nil ?_
      refine then_normal ?_
      refine go_seq_region [0, 1, 2, 3, 4, 5, 6, 7] (by kernel_rfl) ?_
      refine go_rn [0, 1, 2] [3, 4, 5, 6, 7] [(1, .v (.int .i64 v)), (5, .p 1 0), (6, .p 2 0), (9, .p 3 0), (10, .p 4 0), (54, .v (.int .i64 y27)), (55, .p 4 0)] hW306 hE307 fun a308 hE309 => ?_
      clear hE307
      refine of_op (wpOp_store hW306 hE309 (oi := 4) (cs := [.int .i64 y27, .int .i64 y22, .int .i64 y23, .int .i64 y24, .int .i64 y25, .int .i64 y26, .int .i64 y27, .slice A29 l28.length c30]) (by kernel_rfl) fun w310 hF311 hW312 hE313 => ?_)
      clear hE309 hW306
      refine go_rn [4] [5, 6, 7] [(1, .v (.int .i64 v)), (5, .p 1 0), (6, .p 2 0), (9, .p 3 0), (10, .p 4 0), (56, .p 4 3)] hW312 hE313 fun a314 hE315 => ?_
      clear hE313
      refine of_op (wpOp_store hW312 hE315 (oi := 4) (cs := [.int .i64 y27, .int .i64 y22, .int .i64 y23, .int .i64 (-1), .int .i64 y25, .int .i64 y26, .int .i64 y27, .slice A29 l28.length c30]) (by kernel_rfl) fun w316 hF317 hW318 hE319 => ?_)
      clear hE315 hW312
      refine go_rn [6] [7] [(1, .v (.int .i64 v)), (5, .p 1 0), (6, .p 2 0), (9, .p 3 0), (10, .p 4 0), (57, .p 4 4)] hW318 hE319 fun a320 hE321 => ?_
      clear hE319
      refine of_op (wpOp_store hW318 hE321 (oi := 4) (cs := [.int .i64 y27, .int .i64 y22, .int .i64 y23, .int .i64 (-1), .int .i64 (-1), .int .i64 y26, .int .i64 y27, .slice A29 l28.length c30]) (by kernel_rfl) fun w322 hF323 hW324 hE325 => ?_)
      clear hE321 hW318
      refine wpOps_nil ?_
      refine then_normal ?_
      refine wp_seq ?_
      refine go_seq_region [0, 1, 2, 3, 4] (by kernel_rfl) ?_
      refine go_rn [0, 1] [2, 3, 4] [(1, .v (.int .i64 v)), (6, .p 2 0), (9, .p 3 0), (10, .p 4 0), (59, .v (.slice A8 l4.length c9))] hW324 hE325 fun a326 hE327 => ?_
      clear hE325
      refine of_op (wpOp_call hE327 (f := 88) (vs := [.slice A8 l4.length c9]) (d := 60) (by kernel_rfl) Tryz.call88 (sThings _ _ l4 (h15.move hW324.step nilM hW324.imm).le _) ?_)
      rintro e_ w329 ⟨rfl, hs328⟩
      refine ⟨_, rfl, fun a330 hE331 => ?_⟩
      have hW332 := hW324.next_nil hs328
      have hF333 := hW324.frN hs328
      clear hE327 hW324
      refine go_rn [3, 4] [] [(1, .v (.int .i64 v)), (6, .p 2 0), (9, .p 3 0), (10, .p 4 0), (60, .v (.slice A8 ((things l4).length) c9)), (61, .v (.int .i64 (((things l4).length : Nat) : Int))), (62, .v (.int .i64 0))] hW332 hE331 fun a334 hE335 => ?_
      clear hE331
      refine wpOps_nil ?_
      refine then_normal ?_
      refine wp_block ?_
      have hW336 := hW332.addNil 26 5
      have hF337 := hW332.frNil 26 5
      clear hW332
      have hsm3 : (things l4).length ≤ 32767 := things_le _
      refine wp_loop_ghost (fun n_ a_ w_ => ∃ (k : Nat) (A_ : Option Addr) (c_ : Nat) (xs : List Value) (css : List (List Value)), n_ = (things l4).length - k ∧ k ≤ (things l4).length ∧ (Trees w_ (Imm F w w_ [⟨b36, 0, [.int .i64 k21, .int .i64 y22, .int .i64 y23, .int .i64 y24, .int .i64 y25, .int .i64 y26, .int .i64 y27, .slice A29 l28.length c30], true⟩, ⟨b44, 0, [.int .i64 n1, .slice A6 s2.length c7, .bool b3, .slice A8 l4.length c9, .slice A10 u5.length c11], true⟩, ⟨b52, 0, [.int .i64 0, .slice none 0 0, .bool false, .slice none 0 0, .slice none 0 0], true⟩, ⟨b282, 0, [.int .i64 0, .slice none 0 0, .bool (((l4.length : Nat) : Int) == 0), .slice A_ k c_, .slice none 0 0], true⟩, ⟨b296, 0, [.int .i64 y27, .int .i64 y22, .int .i64 y23, .int .i64 (-1), .int .i64 (-1), .int .i64 y26, .int .i64 y27, .slice A29 l28.length c30], true⟩] [⟨A_, c_, 26, 5, k, xs⟩]) xs ((fitL (fitT v d) v (Fld.mk y27 y22 y23 (-1) (-1) y26 y27 l28) l4).take k) css) ∧ LInv hW336 82 [⟨b36, 0, [.int .i64 k21, .int .i64 y22, .int .i64 y23, .int .i64 y24, .int .i64 y25, .int .i64 y26, .int .i64 y27, .slice A29 l28.length c30], true⟩, ⟨b44, 0, [.int .i64 n1, .slice A6 s2.length c7, .bool b3, .slice A8 l4.length c9, .slice A10 u5.length c11], true⟩, ⟨b52, 0, [.int .i64 0, .slice none 0 0, .bool false, .slice none 0 0, .slice none 0 0], true⟩, ⟨b282, 0, [.int .i64 0, .slice none 0 0, .bool (((l4.length : Nat) : Int) == 0), .slice A_ k c_, .slice none 0 0], true⟩, ⟨b296, 0, [.int .i64 y27, .int .i64 y22, .int .i64 y23, .int .i64 (-1), .int .i64 (-1), .int .i64 y26, .int .i64 y27, .slice A29 l28.length c30], true⟩] [⟨A_, c_, 26, 5, k, xs⟩] [(1, .v (.int .i64 v)), (6, .p 2 0), (9, .p 3 0), (10, .p 4 0), (60, .v (.slice A8 ((things l4).length) c9)), (61, .v (.int .i64 (((things l4).length : Nat) : Int))), (62, .v (.int .i64 ((k : Nat) : Int)))] a_ w_) ((things l4).length) ⟨0, none, 0, [], [], by omega, by omega, Trees.nil _ _, hE335.pk, hW336, Fr.refl _ _ _⟩ ?_
      clear hE335
      rintro n338 a339 w340 ⟨k, A_, c_, xs, css, hn343, hk344, hT, hE341, hW342, hF345⟩
      refine go_sp [(1, .v (.int .i64 v)), (6, .p 2 0), (9, .p 3 0), (10, .p 4 0), (60, .v (.slice A8 ((things l4).length) c9)), (61, .v (.int .i64 (((things l4).length : Nat) : Int))), (62, .v (.int .i64 ((k : Nat) : Int))), (63, .v (.bool (decide (((k : Nat) : Int) < (((things l4).length : Nat) : Int)))))] hW342 hE341 fun a346 hE347 => ?_
      clear hE341
      refine wp_seq ?_
      refine cond_of hE347 (b := decide (((k : Nat) : Int) < (((things l4).length : Nat) : Int))) (by kernel_rfl) (fun hc348 => ?_) (fun hc348 => ?_)
      ·
        have hf349 := of_decide_eq_true hc348
        refine wp_skip ?_
        refine then_normal ?_
        refine wp_seq ?_
        refine wp_block ?_
        refine go_seq_region [0, 1, 2, 3] (by kernel_rfl) ?_
        obtain ⟨b350, o351, hA352, hl353, hat354⟩ := Slots.get (things_slots h15) (i := k) (by omega)
        obtain ⟨x355, he356⟩ : ∃ x, (things l4)[k]? = some x := ⟨_, List.getElem?_eq_getElem (by omega)⟩
        have hr357 := (things_each h16) k x355 he356
        obtain ⟨n358, s359, b360, l361, u362, A363, c364, A365, c366, A367, c368, xs369, rfl, hcs370, h371, h372, h373, h374⟩ := hr357.open_
        rw [hcs370] at hr357
        have hsm376 := h371.small
        have hsm377 := h372.small
        rw [hcs370] at hat354
        refine of_op (wpOp_index hE347 (t := 23) (A := A8) (m := (things l4).length) (q := ((k : Nat) : Int)) (d := 64) (by kernel_rfl) (e := 26) (size := 5) (bytes := 88) (by kernel_rfl) hA352 rfl (by omega) fun a378 hE379 => ?_)
        clear hE347
        refine of_op (wpOp_load hE379 (t := 26) (b := b350) (o := o351 + k * 5) (d := 65) (by kernel_rfl) (cs := [.int .i64 n358, .slice A363 s359.length c364, .bool b360, .slice A365 l361.length c366, .slice A367 u362.length c368]) (v := .agg #[.int .i64 n358, .slice A363 s359.length c364, .bool b360, .slice A365 l361.length c366, .slice A367 u362.length c368]) (by kernel_rfl) (AtF.move hat354 hW342.step nilM keepF).at_ fun a380 hE381 => ?_)
        clear hE379
        refine of_op (wpOp_alloc hW342 hE381 (d := 12) (cs := [.int .i64 0, .slice none 0 0, .bool false, .slice none 0 0, .slice none 0 0]) (by kernel_rfl) fun b382 a383 w384 hb385 hz386 hF387 hW388 hE389 => ?_)
        clear hE381 hW342
        refine of_op (wpOp_store hW388 hE389 (oi := 5) (cs := [.int .i64 n358, .slice A363 s359.length c364, .bool b360, .slice A365 l361.length c366, .slice A367 u362.length c368]) (by kernel_rfl) fun w390 hF391 hW392 hE393 => ?_)
        clear hE389 hW388
        refine wpOps_nil ?_
        refine then_normal ?_
        refine go_drawK 9 (by kernel_rfl) hW392 fun w394 hF395 hW396 hT397 => ?_
        clear hW392
        refine go_rnD [0, 1, 2, 3, 4] [(1, .v (.int .i64 v)), (6, .p 2 0), (9, .p 3 0), (10, .p 4 0), (60, .v (.slice A8 ((things l4).length) c9)), (61, .v (.int .i64 (((things l4).length : Nat) : Int))), (62, .v (.int .i64 ((k : Nat) : Int))), (67, .v (.slice A_ k c_)), (68, .v (.agg #[.int .i64 y27, .int .i64 y22, .int .i64 y23, .int .i64 (-1), .int .i64 (-1), .int .i64 y26, .int .i64 y27, .slice A29 l28.length c30])), (69, .v (.int .i64 v)), (70, .v (.agg #[.int .i64 n358, .slice A363 s359.length c364, .bool b360, .slice A365 l361.length c366, .slice A367 u362.length c368]))] 5 (panicFree_block (panicFree_then (panicFree_then (panicFree_block (panicFree_then (panicFree_block (panicFree_then panicFree_body))))))) (fun _ h => h.cells) hT397 hE393 fun a398 hE399 => ?_
        clear hE393
        refine anyC_op (i := 5) (by kernel_rfl) (wpOp_call hE399 (f := 36) (vs := [.agg #[.int .i64 y27, .int .i64 y22, .int .i64 y23, .int .i64 (-1), .int .i64 (-1), .int .i64 y26, .int .i64 y27, .slice A29 l28.length c30], .int .i64 v, .agg #[.int .i64 n358, .slice A363 s359.length c364, .bool b360, .slice A365 l361.length c366, .slice A367 u362.length c368]]) (d := 71) (by kernel_rfl) Tryz.call36 ( sFitted0 hfit _ (Fld.mk y27 y22 y23 (-1) (-1) y26 y27 l28) v _ (Tree.mk n358 s359 b360 l361 u362) _ _ (FldR.mk (l := l28) xs31 (h33.move hW396.step nilM hW396.imm) (fun i_ x_ h_ => ((h34 i_ x_ h_).move hW396.step nilM hW396.imm))) hpl.2 hd hof (hr357.move hW396.step nilM hW396.imm)) ?_)
        rintro e_ w403 ⟨cs402, rfl, hr401, hs400⟩
        have hr404 := hr401.move (Step.refl _ Nil) nilM (hW396.laid (G := F) hs400)
        obtain ⟨n405, s406, b407, l408, u409, A410, c411, A412, c413, A414, c415, xs416, ht422, hcs417, h418, h419, h420, h421⟩ := hr404.open_
        rw [hcs417] at hr404
        have hsm423 := h418.small
        have hsm424 := h419.small
        rw [hcs417]
        refine ⟨_, rfl, fun a425 hE426 => ?_⟩
        have hW427 := hW396.next_nil hs400
        have hF428 := hW396.frN hs400
        clear hE399
        have hT429 := TT.ofW hF428 hW427
        refine ⟨fun _ => hT429, ?_⟩
        refine anyC_op (i := 6) (by kernel_rfl) (wpOp_lit hW427 hE426 (e := 26) (size := 5) (len := 1) (cs := [.int .i64 n405, .slice A410 s406.length c411, .bool b407, .slice A412 l408.length c413, .slice A414 u409.length c415]) (d := 72) (by kernel_rfl) (by kernel_rfl) fun b430 a431 w432 hb433 hz434 hF435 hW436 hE437 => ?_)
        clear hE426 hW427
        have hT438 := TT.ofW (Fr.trans hF428 hF435) hW436
        refine ⟨fun _ => hT438, ?_⟩
        refine anyC_op (i := 7) (by kernel_rfl) (wpOp_append hW436 hE437 (k := 0) (d := 73) (t := 23) (e := 26) (size := 5) (bytes := 88) (A := A_) (As := (some ⟨b430, 0, none⟩)) (m0 := k) (c := c_) (m := 1) (cs := 1) (xs := xs) (news := [.int .i64 n405, .slice A410 s406.length c411, .bool b407, .slice A412 l408.length c413, .slice A414 u409.length c415]) (by kernel_rfl) (by kernel_rfl) rfl (own_src (hW436.own 1 _ rfl) (allOne_ok (by kernel_rfl))) (own_cap (hW436.own 1 _ rfl)) (by omega) fun A439 c440 a441 w442 hF443 hW444 hE445 => ?_)
        clear hE437 hW436
        have hT446 := TT.ofW (Fr.trans (Fr.trans hF428 hF435) hF443) hW444
        refine ⟨fun _ => hT446, ?_⟩
        refine go_rnD [8] [(1, .v (.int .i64 v)), (6, .p 2 0), (9, .p 3 0), (10, .p 4 0), (60, .v (.slice A8 ((things l4).length) c9)), (61, .v (.int .i64 (((things l4).length : Nat) : Int))), (62, .v (.int .i64 ((k : Nat) : Int))), (73, .v (.slice A439 (k + 1) c440)), (74, .p 3 3)] 1 (panicFree_block (panicFree_then (panicFree_then (panicFree_block (panicFree_then (panicFree_block (panicFree_then panicFree_body))))))) (fun _ h => h.cells) hT446 hE445 fun a447 hE448 => ?_
        clear hE445
        refine anyC_op (i := 9) (by kernel_rfl) (wpOp_store hW444 hE448 (oi := 3) (cs := [.int .i64 0, .slice none 0 0, .bool (((l4.length : Nat) : Int) == 0), .slice A439 (k + 1) c440, .slice none 0 0]) (by kernel_rfl) fun w449 hF450 hW451 hE452 => ?_)
        clear hE448 hW444
        refine ⟨fun h => absurd rfl h, ?_⟩
        refine anyC_done (by kernel_rfl) ?_ _
        refine block_normal ?_
        refine then_normal ?_
        refine go_region [0, 1] (by kernel_rfl) ?_
        refine go_rn [0, 1] [] [(1, .v (.int .i64 v)), (6, .p 2 0), (9, .p 3 0), (10, .p 4 0), (60, .v (.slice A8 ((things l4).length) c9)), (61, .v (.int .i64 (((things l4).length : Nat) : Int))), (62, .v (.int .i64 (IntKind.i64.wrap (((k : Nat) : Int) + 1))))] hW451 hE452 fun a453 hE454 => ?_
        clear hE452
        refine wpOps_nil ?_
        refine then_normal ?_
        obtain ⟨hE455, hW456, hF457⟩ := hW451.cutB hE454 5 [⟨b36, 0, [.int .i64 k21, .int .i64 y22, .int .i64 y23, .int .i64 y24, .int .i64 y25, .int .i64 y26, .int .i64 y27, .slice A29 l28.length c30], true⟩, ⟨b44, 0, [.int .i64 n1, .slice A6 s2.length c7, .bool b3, .slice A8 l4.length c9, .slice A10 u5.length c11], true⟩, ⟨b52, 0, [.int .i64 0, .slice none 0 0, .bool false, .slice none 0 0, .slice none 0 0], true⟩, ⟨b282, 0, [.int .i64 0, .slice none 0 0, .bool (((l4.length : Nat) : Int) == 0), .slice A439 (k + 1) c440, .slice none 0 0], true⟩, ⟨b296, 0, [.int .i64 y27, .int .i64 y22, .int .i64 y23, .int .i64 (-1), .int .i64 (-1), .int .i64 y26, .int .i64 y27, .slice A29 l28.length c30], true⟩] [(1, .v (.int .i64 v)), (6, .p 2 0), (9, .p 3 0), (10, .p 4 0), (60, .v (.slice A8 ((things l4).length) c9)), (61, .v (.int .i64 (((things l4).length : Nat) : Int))), (62, .v (.int .i64 (IntKind.i64.wrap (((k : Nat) : Int) + 1))))]
        obtain ⟨hW458, hF459⟩ := hW456.cutR 1 [⟨A439, c440, 26, 5, k + 1, xs ++ [.int .i64 n405, .slice A410 s406.length c411, .bool b407, .slice A412 l408.length c413, .slice A414 u409.length c415]⟩]
        have he460 : IntKind.i64.wrap (((k : Nat) : Int) + 1) = ((k + 1 : Nat) : Int) := wrap_succ (by omega)
        rw [he460] at hE455
        exact ⟨(things l4).length - (k + 1), by omega, k + 1, A439, c440, xs ++ [Value.int .i64 n405, .slice A410 s406.length c411, .bool b407, .slice A412 l408.length c413, .slice A414 u409.length c415], (css ++ [[Value.int .i64 n405, .slice A410 s406.length c411, .bool b407, .slice A412 l408.length c413, .slice A414 u409.length c415]]), rfl, by omega, by rw [take_succ_of (fitL_get (p := fitT v d) (v := v) (f := (Fld.mk y27 y22 y23 (-1) (-1) y26 y27 l28)) he356)]; exact (hT.move (Fr.trans (Fr.trans (Fr.trans (Fr.trans (Fr.trans (Fr.trans (Fr.trans (Fr.trans hF387 hF391) hF395) hF428) hF435) hF443) hF450) hF457) hF459).step immM (Fr.trans (Fr.trans (Fr.trans (Fr.trans (Fr.trans (Fr.trans (Fr.trans (Fr.trans hF387 hF391) hF395) hF428) hF435) hF443) hF450) hF457) hF459).to').snoc (hr404.move (Fr.trans (Fr.trans (Fr.trans (Fr.trans hF435 hF443) hF450) hF457) hF459).step immM (Fr.trans (Fr.trans (Fr.trans (Fr.trans hF435 hF443) hF450) hF457) hF459).to'), hE455.pk, hW458, (Fr.trans (Fr.trans (Fr.trans (Fr.trans (Fr.trans (Fr.trans (Fr.trans (Fr.trans (Fr.trans hF345 hF387) hF391) hF395) hF428) hF435) hF443) hF450) hF457) hF459)⟩
      ·
        have hf461 := of_decide_eq_false hc348
        refine wp_exit ?_
        refine then_exit ?_
        refine then_exit ?_
        refine block_exit ?_
        refine then_normal ?_
        refine go_seq_region [0, 1] (by kernel_rfl) ?_
        refine go_rn [0] [1] [(6, .p 2 0), (76, .v (.agg #[.int .i64 0, .slice none 0 0, .bool (((l4.length : Nat) : Int) == 0), .slice A_ k c_, .slice none 0 0]))] hW342 hE347 fun a462 hE463 => ?_
        clear hE347
        refine of_op (wpOp_store hW342 hE463 (oi := 2) (cs := [.int .i64 0, .slice none 0 0, .bool (((l4.length : Nat) : Int) == 0), .slice A_ k c_, .slice none 0 0]) (by kernel_rfl) fun w464 hF465 hW466 hE467 => ?_)
        clear hE463 hW342
        refine wpOps_nil ?_
        refine then_normal ?_
        refine wp_ret ?_
        refine block_ret ?_
        refine then_ret ?_
        refine leave hE467 hW466.cells (v := .agg #[.int .i64 0, .slice none 0 0, .bool (((l4.length : Nat) : Int) == 0), .slice A_ k c_, .slice none 0 0]) (by kernel_rfl) ?_
        have hk0 : k = (fitL (fitT v d) v (Fld.mk y27 y22 y23 (-1) (-1) y26 y27 l28) l4).length := by rw [fitL_len]; omega
        have hT' := (hT.move hF465.step immM hF465.to')
        rw [show (fitL (fitT v d) v (Fld.mk y27 y22 y23 (-1) (-1) y26 y27 l28) l4).take k = (fitL (fitT v d) v (Fld.mk y27 y22 y23 (-1) (-1) y26 y27 l28) l4) by rw [hk0, List.take_length]] at hT'
        exact tree_end hW466 rfl (Octs.nil _ _) hk0 (trees_fp hW466 (k := 0) rfl hT' hk0 (by rw [fitL_len]; omega)) rfl (TagsR.nil _ _) (fittedW_11 hk11 (by simp only [hc82, hc277]; try simp))
    ·
      have hf468 := of_decide_eq_false hc277
      have hE469 := hE276.cast (env' := [(1, .v (.int .i64 v)), (3, .p 0 0), (5, .p 1 0), (6, .p 2 0), (40, .v (.bool false)), (44, .v (.bool false))]) (by rw [hc277])
      clear hE276
      refine go_rn [6, 7, 8, 9, 10, 11, 12] [13, 14] [(1, .v (.int .i64 v)), (3, .p 0 0), (5, .p 1 0), (6, .p 2 0), (51, .v (.agg #[.int .i64 0, .slice none 0 0, .bool false, .slice none 0 0, .slice none 0 0]))] hW66 hE469 fun a470 hE471 => ?_
      clear hE469
      refine of_op (wpOp_alloc hW66 hE471 (d := 9) (cs := [.int .i64 0, .slice none 0 0, .bool false, .slice none 0 0, .slice none 0 0]) (by kernel_rfl) fun b472 a473 w474 hb475 hz476 hF477 hW478 hE479 => ?_)
      clear hE471 hW66
      refine of_op (wpOp_store hW478 hE479 (oi := 3) (cs := [.int .i64 0, .slice none 0 0, .bool false, .slice none 0 0, .slice none 0 0]) (by kernel_rfl) fun w480 hF481 hW482 hE483 => ?_)
      clear hE479 hW478
      refine wpOps_nil ?_
      refine then_normal ?_
      refine go_seq_region [0, 1, 2] (by kernel_rfl) ?_
      refine go_rn [0] [1, 2] [(1, .v (.int .i64 v)), (3, .p 0 0), (5, .p 1 0), (6, .p 2 0), (9, .p 3 0), (52, .v (.agg #[.int .i64 k21, .int .i64 y22, .int .i64 y23, .int .i64 y24, .int .i64 y25, .int .i64 y26, .int .i64 y27, .slice A29 l28.length c30]))] hW482 hE483 fun a484 hE485 => ?_
      clear hE483
      refine of_op (wpOp_alloc hW482 hE485 (d := 10) (cs := [.int .i64 0, .int .i64 0, .int .i64 0, .int .i64 0, .int .i64 0, .int .i64 0, .int .i64 0, .slice none 0 0]) (by kernel_rfl) fun b486 a487 w488 hb489 hz490 hF491 hW492 hE493 => ?_)
      clear hE485 hW482
      refine of_op (wpOp_store hW492 hE493 (oi := 4) (cs := [.int .i64 k21, .int .i64 y22, .int .i64 y23, .int .i64 y24, .int .i64 y25, .int .i64 y26, .int .i64 y27, .slice A29 l28.length c30]) (by kernel_rfl) fun w494 hF495 hW496 hE497 => ?_)
      clear hE493 hW492
      refine wpOps_nil ?_
      refine then_normal ?_
      refine go_seq_region [0, 1, 2, 3, 4, 5, 6, 7] (by kernel_rfl) ?_
      refine go_rn [0, 1, 2] [3, 4, 5, 6, 7] [(1, .v (.int .i64 v)), (5, .p 1 0), (6, .p 2 0), (9, .p 3 0), (10, .p 4 0), (54, .v (.int .i64 y27)), (55, .p 4 0)] hW496 hE497 fun a498 hE499 => ?_
      clear hE497
      refine of_op (wpOp_store hW496 hE499 (oi := 4) (cs := [.int .i64 y27, .int .i64 y22, .int .i64 y23, .int .i64 y24, .int .i64 y25, .int .i64 y26, .int .i64 y27, .slice A29 l28.length c30]) (by kernel_rfl) fun w500 hF501 hW502 hE503 => ?_)
      clear hE499 hW496
      refine go_rn [4] [5, 6, 7] [(1, .v (.int .i64 v)), (5, .p 1 0), (6, .p 2 0), (9, .p 3 0), (10, .p 4 0), (56, .p 4 3)] hW502 hE503 fun a504 hE505 => ?_
      clear hE503
      refine of_op (wpOp_store hW502 hE505 (oi := 4) (cs := [.int .i64 y27, .int .i64 y22, .int .i64 y23, .int .i64 (-1), .int .i64 y25, .int .i64 y26, .int .i64 y27, .slice A29 l28.length c30]) (by kernel_rfl) fun w506 hF507 hW508 hE509 => ?_)
      clear hE505 hW502
      refine go_rn [6] [7] [(1, .v (.int .i64 v)), (5, .p 1 0), (6, .p 2 0), (9, .p 3 0), (10, .p 4 0), (57, .p 4 4)] hW508 hE509 fun a510 hE511 => ?_
      clear hE509
      refine of_op (wpOp_store hW508 hE511 (oi := 4) (cs := [.int .i64 y27, .int .i64 y22, .int .i64 y23, .int .i64 (-1), .int .i64 (-1), .int .i64 y26, .int .i64 y27, .slice A29 l28.length c30]) (by kernel_rfl) fun w512 hF513 hW514 hE515 => ?_)
      clear hE511 hW508
      refine wpOps_nil ?_
      refine then_normal ?_
      refine wp_seq ?_
      refine go_seq_region [0, 1, 2, 3, 4] (by kernel_rfl) ?_
      refine go_rn [0, 1] [2, 3, 4] [(1, .v (.int .i64 v)), (6, .p 2 0), (9, .p 3 0), (10, .p 4 0), (59, .v (.slice A8 l4.length c9))] hW514 hE515 fun a516 hE517 => ?_
      clear hE515
      refine of_op (wpOp_call hE517 (f := 88) (vs := [.slice A8 l4.length c9]) (d := 60) (by kernel_rfl) Tryz.call88 (sThings _ _ l4 (h15.move hW514.step nilM hW514.imm).le _) ?_)
      rintro e_ w519 ⟨rfl, hs518⟩
      refine ⟨_, rfl, fun a520 hE521 => ?_⟩
      have hW522 := hW514.next_nil hs518
      have hF523 := hW514.frN hs518
      clear hE517 hW514
      refine go_rn [3, 4] [] [(1, .v (.int .i64 v)), (6, .p 2 0), (9, .p 3 0), (10, .p 4 0), (60, .v (.slice A8 ((things l4).length) c9)), (61, .v (.int .i64 (((things l4).length : Nat) : Int))), (62, .v (.int .i64 0))] hW522 hE521 fun a524 hE525 => ?_
      clear hE521
      refine wpOps_nil ?_
      refine then_normal ?_
      refine wp_block ?_
      have hW526 := hW522.addNil 26 5
      have hF527 := hW522.frNil 26 5
      clear hW522
      have hsm3 : (things l4).length ≤ 32767 := things_le _
      refine wp_loop_ghost (fun n_ a_ w_ => ∃ (k : Nat) (A_ : Option Addr) (c_ : Nat) (xs : List Value) (css : List (List Value)), n_ = (things l4).length - k ∧ k ≤ (things l4).length ∧ (Trees w_ (Imm F w w_ [⟨b36, 0, [.int .i64 k21, .int .i64 y22, .int .i64 y23, .int .i64 y24, .int .i64 y25, .int .i64 y26, .int .i64 y27, .slice A29 l28.length c30], true⟩, ⟨b44, 0, [.int .i64 n1, .slice A6 s2.length c7, .bool b3, .slice A8 l4.length c9, .slice A10 u5.length c11], true⟩, ⟨b52, 0, [.int .i64 0, .slice none 0 0, .bool false, .slice none 0 0, .slice none 0 0], true⟩, ⟨b472, 0, [.int .i64 0, .slice none 0 0, .bool false, .slice A_ k c_, .slice none 0 0], true⟩, ⟨b486, 0, [.int .i64 y27, .int .i64 y22, .int .i64 y23, .int .i64 (-1), .int .i64 (-1), .int .i64 y26, .int .i64 y27, .slice A29 l28.length c30], true⟩] [⟨A_, c_, 26, 5, k, xs⟩]) xs ((fitL (fitT v d) v (Fld.mk y27 y22 y23 (-1) (-1) y26 y27 l28) l4).take k) css) ∧ LInv hW526 82 [⟨b36, 0, [.int .i64 k21, .int .i64 y22, .int .i64 y23, .int .i64 y24, .int .i64 y25, .int .i64 y26, .int .i64 y27, .slice A29 l28.length c30], true⟩, ⟨b44, 0, [.int .i64 n1, .slice A6 s2.length c7, .bool b3, .slice A8 l4.length c9, .slice A10 u5.length c11], true⟩, ⟨b52, 0, [.int .i64 0, .slice none 0 0, .bool false, .slice none 0 0, .slice none 0 0], true⟩, ⟨b472, 0, [.int .i64 0, .slice none 0 0, .bool false, .slice A_ k c_, .slice none 0 0], true⟩, ⟨b486, 0, [.int .i64 y27, .int .i64 y22, .int .i64 y23, .int .i64 (-1), .int .i64 (-1), .int .i64 y26, .int .i64 y27, .slice A29 l28.length c30], true⟩] [⟨A_, c_, 26, 5, k, xs⟩] [(1, .v (.int .i64 v)), (6, .p 2 0), (9, .p 3 0), (10, .p 4 0), (60, .v (.slice A8 ((things l4).length) c9)), (61, .v (.int .i64 (((things l4).length : Nat) : Int))), (62, .v (.int .i64 ((k : Nat) : Int)))] a_ w_) ((things l4).length) ⟨0, none, 0, [], [], by omega, by omega, Trees.nil _ _, hE525.pk, hW526, Fr.refl _ _ _⟩ ?_
      clear hE525
      rintro n528 a529 w530 ⟨k, A_, c_, xs, css, hn533, hk534, hT, hE531, hW532, hF535⟩
      refine go_sp [(1, .v (.int .i64 v)), (6, .p 2 0), (9, .p 3 0), (10, .p 4 0), (60, .v (.slice A8 ((things l4).length) c9)), (61, .v (.int .i64 (((things l4).length : Nat) : Int))), (62, .v (.int .i64 ((k : Nat) : Int))), (63, .v (.bool (decide (((k : Nat) : Int) < (((things l4).length : Nat) : Int)))))] hW532 hE531 fun a536 hE537 => ?_
      clear hE531
      refine wp_seq ?_
      refine cond_of hE537 (b := decide (((k : Nat) : Int) < (((things l4).length : Nat) : Int))) (by kernel_rfl) (fun hc538 => ?_) (fun hc538 => ?_)
      ·
        have hf539 := of_decide_eq_true hc538
        refine wp_skip ?_
        refine then_normal ?_
        refine wp_seq ?_
        refine wp_block ?_
        refine go_seq_region [0, 1, 2, 3] (by kernel_rfl) ?_
        obtain ⟨b540, o541, hA542, hl543, hat544⟩ := Slots.get (things_slots h15) (i := k) (by omega)
        obtain ⟨x545, he546⟩ : ∃ x, (things l4)[k]? = some x := ⟨_, List.getElem?_eq_getElem (by omega)⟩
        have hr547 := (things_each h16) k x545 he546
        obtain ⟨n548, s549, b550, l551, u552, A553, c554, A555, c556, A557, c558, xs559, rfl, hcs560, h561, h562, h563, h564⟩ := hr547.open_
        rw [hcs560] at hr547
        have hsm566 := h561.small
        have hsm567 := h562.small
        rw [hcs560] at hat544
        refine of_op (wpOp_index hE537 (t := 23) (A := A8) (m := (things l4).length) (q := ((k : Nat) : Int)) (d := 64) (by kernel_rfl) (e := 26) (size := 5) (bytes := 88) (by kernel_rfl) hA542 rfl (by omega) fun a568 hE569 => ?_)
        clear hE537
        refine of_op (wpOp_load hE569 (t := 26) (b := b540) (o := o541 + k * 5) (d := 65) (by kernel_rfl) (cs := [.int .i64 n548, .slice A553 s549.length c554, .bool b550, .slice A555 l551.length c556, .slice A557 u552.length c558]) (v := .agg #[.int .i64 n548, .slice A553 s549.length c554, .bool b550, .slice A555 l551.length c556, .slice A557 u552.length c558]) (by kernel_rfl) (AtF.move hat544 hW532.step nilM keepF).at_ fun a570 hE571 => ?_)
        clear hE569
        refine of_op (wpOp_alloc hW532 hE571 (d := 12) (cs := [.int .i64 0, .slice none 0 0, .bool false, .slice none 0 0, .slice none 0 0]) (by kernel_rfl) fun b572 a573 w574 hb575 hz576 hF577 hW578 hE579 => ?_)
        clear hE571 hW532
        refine of_op (wpOp_store hW578 hE579 (oi := 5) (cs := [.int .i64 n548, .slice A553 s549.length c554, .bool b550, .slice A555 l551.length c556, .slice A557 u552.length c558]) (by kernel_rfl) fun w580 hF581 hW582 hE583 => ?_)
        clear hE579 hW578
        refine wpOps_nil ?_
        refine then_normal ?_
        refine go_drawK 9 (by kernel_rfl) hW582 fun w584 hF585 hW586 hT587 => ?_
        clear hW582
        refine go_rnD [0, 1, 2, 3, 4] [(1, .v (.int .i64 v)), (6, .p 2 0), (9, .p 3 0), (10, .p 4 0), (60, .v (.slice A8 ((things l4).length) c9)), (61, .v (.int .i64 (((things l4).length : Nat) : Int))), (62, .v (.int .i64 ((k : Nat) : Int))), (67, .v (.slice A_ k c_)), (68, .v (.agg #[.int .i64 y27, .int .i64 y22, .int .i64 y23, .int .i64 (-1), .int .i64 (-1), .int .i64 y26, .int .i64 y27, .slice A29 l28.length c30])), (69, .v (.int .i64 v)), (70, .v (.agg #[.int .i64 n548, .slice A553 s549.length c554, .bool b550, .slice A555 l551.length c556, .slice A557 u552.length c558]))] 5 (panicFree_block (panicFree_then (panicFree_then (panicFree_block (panicFree_then (panicFree_block (panicFree_then panicFree_body))))))) (fun _ h => h.cells) hT587 hE583 fun a588 hE589 => ?_
        clear hE583
        refine anyC_op (i := 5) (by kernel_rfl) (wpOp_call hE589 (f := 36) (vs := [.agg #[.int .i64 y27, .int .i64 y22, .int .i64 y23, .int .i64 (-1), .int .i64 (-1), .int .i64 y26, .int .i64 y27, .slice A29 l28.length c30], .int .i64 v, .agg #[.int .i64 n548, .slice A553 s549.length c554, .bool b550, .slice A555 l551.length c556, .slice A557 u552.length c558]]) (d := 71) (by kernel_rfl) Tryz.call36 ( sFitted0 hfit _ (Fld.mk y27 y22 y23 (-1) (-1) y26 y27 l28) v _ (Tree.mk n548 s549 b550 l551 u552) _ _ (FldR.mk (l := l28) xs31 (h33.move hW586.step nilM hW586.imm) (fun i_ x_ h_ => ((h34 i_ x_ h_).move hW586.step nilM hW586.imm))) hpl.2 hd hof (hr547.move hW586.step nilM hW586.imm)) ?_)
        rintro e_ w593 ⟨cs592, rfl, hr591, hs590⟩
        have hr594 := hr591.move (Step.refl _ Nil) nilM (hW586.laid (G := F) hs590)
        obtain ⟨n595, s596, b597, l598, u599, A600, c601, A602, c603, A604, c605, xs606, ht612, hcs607, h608, h609, h610, h611⟩ := hr594.open_
        rw [hcs607] at hr594
        have hsm613 := h608.small
        have hsm614 := h609.small
        rw [hcs607]
        refine ⟨_, rfl, fun a615 hE616 => ?_⟩
        have hW617 := hW586.next_nil hs590
        have hF618 := hW586.frN hs590
        clear hE589
        have hT619 := TT.ofW hF618 hW617
        refine ⟨fun _ => hT619, ?_⟩
        refine anyC_op (i := 6) (by kernel_rfl) (wpOp_lit hW617 hE616 (e := 26) (size := 5) (len := 1) (cs := [.int .i64 n595, .slice A600 s596.length c601, .bool b597, .slice A602 l598.length c603, .slice A604 u599.length c605]) (d := 72) (by kernel_rfl) (by kernel_rfl) fun b620 a621 w622 hb623 hz624 hF625 hW626 hE627 => ?_)
        clear hE616 hW617
        have hT628 := TT.ofW (Fr.trans hF618 hF625) hW626
        refine ⟨fun _ => hT628, ?_⟩
        refine anyC_op (i := 7) (by kernel_rfl) (wpOp_append hW626 hE627 (k := 0) (d := 73) (t := 23) (e := 26) (size := 5) (bytes := 88) (A := A_) (As := (some ⟨b620, 0, none⟩)) (m0 := k) (c := c_) (m := 1) (cs := 1) (xs := xs) (news := [.int .i64 n595, .slice A600 s596.length c601, .bool b597, .slice A602 l598.length c603, .slice A604 u599.length c605]) (by kernel_rfl) (by kernel_rfl) rfl (own_src (hW626.own 1 _ rfl) (allOne_ok (by kernel_rfl))) (own_cap (hW626.own 1 _ rfl)) (by omega) fun A629 c630 a631 w632 hF633 hW634 hE635 => ?_)
        clear hE627 hW626
        have hT636 := TT.ofW (Fr.trans (Fr.trans hF618 hF625) hF633) hW634
        refine ⟨fun _ => hT636, ?_⟩
        refine go_rnD [8] [(1, .v (.int .i64 v)), (6, .p 2 0), (9, .p 3 0), (10, .p 4 0), (60, .v (.slice A8 ((things l4).length) c9)), (61, .v (.int .i64 (((things l4).length : Nat) : Int))), (62, .v (.int .i64 ((k : Nat) : Int))), (73, .v (.slice A629 (k + 1) c630)), (74, .p 3 3)] 1 (panicFree_block (panicFree_then (panicFree_then (panicFree_block (panicFree_then (panicFree_block (panicFree_then panicFree_body))))))) (fun _ h => h.cells) hT636 hE635 fun a637 hE638 => ?_
        clear hE635
        refine anyC_op (i := 9) (by kernel_rfl) (wpOp_store hW634 hE638 (oi := 3) (cs := [.int .i64 0, .slice none 0 0, .bool false, .slice A629 (k + 1) c630, .slice none 0 0]) (by kernel_rfl) fun w639 hF640 hW641 hE642 => ?_)
        clear hE638 hW634
        refine ⟨fun h => absurd rfl h, ?_⟩
        refine anyC_done (by kernel_rfl) ?_ _
        refine block_normal ?_
        refine then_normal ?_
        refine go_region [0, 1] (by kernel_rfl) ?_
        refine go_rn [0, 1] [] [(1, .v (.int .i64 v)), (6, .p 2 0), (9, .p 3 0), (10, .p 4 0), (60, .v (.slice A8 ((things l4).length) c9)), (61, .v (.int .i64 (((things l4).length : Nat) : Int))), (62, .v (.int .i64 (IntKind.i64.wrap (((k : Nat) : Int) + 1))))] hW641 hE642 fun a643 hE644 => ?_
        clear hE642
        refine wpOps_nil ?_
        refine then_normal ?_
        obtain ⟨hE645, hW646, hF647⟩ := hW641.cutB hE644 5 [⟨b36, 0, [.int .i64 k21, .int .i64 y22, .int .i64 y23, .int .i64 y24, .int .i64 y25, .int .i64 y26, .int .i64 y27, .slice A29 l28.length c30], true⟩, ⟨b44, 0, [.int .i64 n1, .slice A6 s2.length c7, .bool b3, .slice A8 l4.length c9, .slice A10 u5.length c11], true⟩, ⟨b52, 0, [.int .i64 0, .slice none 0 0, .bool false, .slice none 0 0, .slice none 0 0], true⟩, ⟨b472, 0, [.int .i64 0, .slice none 0 0, .bool false, .slice A629 (k + 1) c630, .slice none 0 0], true⟩, ⟨b486, 0, [.int .i64 y27, .int .i64 y22, .int .i64 y23, .int .i64 (-1), .int .i64 (-1), .int .i64 y26, .int .i64 y27, .slice A29 l28.length c30], true⟩] [(1, .v (.int .i64 v)), (6, .p 2 0), (9, .p 3 0), (10, .p 4 0), (60, .v (.slice A8 ((things l4).length) c9)), (61, .v (.int .i64 (((things l4).length : Nat) : Int))), (62, .v (.int .i64 (IntKind.i64.wrap (((k : Nat) : Int) + 1))))]
        obtain ⟨hW648, hF649⟩ := hW646.cutR 1 [⟨A629, c630, 26, 5, k + 1, xs ++ [.int .i64 n595, .slice A600 s596.length c601, .bool b597, .slice A602 l598.length c603, .slice A604 u599.length c605]⟩]
        have he650 : IntKind.i64.wrap (((k : Nat) : Int) + 1) = ((k + 1 : Nat) : Int) := wrap_succ (by omega)
        rw [he650] at hE645
        exact ⟨(things l4).length - (k + 1), by omega, k + 1, A629, c630, xs ++ [Value.int .i64 n595, .slice A600 s596.length c601, .bool b597, .slice A602 l598.length c603, .slice A604 u599.length c605], (css ++ [[Value.int .i64 n595, .slice A600 s596.length c601, .bool b597, .slice A602 l598.length c603, .slice A604 u599.length c605]]), rfl, by omega, by rw [take_succ_of (fitL_get (p := fitT v d) (v := v) (f := (Fld.mk y27 y22 y23 (-1) (-1) y26 y27 l28)) he546)]; exact (hT.move (Fr.trans (Fr.trans (Fr.trans (Fr.trans (Fr.trans (Fr.trans (Fr.trans (Fr.trans hF577 hF581) hF585) hF618) hF625) hF633) hF640) hF647) hF649).step immM (Fr.trans (Fr.trans (Fr.trans (Fr.trans (Fr.trans (Fr.trans (Fr.trans (Fr.trans hF577 hF581) hF585) hF618) hF625) hF633) hF640) hF647) hF649).to').snoc (hr594.move (Fr.trans (Fr.trans (Fr.trans (Fr.trans hF625 hF633) hF640) hF647) hF649).step immM (Fr.trans (Fr.trans (Fr.trans (Fr.trans hF625 hF633) hF640) hF647) hF649).to'), hE645.pk, hW648, (Fr.trans (Fr.trans (Fr.trans (Fr.trans (Fr.trans (Fr.trans (Fr.trans (Fr.trans (Fr.trans hF535 hF577) hF581) hF585) hF618) hF625) hF633) hF640) hF647) hF649)⟩
      ·
        have hf651 := of_decide_eq_false hc538
        refine wp_exit ?_
        refine then_exit ?_
        refine then_exit ?_
        refine block_exit ?_
        refine then_normal ?_
        refine go_seq_region [0, 1] (by kernel_rfl) ?_
        refine go_rn [0] [1] [(6, .p 2 0), (76, .v (.agg #[.int .i64 0, .slice none 0 0, .bool false, .slice A_ k c_, .slice none 0 0]))] hW532 hE537 fun a652 hE653 => ?_
        clear hE537
        refine of_op (wpOp_store hW532 hE653 (oi := 2) (cs := [.int .i64 0, .slice none 0 0, .bool false, .slice A_ k c_, .slice none 0 0]) (by kernel_rfl) fun w654 hF655 hW656 hE657 => ?_)
        clear hE653 hW532
        refine wpOps_nil ?_
        refine then_normal ?_
        refine wp_ret ?_
        refine block_ret ?_
        refine then_ret ?_
        refine leave hE657 hW656.cells (v := .agg #[.int .i64 0, .slice none 0 0, .bool false, .slice A_ k c_, .slice none 0 0]) (by kernel_rfl) ?_
        have hk0 : k = (fitL (fitT v d) v (Fld.mk y27 y22 y23 (-1) (-1) y26 y27 l28) l4).length := by rw [fitL_len]; omega
        have hT' := (hT.move hF655.step immM hF655.to')
        rw [show (fitL (fitT v d) v (Fld.mk y27 y22 y23 (-1) (-1) y26 y27 l28) l4).take k = (fitL (fitT v d) v (Fld.mk y27 y22 y23 (-1) (-1) y26 y27 l28) l4) by rw [hk0, List.take_length]] at hT'
        exact tree_end hW656 rfl (Octs.nil _ _) hk0 (trees_fp hW656 (k := 0) rfl hT' hk0 (by rw [fitL_len]; omega)) rfl (TagsR.nil _ _) (fittedW_11 hk11 (by simp only [hc82, hc277]; try simp))

theorem sFitted {d : Nat} (hfit : FitOK d) (cf : List Value) (f : Fld) (v : Int) (ct : List Value) (t : Tree) (w : World) (F : Nat → Nat → Prop) (hf : FldR w F cf f) (hpl : f.plain) (hd : depths f.sub ≤ d) (ht : TreeR w F ct t) :
    Calls Tryz.prog 36 #[.agg cf.toArray, .int .i64 v, .agg ct.toArray] w (GivesT w F (fittedW (fitT v d) v f t)) := by
  by_cases h : f.kind = 11
  · exact sFitted11 hfit cf f v ct t w F hf hpl hd h ht
  · obtain ⟨k, x1, x2, x3, x4, x5, x6, l, A, c, xs, rfl, hcs, h1, h2⟩ := hf.open_
    rw [fittedW_no (k := k) h]
    exact sFitted0 hfit cf _ v ct t w F hf hpl.2 hd h ht

theorem sFit (W : Fld → Tree → Tree) (A : Option Addr) (c : Nat) (l : List Fld) (v : Int) (ct : List Value) (t : Tree) (w : World) (F : Nat → Nat → Prop) (hW_ : ∀ cf f ct t w F, f ∈ l → FldR w F cf f → TreeR w F ct t → Calls Tryz.prog 36 #[.agg cf.toArray, .int .i64 v, .agg ct.toArray] w (GivesT w F (W f t))) (hl : FldsR w F A c l) (ht : TreeR w F ct t) :
    Calls Tryz.prog 15 #[.slice A l.length c, .int .i64 v, .agg ct.toArray] w (GivesT w F (fitW W l t)) := by
  obtain ⟨xfs, h1, h2⟩ := hl.ex
  have hsm := h1.small
  obtain ⟨n1, s2, b3, l4, u5, A6, c7, A8, c9, A10, c11, xs12, rfl, rfl, h14, h15, h16, h17⟩ := ht.open_
  have hsm19 := h14.small
  have hsm20 := h15.small
  refine enter (n := 54) Tryz.func15 rfl Tryz.ntmps15 (by kernel_rfl) fun a hE => ?_
  have hW := WOk.start w Nil
  refine go_seq_region [0, 1] (by kernel_rfl) ?_
  refine of_op (wpOp_box hW hE (d := 5) (cs := [.int .i64 n1, .slice A6 s2.length c7, .bool b3, .slice A8 l4.length c9, .slice A10 u5.length c11]) (by kernel_rfl) fun b21 a22 w23 hb24 hz25 hF26 hW27 hE28 => ?_)
  clear hE hW
  refine of_op (wpOp_alloc hW27 hE28 (d := 6) (cs := [.int .i64 0, .slice none 0 0, .bool false, .slice none 0 0, .slice none 0 0]) (by kernel_rfl) fun b29 a30 w31 hb32 hz33 hF34 hW35 hE36 => ?_)
  clear hE28 hW27
  refine wpOps_nil ?_
  refine then_normal ?_
  refine go_seq_region [0, 1, 2] (by kernel_rfl) ?_
  refine go_rn [0] [1, 2] [(0, .v (.slice A l.length c)), (1, .v (.int .i64 v)), (5, .p 0 0), (6, .p 1 0), (12, .v (.agg #[.int .i64 0, .slice none 0 0, .bool false, .slice none 0 0, .slice none 0 0]))] hW35 hE36 fun a37 hE38 => ?_
  clear hE36
  refine of_op (wpOp_alloc hW35 hE38 (d := 7) (cs := [.int .i64 0, .slice none 0 0, .bool false, .slice none 0 0, .slice none 0 0]) (by kernel_rfl) fun b39 a40 w41 hb42 hz43 hF44 hW45 hE46 => ?_)
  clear hE38 hW35
  refine of_op (wpOp_store hW45 hE46 (oi := 2) (cs := [.int .i64 0, .slice none 0 0, .bool false, .slice none 0 0, .slice none 0 0]) (by kernel_rfl) fun w47 hF48 hW49 hE50 => ?_)
  clear hE46 hW45
  refine wpOps_nil ?_
  refine then_normal ?_
  refine wp_seq ?_
  refine go_sp [(0, .v (.slice A l.length c)), (1, .v (.int .i64 v)), (5, .p 0 0), (6, .p 1 0), (7, .p 2 0), (13, .v (.slice A l.length c)), (14, .v (.int .i64 ((l.length : Nat) : Int))), (15, .v (.int .i64 0))] hW49 hE50 fun a51 hE52 => ?_
  clear hE50
  refine wp_block ?_
  have hW53 := hW49.addNil 26 5
  have hF54 := hW49.frNil 26 5
  clear hW49
  refine wp_loop_ghost (fun n_ a_ w_ => ∃ (k : Nat) (A_ : Option Addr) (c_ : Nat) (xs : List Value) (css : List (List Value)), n_ = l.length - k ∧ k ≤ l.length ∧ (Trees w_ (Imm F w w_ [⟨b21, 0, [.int .i64 n1, .slice A6 s2.length c7, .bool b3, .slice A8 l4.length c9, .slice A10 u5.length c11], true⟩, ⟨b29, 0, [.int .i64 0, .slice none 0 0, .bool false, .slice none 0 0, .slice none 0 0], true⟩, ⟨b39, 0, [.int .i64 0, .slice none 0 0, .bool false, .slice A_ k c_, .slice none 0 0], true⟩] [⟨A_, c_, 26, 5, k, xs⟩]) xs ((fitsW W l (Tree.mk n1 s2 b3 l4 u5) 0).take k) css) ∧ LInv hW53 54 [⟨b21, 0, [.int .i64 n1, .slice A6 s2.length c7, .bool b3, .slice A8 l4.length c9, .slice A10 u5.length c11], true⟩, ⟨b29, 0, [.int .i64 0, .slice none 0 0, .bool false, .slice none 0 0, .slice none 0 0], true⟩, ⟨b39, 0, [.int .i64 0, .slice none 0 0, .bool false, .slice A_ k c_, .slice none 0 0], true⟩] [⟨A_, c_, 26, 5, k, xs⟩] [(0, .v (.slice A l.length c)), (1, .v (.int .i64 v)), (5, .p 0 0), (6, .p 1 0), (7, .p 2 0), (13, .v (.slice A l.length c)), (14, .v (.int .i64 ((l.length : Nat) : Int))), (15, .v (.int .i64 ((k : Nat) : Int)))] a_ w_) (l.length) ⟨0, none, 0, [], [], by omega, by omega, Trees.nil _ _, hE52.pk, hW53, Fr.refl _ _ _⟩ ?_
  clear hE52
  rintro n55 a56 w57 ⟨k, A_, c_, xs, css, hn60, hk61, hT, hE58, hW59, hF62⟩
  refine go_sp [(0, .v (.slice A l.length c)), (1, .v (.int .i64 v)), (5, .p 0 0), (6, .p 1 0), (7, .p 2 0), (13, .v (.slice A l.length c)), (14, .v (.int .i64 ((l.length : Nat) : Int))), (15, .v (.int .i64 ((k : Nat) : Int))), (16, .v (.bool (decide (((k : Nat) : Int) < ((l.length : Nat) : Int)))))] hW59 hE58 fun a63 hE64 => ?_
  clear hE58
  refine wp_seq ?_
  refine cond_of hE64 (b := decide (((k : Nat) : Int) < ((l.length : Nat) : Int))) (by kernel_rfl) (fun hc65 => ?_) (fun hc65 => ?_)
  ·
    have hf66 := of_decide_eq_true hc65
    refine wp_skip ?_
    refine then_normal ?_
    refine wp_seq ?_
    refine wp_block ?_
    refine go_seq_region [0, 1, 2, 3, 4, 5] (by kernel_rfl) ?_
    refine go_rn [0] [1, 2, 3, 4, 5] [(0, .v (.slice A l.length c)), (1, .v (.int .i64 v)), (5, .p 0 0), (6, .p 1 0), (7, .p 2 0), (13, .v (.slice A l.length c)), (14, .v (.int .i64 ((l.length : Nat) : Int))), (15, .v (.int .i64 ((k : Nat) : Int))), (17, .v (.int .i64 ((k : Nat) : Int)))] hW59 hE64 fun a67 hE68 => ?_
    clear hE64
    obtain ⟨b69, o70, hA71, hl72, hat73⟩ := Slots.get h1 (i := k) (by omega)
    obtain ⟨x74, he75⟩ : ∃ x, l[k]? = some x := ⟨_, List.getElem?_eq_getElem (by omega)⟩
    have hr76 := h2 k x74 he75
    obtain ⟨k77, y78, y79, y80, y81, y82, y83, l84, A85, c86, xs87, rfl, hcs88, h89, h90⟩ := hr76.open_
    rw [hcs88] at hr76
    have hsm91 := h89.small
    rw [hcs88] at hat73
    refine of_op (wpOp_index hE68 (t := 29) (A := A) (m := l.length) (q := ((k : Nat) : Int)) (d := 18) (by kernel_rfl) (e := 51) (size := 8) (bytes := 80) (by kernel_rfl) hA71 rfl (by omega) fun a92 hE93 => ?_)
    clear hE68
    refine of_op (wpOp_load hE93 (t := 51) (b := b69) (o := o70 + k * 8) (d := 19) (by kernel_rfl) (cs := [.int .i64 k77, .int .i64 y78, .int .i64 y79, .int .i64 y80, .int .i64 y81, .int .i64 y82, .int .i64 y83, .slice A85 l84.length c86]) (v := .agg #[.int .i64 k77, .int .i64 y78, .int .i64 y79, .int .i64 y80, .int .i64 y81, .int .i64 y82, .int .i64 y83, .slice A85 l84.length c86]) (by kernel_rfl) (AtF.move hat73 hW59.step nilM keepF).at_ fun a94 hE95 => ?_)
    clear hE93
    refine of_op (wpOp_alloc hW59 hE95 (d := 9) (cs := [.int .i64 0, .int .i64 0, .int .i64 0, .int .i64 0, .int .i64 0, .int .i64 0, .int .i64 0, .slice none 0 0]) (by kernel_rfl) fun b96 a97 w98 hb99 hz100 hF101 hW102 hE103 => ?_)
    clear hE95 hW59
    refine go_rn [4] [5] [(0, .v (.slice A l.length c)), (1, .v (.int .i64 v)), (5, .p 0 0), (6, .p 1 0), (7, .p 2 0), (8, .v (.int .i64 ((k : Nat) : Int))), (9, .p 3 0), (13, .v (.slice A l.length c)), (14, .v (.int .i64 ((l.length : Nat) : Int))), (15, .v (.int .i64 ((k : Nat) : Int))), (19, .v (.agg #[.int .i64 k77, .int .i64 y78, .int .i64 y79, .int .i64 y80, .int .i64 y81, .int .i64 y82, .int .i64 y83, .slice A85 l84.length c86]))] hW102 hE103 fun a104 hE105 => ?_
    clear hE103
    refine of_op (wpOp_store hW102 hE105 (oi := 3) (cs := [.int .i64 k77, .int .i64 y78, .int .i64 y79, .int .i64 y80, .int .i64 y81, .int .i64 y82, .int .i64 y83, .slice A85 l84.length c86]) (by kernel_rfl) fun w106 hF107 hW108 hE109 => ?_)
    clear hE105 hW102
    refine wpOps_nil ?_
    refine then_normal ?_
    refine go_drawK 11 (by kernel_rfl) hW108 fun w110 hF111 hW112 hT113 => ?_
    clear hW108
    refine go_rnD [0, 1, 2, 3, 4, 5] [(0, .v (.slice A l.length c)), (1, .v (.int .i64 v)), (5, .p 0 0), (6, .p 1 0), (7, .p 2 0), (13, .v (.slice A l.length c)), (14, .v (.int .i64 ((l.length : Nat) : Int))), (15, .v (.int .i64 ((k : Nat) : Int))), (21, .v (.slice A_ k c_)), (22, .v (.agg #[.int .i64 k77, .int .i64 y78, .int .i64 y79, .int .i64 y80, .int .i64 y81, .int .i64 y82, .int .i64 y83, .slice A85 l84.length c86])), (23, .v (.int .i64 v)), (24, .v (.agg #[.int .i64 n1, .slice A6 s2.length c7, .bool b3, .slice A8 l4.length c9, .slice A10 u5.length c11])), (25, .v (.int .i64 ((k : Nat) : Int)))] 6 (panicFree_block (panicFree_then (panicFree_then (panicFree_block (panicFree_then panicFree_body))))) (fun _ h => h.cells) hT113 hE109 fun a114 hE115 => ?_
    clear hE109
    refine anyC_op (i := 6) (by kernel_rfl) (wpOp_call hE115 (f := 37) (vs := [.agg #[.int .i64 n1, .slice A6 s2.length c7, .bool b3, .slice A8 l4.length c9, .slice A10 u5.length c11], .int .i64 ((k : Nat) : Int)]) (d := 26) (by kernel_rfl) Tryz.call37 (sAt _ _ k _ _ (ht.move hW112.step nilM hW112.imm)) ?_)
    rintro e_ w119 ⟨cs118, rfl, hr117, hs116⟩
    have hr120 := hr117.move hs116 nilM (fun b o h_ hb_ => hW112.laid (G := F) hs116 b o (.inl h_) (Nat.lt_of_lt_of_le hb_ hs116.size))
    obtain ⟨n121, s122, b123, l124, u125, A126, c127, A128, c129, A130, c131, xs132, ht138, hcs133, h134, h135, h136, h137⟩ := hr120.open_
    rw [hcs133] at hr120
    have hsm139 := h134.small
    have hsm140 := h135.small
    rw [hcs133]
    refine ⟨_, rfl, fun a141 hE142 => ?_⟩
    have hW143 := hW112.next_nil hs116
    have hF144 := hW112.frN hs116
    clear hE115
    have hT145 := TT.ofW hF144 hW143
    refine ⟨fun _ => hT145, ?_⟩
    refine anyC_op (i := 7) (by kernel_rfl) (wpOp_call hE142 (f := 36) (vs := [.agg #[.int .i64 k77, .int .i64 y78, .int .i64 y79, .int .i64 y80, .int .i64 y81, .int .i64 y82, .int .i64 y83, .slice A85 l84.length c86], .int .i64 v, .agg #[.int .i64 n121, .slice A126 s122.length c127, .bool b123, .slice A128 l124.length c129, .slice A130 u125.length c131]]) (d := 27) (by kernel_rfl) Tryz.call36 ( hW_ _ _ _ _ _ _ (List.mem_of_getElem? he75) (hr76.move hW143.step nilM hW143.imm) hr120) ?_)
    rintro e_ w149 ⟨cs148, rfl, hr147, hs146⟩
    have hr150 := hr147.move (Step.refl _ Nil) nilM (hW143.laid (G := F) hs146)
    obtain ⟨n151, s152, b153, l154, u155, A156, c157, A158, c159, A160, c161, xs162, ht168, hcs163, h164, h165, h166, h167⟩ := hr150.open_
    rw [hcs163] at hr150
    have hsm169 := h164.small
    have hsm170 := h165.small
    rw [hcs163]
    refine ⟨_, rfl, fun a171 hE172 => ?_⟩
    have hW173 := hW143.next_nil hs146
    have hF174 := hW143.frN hs146
    clear hE142
    have hT175 := TT.ofW (Fr.trans hF144 hF174) hW173
    refine ⟨fun _ => hT175, ?_⟩
    refine anyC_op (i := 8) (by kernel_rfl) (wpOp_lit hW173 hE172 (e := 26) (size := 5) (len := 1) (cs := [.int .i64 n151, .slice A156 s152.length c157, .bool b153, .slice A158 l154.length c159, .slice A160 u155.length c161]) (d := 28) (by kernel_rfl) (by kernel_rfl) fun b176 a177 w178 hb179 hz180 hF181 hW182 hE183 => ?_)
    clear hE172 hW173
    have hT184 := TT.ofW (Fr.trans (Fr.trans hF144 hF174) hF181) hW182
    refine ⟨fun _ => hT184, ?_⟩
    refine anyC_op (i := 9) (by kernel_rfl) (wpOp_append hW182 hE183 (k := 0) (d := 29) (t := 23) (e := 26) (size := 5) (bytes := 88) (A := A_) (As := (some ⟨b176, 0, none⟩)) (m0 := k) (c := c_) (m := 1) (cs := 1) (xs := xs) (news := [.int .i64 n151, .slice A156 s152.length c157, .bool b153, .slice A158 l154.length c159, .slice A160 u155.length c161]) (by kernel_rfl) (by kernel_rfl) rfl (own_src (hW182.own 1 _ rfl) (allOne_ok (by kernel_rfl))) (own_cap (hW182.own 1 _ rfl)) (by omega) fun A185 c186 a187 w188 hF189 hW190 hE191 => ?_)
    clear hE183 hW182
    have hT192 := TT.ofW (Fr.trans (Fr.trans (Fr.trans hF144 hF174) hF181) hF189) hW190
    refine ⟨fun _ => hT192, ?_⟩
    refine go_rnD [10] [(0, .v (.slice A l.length c)), (1, .v (.int .i64 v)), (5, .p 0 0), (6, .p 1 0), (7, .p 2 0), (13, .v (.slice A l.length c)), (14, .v (.int .i64 ((l.length : Nat) : Int))), (15, .v (.int .i64 ((k : Nat) : Int))), (29, .v (.slice A185 (k + 1) c186)), (30, .p 2 3)] 1 (panicFree_block (panicFree_then (panicFree_then (panicFree_block (panicFree_then panicFree_body))))) (fun _ h => h.cells) hT192 hE191 fun a193 hE194 => ?_
    clear hE191
    refine anyC_op (i := 11) (by kernel_rfl) (wpOp_store hW190 hE194 (oi := 2) (cs := [.int .i64 0, .slice none 0 0, .bool false, .slice A185 (k + 1) c186, .slice none 0 0]) (by kernel_rfl) fun w195 hF196 hW197 hE198 => ?_)
    clear hE194 hW190
    refine ⟨fun h => absurd rfl h, ?_⟩
    refine anyC_done (by kernel_rfl) ?_ _
    refine block_normal ?_
    refine then_normal ?_
    refine go_region [0, 1] (by kernel_rfl) ?_
    refine go_rn [0, 1] [] [(0, .v (.slice A l.length c)), (1, .v (.int .i64 v)), (5, .p 0 0), (6, .p 1 0), (7, .p 2 0), (13, .v (.slice A l.length c)), (14, .v (.int .i64 ((l.length : Nat) : Int))), (15, .v (.int .i64 (IntKind.i64.wrap (((k : Nat) : Int) + 1))))] hW197 hE198 fun a199 hE200 => ?_
    clear hE198
    refine wpOps_nil ?_
    refine then_normal ?_
    obtain ⟨hE201, hW202, hF203⟩ := hW197.cutB hE200 3 [⟨b21, 0, [.int .i64 n1, .slice A6 s2.length c7, .bool b3, .slice A8 l4.length c9, .slice A10 u5.length c11], true⟩, ⟨b29, 0, [.int .i64 0, .slice none 0 0, .bool false, .slice none 0 0, .slice none 0 0], true⟩, ⟨b39, 0, [.int .i64 0, .slice none 0 0, .bool false, .slice A185 (k + 1) c186, .slice none 0 0], true⟩] [(0, .v (.slice A l.length c)), (1, .v (.int .i64 v)), (5, .p 0 0), (6, .p 1 0), (7, .p 2 0), (13, .v (.slice A l.length c)), (14, .v (.int .i64 ((l.length : Nat) : Int))), (15, .v (.int .i64 (IntKind.i64.wrap (((k : Nat) : Int) + 1))))]
    obtain ⟨hW204, hF205⟩ := hW202.cutR 1 [⟨A185, c186, 26, 5, k + 1, xs ++ [.int .i64 n151, .slice A156 s152.length c157, .bool b153, .slice A158 l154.length c159, .slice A160 u155.length c161]⟩]
    have he206 : IntKind.i64.wrap (((k : Nat) : Int) + 1) = ((k + 1 : Nat) : Int) := wrap_succ (by omega)
    rw [he206] at hE201
    exact ⟨l.length - (k + 1), by omega, k + 1, A185, c186, xs ++ [Value.int .i64 n151, .slice A156 s152.length c157, .bool b153, .slice A158 l154.length c159, .slice A160 u155.length c161], (css ++ [[Value.int .i64 n151, .slice A156 s152.length c157, .bool b153, .slice A158 l154.length c159, .slice A160 u155.length c161]]), rfl, by omega, by rw [take_succ_of (fits_get he75)]; exact (hT.move (Fr.trans (Fr.trans (Fr.trans (Fr.trans (Fr.trans (Fr.trans (Fr.trans (Fr.trans (Fr.trans hF101 hF107) hF111) hF144) hF174) hF181) hF189) hF196) hF203) hF205).step immM (Fr.trans (Fr.trans (Fr.trans (Fr.trans (Fr.trans (Fr.trans (Fr.trans (Fr.trans (Fr.trans hF101 hF107) hF111) hF144) hF174) hF181) hF189) hF196) hF203) hF205).to').snoc (hr150.move (Fr.trans (Fr.trans (Fr.trans (Fr.trans hF181 hF189) hF196) hF203) hF205).step immM (Fr.trans (Fr.trans (Fr.trans (Fr.trans hF181 hF189) hF196) hF203) hF205).to'), hE201.pk, hW204, (Fr.trans (Fr.trans (Fr.trans (Fr.trans (Fr.trans (Fr.trans (Fr.trans (Fr.trans (Fr.trans (Fr.trans hF62 hF101) hF107) hF111) hF144) hF174) hF181) hF189) hF196) hF203) hF205)⟩
  ·
    have hf207 := of_decide_eq_false hc65
    refine wp_exit ?_
    refine then_exit ?_
    refine then_exit ?_
    refine block_exit ?_
    refine then_normal ?_
    refine wp_seq ?_
    refine go_seq_region [0, 1, 2, 3, 4, 5] (by kernel_rfl) ?_
    refine go_rn [0, 1, 2] [3, 4, 5] [(6, .p 1 0), (7, .p 2 0), (32, .v (.slice A l.length c)), (34, .v (.slice A10 u5.length c11))] hW59 hE64 fun a208 hE209 => ?_
    clear hE64
    refine of_op (wpOp_call hE209 (f := 38) (vs := [.slice A l.length c, .slice A10 u5.length c11]) (d := 35) (by kernel_rfl) Tryz.call38 (sUnknown _ _ l _ _ u5 _ _ ⟨xfs, (h1.move hW59.step nilM hW59.imm), (fun i_ x_ h_ => ((h2 i_ x_ h_).move hW59.step nilM hW59.imm))⟩ (h17.move hW59.step nilM hW59.imm)) ?_)
    rintro e_ w214 ⟨A212, c213, rfl, hr211, hs210⟩
    have hr215 := hr211.move (Step.refl _ Nil) nilM (hW59.laid (G := F) hs210)
    refine ⟨_, rfl, fun a216 hE217 => ?_⟩
    have hW218 := hW59.next_nil hs210
    have hF219 := hW59.frN hs210
    clear hE209
    refine go_rn [4, 5] [] [(6, .p 1 0), (7, .p 2 0), (35, .v (.slice A212 ((unknownT l u5).length) c213)), (36, .v (.int .i64 (((unknownT l u5).length : Nat) : Int))), (37, .v (.int .i64 0))] hW218 hE217 fun a220 hE221 => ?_
    clear hE217
    refine wpOps_nil ?_
    refine then_normal ?_
    refine wp_block ?_
    obtain ⟨cs222, h223, h224⟩ := hr215.ex
    have hsm225 := h223.small
    have hk0 : k = (fitsW W l (Tree.mk n1 s2 b3 l4 u5) 0).length := by rw [fits_len]; omega
    have hW226 := hW218.addNil 63 2
    have hF227 := hW218.frNil 63 2
    clear hW218
    refine wp_loop_ghost (fun n_ a_ w_ => ∃ (q : Nat) (A5_ : Option Addr) (c5_ : Nat) (ys : List Value) (dss : List (List Value)), n_ = (unknownT l u5).length - q ∧ q ≤ (unknownT l u5).length ∧ (Tags w_ (Imm F w w_ [⟨b21, 0, [.int .i64 n1, .slice A6 s2.length c7, .bool b3, .slice A8 l4.length c9, .slice A10 u5.length c11], true⟩, ⟨b29, 0, [.int .i64 0, .slice none 0 0, .bool false, .slice none 0 0, .slice none 0 0], true⟩, ⟨b39, 0, [.int .i64 0, .slice none 0 0, .bool false, .slice A_ k c_, .slice A5_ q c5_], true⟩] [⟨A_, c_, 26, 5, k, xs⟩, ⟨A5_, c5_, 63, 2, q, ys⟩]) ys ((wholeU (unknownT l u5)).take q) dss) ∧ LInv hW226 54 [⟨b21, 0, [.int .i64 n1, .slice A6 s2.length c7, .bool b3, .slice A8 l4.length c9, .slice A10 u5.length c11], true⟩, ⟨b29, 0, [.int .i64 0, .slice none 0 0, .bool false, .slice none 0 0, .slice none 0 0], true⟩, ⟨b39, 0, [.int .i64 0, .slice none 0 0, .bool false, .slice A_ k c_, .slice A5_ q c5_], true⟩] [⟨A_, c_, 26, 5, k, xs⟩, ⟨A5_, c5_, 63, 2, q, ys⟩] [(6, .p 1 0), (7, .p 2 0), (35, .v (.slice A212 ((unknownT l u5).length) c213)), (36, .v (.int .i64 (((unknownT l u5).length : Nat) : Int))), (37, .v (.int .i64 ((q : Nat) : Int)))] a_ w_) ((unknownT l u5).length) ⟨0, none, 0, [], [], by omega, by omega, Tags.nil _ _, hE221.pk, hW226, Fr.refl _ _ _⟩ ?_
    clear hE221
    rintro n228 a229 w230 ⟨q, A5_, c5_, ys, dss, hn233, hk234, hU, hE231, hW232, hF235⟩
    refine go_sp [(6, .p 1 0), (7, .p 2 0), (35, .v (.slice A212 ((unknownT l u5).length) c213)), (36, .v (.int .i64 (((unknownT l u5).length : Nat) : Int))), (37, .v (.int .i64 ((q : Nat) : Int))), (38, .v (.bool (decide (((q : Nat) : Int) < (((unknownT l u5).length : Nat) : Int)))))] hW232 hE231 fun a236 hE237 => ?_
    clear hE231
    refine wp_seq ?_
    refine cond_of hE237 (b := decide (((q : Nat) : Int) < (((unknownT l u5).length : Nat) : Int))) (by kernel_rfl) (fun hc238 => ?_) (fun hc238 => ?_)
    ·
      have hf239 := of_decide_eq_true hc238
      refine wp_skip ?_
      refine then_normal ?_
      refine wp_seq ?_
      refine wp_block ?_
      refine go_seq_region [0, 1, 2, 3] (by kernel_rfl) ?_
      obtain ⟨b240, o241, hA242, hl243, hat244⟩ := Slots.get h223 (i := q) (by omega)
      obtain ⟨⟨k245, s246⟩, he247⟩ : ∃ x, (unknownT l u5)[q]? = some x := ⟨_, List.getElem?_eq_getElem (by omega)⟩
      obtain ⟨⟨A248, c249, hcs250, hb251⟩, h252, h253⟩ := h224 q k245 s246 he247
      rw [hcs250] at hat244
      refine of_op (wpOp_index hE237 (t := 24) (A := A212) (m := (unknownT l u5).length) (q := ((q : Nat) : Int)) (d := 39) (by kernel_rfl) (e := 63) (size := 2) (bytes := 32) (by kernel_rfl) hA242 rfl (by omega) fun a254 hE255 => ?_)
      clear hE237
      refine of_op (wpOp_load hE255 (t := 63) (b := b240) (o := o241 + q * 2) (d := 40) (by kernel_rfl) (cs := [.int .u32 k245, .slice A248 s246.length c249]) (v := .agg #[.int .u32 k245, .slice A248 s246.length c249]) (by kernel_rfl) (AtF.move hat244 (Fr.trans hF227 hF235).step immM (Fr.trans hF227 hF235).to').at_ fun a256 hE257 => ?_)
      clear hE255
      refine of_op (wpOp_alloc hW232 hE257 (d := 11) (cs := [.int .u32 0, .slice none 0 0]) (by kernel_rfl) fun b258 a259 w260 hb261 hz262 hF263 hW264 hE265 => ?_)
      clear hE257 hW232
      refine of_op (wpOp_store hW264 hE265 (oi := 3) (cs := [.int .u32 k245, .slice A248 s246.length c249]) (by kernel_rfl) fun w266 hF267 hW268 hE269 => ?_)
      clear hE265 hW264
      refine wpOps_nil ?_
      refine then_normal ?_
      refine go_drawK 11 (by kernel_rfl) hW268 fun w270 hF271 hW272 hT273 => ?_
      clear hW268
      refine go_rnD [0, 1, 2, 3, 4, 5] [(6, .p 1 0), (7, .p 2 0), (35, .v (.slice A212 ((unknownT l u5).length) c213)), (36, .v (.int .i64 (((unknownT l u5).length : Nat) : Int))), (37, .v (.int .i64 ((q : Nat) : Int))), (42, .v (.slice A5_ q c5_)), (44, .v (.int .u32 k245)), (46, .v (.slice A248 s246.length c249))] 6 (panicFree_block (panicFree_then (panicFree_then (panicFree_block (panicFree_then panicFree_body))))) (fun _ h => h.cells) hT273 hE269 fun a274 hE275 => ?_
      clear hE269
      have hwl277 := whole_le s246
      refine anyC_op (i := 6) (by kernel_rfl) (wpOp_call hE275 (f := 39) (vs := [.slice A248 s246.length c249]) (d := 47) (by kernel_rfl) Tryz.call39 (sWhole _ _ s246 (hb251.move (Fr.trans (Fr.trans (Fr.trans (Fr.trans hF227 hF235) hF263) hF267) hF271).step immM (Fr.trans (Fr.trans (Fr.trans (Fr.trans hF227 hF235) hF263) hF267) hF271).to').le _) ?_)
      rintro e_ w278 ⟨rfl, hs276⟩
      refine ⟨_, rfl, fun a279 hE280 => ?_⟩
      have hW281 := hW272.next_nil hs276
      have hF282 := hW272.frN hs276
      clear hE275
      have hT283 := TT.ofW hF282 hW281
      refine ⟨fun _ => hT283, ?_⟩
      refine go_rnD [7] [(6, .p 1 0), (7, .p 2 0), (35, .v (.slice A212 ((unknownT l u5).length) c213)), (36, .v (.int .i64 (((unknownT l u5).length : Nat) : Int))), (37, .v (.int .i64 ((q : Nat) : Int))), (42, .v (.slice A5_ q c5_)), (48, .v (.agg #[.int .u32 k245, .slice A248 ((whole s246).length) c249]))] 4 (panicFree_block (panicFree_then (panicFree_then (panicFree_block (panicFree_then panicFree_body))))) (fun _ h => h.cells) hT283 hE280 fun a284 hE285 => ?_
      clear hE280
      refine anyC_op (i := 8) (by kernel_rfl) (wpOp_lit hW281 hE285 (e := 63) (size := 2) (len := 1) (cs := [.int .u32 k245, .slice A248 ((whole s246).length) c249]) (d := 49) (by kernel_rfl) (by kernel_rfl) fun b286 a287 w288 hb289 hz290 hF291 hW292 hE293 => ?_)
      clear hE285 hW281
      have hT294 := TT.ofW (Fr.trans hF282 hF291) hW292
      refine ⟨fun _ => hT294, ?_⟩
      refine anyC_op (i := 9) (by kernel_rfl) (wpOp_append hW292 hE293 (k := 1) (d := 50) (t := 24) (e := 63) (size := 2) (bytes := 32) (A := A5_) (As := (some ⟨b286, 0, none⟩)) (m0 := q) (c := c5_) (m := 1) (cs := 1) (xs := ys) (news := [.int .u32 k245, .slice A248 ((whole s246).length) c249]) (by kernel_rfl) (by kernel_rfl) rfl (own_src (hW292.own 2 _ rfl) (allOne_ok (by kernel_rfl))) (own_cap (hW292.own 2 _ rfl)) (by omega) fun A295 c296 a297 w298 hF299 hW300 hE301 => ?_)
      clear hE293 hW292
      have hT302 := TT.ofW (Fr.trans (Fr.trans hF282 hF291) hF299) hW300
      refine ⟨fun _ => hT302, ?_⟩
      refine go_rnD [10] [(6, .p 1 0), (7, .p 2 0), (35, .v (.slice A212 ((unknownT l u5).length) c213)), (36, .v (.int .i64 (((unknownT l u5).length : Nat) : Int))), (37, .v (.int .i64 ((q : Nat) : Int))), (50, .v (.slice A295 (q + 1) c296)), (51, .p 2 4)] 1 (panicFree_block (panicFree_then (panicFree_then (panicFree_block (panicFree_then panicFree_body))))) (fun _ h => h.cells) hT302 hE301 fun a303 hE304 => ?_
      clear hE301
      refine anyC_op (i := 11) (by kernel_rfl) (wpOp_store hW300 hE304 (oi := 2) (cs := [.int .i64 0, .slice none 0 0, .bool false, .slice A_ k c_, .slice A295 (q + 1) c296]) (by kernel_rfl) fun w305 hF306 hW307 hE308 => ?_)
      clear hE304 hW300
      refine ⟨fun h => absurd rfl h, ?_⟩
      refine anyC_done (by kernel_rfl) ?_ _
      refine block_normal ?_
      refine then_normal ?_
      refine go_region [0, 1] (by kernel_rfl) ?_
      refine go_rn [0, 1] [] [(6, .p 1 0), (7, .p 2 0), (35, .v (.slice A212 ((unknownT l u5).length) c213)), (36, .v (.int .i64 (((unknownT l u5).length : Nat) : Int))), (37, .v (.int .i64 (IntKind.i64.wrap (((q : Nat) : Int) + 1))))] hW307 hE308 fun a309 hE310 => ?_
      clear hE308
      refine wpOps_nil ?_
      refine then_normal ?_
      obtain ⟨hE311, hW312, hF313⟩ := hW307.cutB hE310 3 [⟨b21, 0, [.int .i64 n1, .slice A6 s2.length c7, .bool b3, .slice A8 l4.length c9, .slice A10 u5.length c11], true⟩, ⟨b29, 0, [.int .i64 0, .slice none 0 0, .bool false, .slice none 0 0, .slice none 0 0], true⟩, ⟨b39, 0, [.int .i64 0, .slice none 0 0, .bool false, .slice A_ k c_, .slice A295 (q + 1) c296], true⟩] [(6, .p 1 0), (7, .p 2 0), (35, .v (.slice A212 ((unknownT l u5).length) c213)), (36, .v (.int .i64 (((unknownT l u5).length : Nat) : Int))), (37, .v (.int .i64 (IntKind.i64.wrap (((q : Nat) : Int) + 1))))]
      obtain ⟨hW314, hF315⟩ := hW312.cutR 2 [⟨A_, c_, 26, 5, k, xs⟩, ⟨A295, c296, 63, 2, q + 1, ys ++ [.int .u32 k245, .slice A248 ((whole s246).length) c249]⟩]
      have he316 : IntKind.i64.wrap (((q : Nat) : Int) + 1) = ((q + 1 : Nat) : Int) := wrap_succ (by omega)
      rw [he316] at hE311
      exact ⟨(unknownT l u5).length - (q + 1), by omega, q + 1, A295, c296, ys ++ [Value.int .u32 k245, .slice A248 ((whole s246).length) c249], (dss ++ [[Value.int .u32 k245, .slice A248 ((whole s246).length) c249]]), rfl, by omega, by rw [take_succ_of (wholeU_get he247)]; exact (hU.move (Fr.trans (Fr.trans (Fr.trans (Fr.trans (Fr.trans (Fr.trans (Fr.trans (Fr.trans hF263 hF267) hF271) hF282) hF291) hF299) hF306) hF313) hF315).step immM (Fr.trans (Fr.trans (Fr.trans (Fr.trans (Fr.trans (Fr.trans (Fr.trans (Fr.trans hF263 hF267) hF271) hF282) hF291) hF299) hF306) hF313) hF315).to').snoc (c := [.int .u32 k245, .slice A248 ((whole s246).length) c249]) (x := (k245, whole s246)) ⟨⟨_, _, rfl, ((hb251.move (Fr.trans (Fr.trans (Fr.trans (Fr.trans (Fr.trans (Fr.trans (Fr.trans (Fr.trans (Fr.trans (Fr.trans hF227 hF235) hF263) hF267) hF271) hF282) hF291) hF299) hF306) hF313) hF315).step immM (Fr.trans (Fr.trans (Fr.trans (Fr.trans (Fr.trans (Fr.trans (Fr.trans (Fr.trans (Fr.trans (Fr.trans hF227 hF235) hF263) hF267) hF271) hF282) hF291) hF299) hF306) hF313) hF315).to').take 32767)⟩, h252, h253⟩, hE311.pk, hW314, (Fr.trans (Fr.trans (Fr.trans (Fr.trans (Fr.trans (Fr.trans (Fr.trans (Fr.trans (Fr.trans hF235 hF263) hF267) hF271) hF282) hF291) hF299) hF306) hF313) hF315)⟩
    ·
      have hf317 := of_decide_eq_false hc238
      refine wp_exit ?_
      refine then_exit ?_
      refine then_exit ?_
      refine block_exit ?_
      refine then_normal ?_
      refine go_seq_region [0, 1] (by kernel_rfl) ?_
      refine go_rn [0] [1] [(6, .p 1 0), (53, .v (.agg #[.int .i64 0, .slice none 0 0, .bool false, .slice A_ k c_, .slice A5_ q c5_]))] hW232 hE237 fun a318 hE319 => ?_
      clear hE237
      refine of_op (wpOp_store hW232 hE319 (oi := 1) (cs := [.int .i64 0, .slice none 0 0, .bool false, .slice A_ k c_, .slice A5_ q c5_]) (by kernel_rfl) fun w320 hF321 hW322 hE323 => ?_)
      clear hE319 hW232
      refine wpOps_nil ?_
      refine then_normal ?_
      refine wp_ret ?_
      refine leave hE323 hW322.cells (v := .agg #[.int .i64 0, .slice none 0 0, .bool false, .slice A_ k c_, .slice A5_ q c5_]) (by kernel_rfl) ?_
      have hq0 : q = (wholeU (unknownT l u5)).length := by rw [wholeU_len]; omega
      have hT' := (hT.move (Fr.trans (Fr.trans (Fr.trans hF219 hF227) hF235) hF321).step immM (Fr.trans (Fr.trans (Fr.trans hF219 hF227) hF235) hF321).to')
      have hU' := (hU.move hF321.step immM hF321.to')
      rw [show (fitsW W l (Tree.mk n1 s2 b3 l4 u5) 0).take k = (fitsW W l (Tree.mk n1 s2 b3 l4 u5) 0) by rw [hk0, List.take_length]] at hT'
      rw [show (wholeU (unknownT l u5)).take q = (wholeU (unknownT l u5)) by rw [hq0, List.take_length]] at hU'
      exact tree_end hW322 rfl (Octs.nil _ _) hk0 (trees_fp hW322 (k := 0) rfl hT' hk0 (by rw [fits_len]; omega)) hq0 (tags_fp hW322 (k := 1) rfl hU' hq0 (by rw [wholeU_len]; omega)) rfl

theorem sFitOK : ∀ d, FitOK d
  | 0 => fun A c l v ct t w F hl hpl hd ht => sFit (fun _ _ => .zero) A c l v ct t w F (fun cf f ct t w F hm hf ht => by
      obtain ⟨i, hi⟩ := List.mem_iff_getElem?.1 hm
      have h := depths_get hi
      obtain ⟨k, x1, x2, x3, x4, x5, x6, l, A, c, xs, rfl, _⟩ := hf.open_
      rw [depth_mk] at h; omega) hl ht
  | d + 1 => fun A c l v ct t w F hl hpl hd ht => sFit (fittedW (fitT v d) v) A c l v ct t w F (fun cf f ct t w F hm hf ht => sFitted (sFitOK d) cf f v ct t w F hf (plains_mem hpl hm) (by
      obtain ⟨i, hi⟩ := List.mem_iff_getElem?.1 hm
      have h := depths_get hi
      obtain ⟨k, x1, x2, x3, x4, x5, x6, l, A, c, xs, rfl, _⟩ := hf.open_
      rw [depth_mk] at h
      show depths l ≤ d
      omega) ht) hl ht

end Go.Proofs.YtbjopfcbpobnpaaGreat.ME

/- Contracts: printed by tools/sp.py. Own work. -/
namespace Go.Proofs.YtbjopfcbpobnpaaGreat.ME
open Go
set_option linter.unusedVariables false
set_option linter.unusedSimpArgs false
set_option maxRecDepth 20000

def sOffsetFetchRequestF : List Fld := [(Fld.mk 8 0 7 (-1) (-1) 0 0 []), (Fld.mk 11 0 7 2 (-1) 0 10 [(Fld.mk 8 0 (-1) (-1) (-1) 0 0 []), (Fld.mk 11 0 (-1) (-1) (-1) 0 3 [])]), (Fld.mk 11 8 (-1) (-1) (-1) 0 10 [(Fld.mk 8 0 (-1) (-1) (-1) 0 0 []), (Fld.mk 8 9 (-1) 9 (-1) 0 0 []), (Fld.mk 3 9 (-1) (-1) (-1) (-1) 0 []), (Fld.mk 11 0 (-1) (-1) (-1) 0 10 [(Fld.mk 8 8 9 (-1) (-1) 0 0 []), (Fld.mk 7 10 (-1) (-1) (-1) 0 0 []), (Fld.mk 11 0 (-1) (-1) (-1) 0 3 [])])]), (Fld.mk 0 7 (-1) (-1) (-1) 0 0 [])]
def sOffsetFetchRequestX : Int := 6
theorem sOffsetFetchRequest (w : World) (F : Nat → Nat → Prop) : Calls Tryz.prog 21 #[] w (GivesM w F sOffsetFetchRequestF sOffsetFetchRequestX) := by
  refine enter (n := 9) Tryz.func21 rfl Tryz.ntmps21 (by kernel_rfl) fun a hE => ?_
  have hW := WOk.start w Nil
  refine go_seq_region [0] (by kernel_rfl) ?_
  refine of_op (wpOp_alloc hW hE (d := 0) (cs := [.slice none 0 0, .int .i64 0]) (by kernel_rfl) fun b1 a2 w3 hb4 hz5 hF6 hW7 hE8 => ?_)
  clear hE hW
  refine wpOps_nil ?_
  refine then_normal ?_
  refine go_seq_region [0, 1, 2, 3, 4, 5, 6, 7, 8] (by kernel_rfl) ?_
  refine go_rn [0] [1, 2, 3, 4, 5, 6, 7, 8] [(0, .p 0 0), (1, .v (.agg #[.int .i64 8, .int .i64 0, .int .i64 7, .int .i64 (-1), .int .i64 (-1), .int .i64 0, .int .i64 0, .slice none 0 0]))] hW7 hE8 fun a9 hE10 => ?_
  clear hE8
  refine of_op (wpOp_inline hE10 (f := 49) (vs := []) (d := 2) (n' := 4) (by kernel_rfl) Tryz.call49 Tryz.func49 rfl Tryz.ntmps49 (by kernel_rfl) fun a11 hE12 => ?_)
  refine go_sp [] hW7 hE12 fun a13 hE14 => ?_
  clear hE12
  refine go_seq_region [0, 1, 2, 3] (by kernel_rfl) ?_
  refine go_rn [0, 1] [2, 3] [(1, .v (.agg #[.int .i64 8, .int .i64 0, .int .i64 (-1), .int .i64 (-1), .int .i64 (-1), .int .i64 0, .int .i64 0, .slice none 0 0])), (2, .v (.agg #[.int .i64 11, .int .i64 0, .int .i64 (-1), .int .i64 (-1), .int .i64 (-1), .int .i64 0, .int .i64 3, .slice none 0 0]))] hW7 hE14 fun a15 hE16 => ?_
  clear hE14
  refine of_op (wpOp_lit hW7 hE16 (e := 51) (size := 8) (len := 2) (cs := [.int .i64 8, .int .i64 0, .int .i64 (-1), .int .i64 (-1), .int .i64 (-1), .int .i64 0, .int .i64 0, .slice none 0 0, .int .i64 11, .int .i64 0, .int .i64 (-1), .int .i64 (-1), .int .i64 (-1), .int .i64 0, .int .i64 3, .slice none 0 0]) (d := 3) (by kernel_rfl) (by kernel_rfl) fun b17 a18 w19 hb20 hz21 hF22 hW23 hE24 => ?_)
  clear hE16 hW7
  refine go_rn [3] [] [(0, .v (.slice (some ⟨b17, 0, none⟩) 2 2))] hW23 hE24 fun a25 hE26 => ?_
  clear hE24
  refine wpOps_nil ?_
  refine then_normal ?_
  refine wp_ret ?_
  refine leave hE26 hW23.cells (v := .slice (some ⟨b17, 0, none⟩) 2 2) (by kernel_rfl) ?_
  refine ⟨_, rfl, fun a27 hE28 => ?_⟩
  have hE29 : EnvOk 9 [⟨b1, 0, [.slice none 0 0, .int .i64 0], true⟩] [(2, .v (.slice (some ⟨b17, 0, none⟩) 2 2)), (0, .p 0 0), (1, .v (.agg #[.int .i64 8, .int .i64 0, .int .i64 7, .int .i64 (-1), .int .i64 (-1), .int .i64 0, .int .i64 0, .slice none 0 0]))] _ := hE28.places (⟨rfl, rfl, trivial⟩)
  refine go_rn [2] [3, 4, 5, 6, 7, 8] [(0, .p 0 0), (1, .v (.agg #[.int .i64 8, .int .i64 0, .int .i64 7, .int .i64 (-1), .int .i64 (-1), .int .i64 0, .int .i64 0, .slice none 0 0])), (3, .v (.agg #[.int .i64 11, .int .i64 0, .int .i64 7, .int .i64 2, .int .i64 (-1), .int .i64 0, .int .i64 10, .slice (some ⟨b17, 0, none⟩) 2 2]))] hW23 hE29 fun a30 hE31 => ?_
  clear hE29
  refine of_op (wpOp_inline hE31 (f := 50) (vs := []) (d := 4) (n' := 7) (by kernel_rfl) Tryz.call50 Tryz.func50 rfl Tryz.ntmps50 (by kernel_rfl) fun a32 hE33 => ?_)
  refine go_sp [] hW23 hE33 fun a34 hE35 => ?_
  clear hE33
  refine go_seq_region [0, 1, 2, 3, 4, 5, 6] (by kernel_rfl) ?_
  refine go_rn [0, 1, 2] [3, 4, 5, 6] [(1, .v (.agg #[.int .i64 8, .int .i64 0, .int .i64 (-1), .int .i64 (-1), .int .i64 (-1), .int .i64 0, .int .i64 0, .slice none 0 0])), (2, .v (.agg #[.int .i64 8, .int .i64 9, .int .i64 (-1), .int .i64 9, .int .i64 (-1), .int .i64 0, .int .i64 0, .slice none 0 0])), (3, .v (.agg #[.int .i64 3, .int .i64 9, .int .i64 (-1), .int .i64 (-1), .int .i64 (-1), .int .i64 (-1), .int .i64 0, .slice none 0 0]))] hW23 hE35 fun a36 hE37 => ?_
  clear hE35
  refine of_op (wpOp_inline hE37 (f := 104) (vs := []) (d := 4) (n' := 5) (by kernel_rfl) Tryz.call104 Tryz.func104 rfl Tryz.ntmps104 (by kernel_rfl) fun a38 hE39 => ?_)
  refine go_sp [] hW23 hE39 fun a40 hE41 => ?_
  clear hE39
  refine go_seq_region [0, 1, 2, 3, 4] (by kernel_rfl) ?_
  refine go_rn [0, 1, 2] [3, 4] [(1, .v (.agg #[.int .i64 8, .int .i64 8, .int .i64 9, .int .i64 (-1), .int .i64 (-1), .int .i64 0, .int .i64 0, .slice none 0 0])), (2, .v (.agg #[.int .i64 7, .int .i64 10, .int .i64 (-1), .int .i64 (-1), .int .i64 (-1), .int .i64 0, .int .i64 0, .slice none 0 0])), (3, .v (.agg #[.int .i64 11, .int .i64 0, .int .i64 (-1), .int .i64 (-1), .int .i64 (-1), .int .i64 0, .int .i64 3, .slice none 0 0]))] hW23 hE41 fun a42 hE43 => ?_
  clear hE41
  refine of_op (wpOp_lit hW23 hE43 (e := 51) (size := 8) (len := 3) (cs := [.int .i64 8, .int .i64 8, .int .i64 9, .int .i64 (-1), .int .i64 (-1), .int .i64 0, .int .i64 0, .slice none 0 0, .int .i64 7, .int .i64 10, .int .i64 (-1), .int .i64 (-1), .int .i64 (-1), .int .i64 0, .int .i64 0, .slice none 0 0, .int .i64 11, .int .i64 0, .int .i64 (-1), .int .i64 (-1), .int .i64 (-1), .int .i64 0, .int .i64 3, .slice none 0 0]) (d := 4) (by kernel_rfl) (by kernel_rfl) fun b44 a45 w46 hb47 hz48 hF49 hW50 hE51 => ?_)
  clear hE43 hW23
  refine go_rn [4] [] [(0, .v (.slice (some ⟨b44, 0, none⟩) 3 3))] hW50 hE51 fun a52 hE53 => ?_
  clear hE51
  refine wpOps_nil ?_
  refine then_normal ?_
  refine wp_ret ?_
  refine leave hE53 hW50.cells (v := .slice (some ⟨b44, 0, none⟩) 3 3) (by kernel_rfl) ?_
  refine ⟨_, rfl, fun a54 hE55 => ?_⟩
  have hE56 : EnvOk 7 [⟨b1, 0, [.slice none 0 0, .int .i64 0], true⟩] [(4, .v (.slice (some ⟨b44, 0, none⟩) 3 3)), (1, .v (.agg #[.int .i64 8, .int .i64 0, .int .i64 (-1), .int .i64 (-1), .int .i64 (-1), .int .i64 0, .int .i64 0, .slice none 0 0])), (2, .v (.agg #[.int .i64 8, .int .i64 9, .int .i64 (-1), .int .i64 9, .int .i64 (-1), .int .i64 0, .int .i64 0, .slice none 0 0])), (3, .v (.agg #[.int .i64 3, .int .i64 9, .int .i64 (-1), .int .i64 (-1), .int .i64 (-1), .int .i64 (-1), .int .i64 0, .slice none 0 0]))] _ := hE55.places (⟨rfl, rfl, trivial⟩)
  refine go_rn [4] [5, 6] [(1, .v (.agg #[.int .i64 8, .int .i64 0, .int .i64 (-1), .int .i64 (-1), .int .i64 (-1), .int .i64 0, .int .i64 0, .slice none 0 0])), (2, .v (.agg #[.int .i64 8, .int .i64 9, .int .i64 (-1), .int .i64 9, .int .i64 (-1), .int .i64 0, .int .i64 0, .slice none 0 0])), (3, .v (.agg #[.int .i64 3, .int .i64 9, .int .i64 (-1), .int .i64 (-1), .int .i64 (-1), .int .i64 (-1), .int .i64 0, .slice none 0 0])), (5, .v (.agg #[.int .i64 11, .int .i64 0, .int .i64 (-1), .int .i64 (-1), .int .i64 (-1), .int .i64 0, .int .i64 10, .slice (some ⟨b44, 0, none⟩) 3 3]))] hW50 hE56 fun a57 hE58 => ?_
  clear hE56
  refine of_op (wpOp_lit hW50 hE58 (e := 51) (size := 8) (len := 4) (cs := [.int .i64 8, .int .i64 0, .int .i64 (-1), .int .i64 (-1), .int .i64 (-1), .int .i64 0, .int .i64 0, .slice none 0 0, .int .i64 8, .int .i64 9, .int .i64 (-1), .int .i64 9, .int .i64 (-1), .int .i64 0, .int .i64 0, .slice none 0 0, .int .i64 3, .int .i64 9, .int .i64 (-1), .int .i64 (-1), .int .i64 (-1), .int .i64 (-1), .int .i64 0, .slice none 0 0, .int .i64 11, .int .i64 0, .int .i64 (-1), .int .i64 (-1), .int .i64 (-1), .int .i64 0, .int .i64 10, .slice (some ⟨b44, 0, none⟩) 3 3]) (d := 6) (by kernel_rfl) (by kernel_rfl) fun b59 a60 w61 hb62 hz63 hF64 hW65 hE66 => ?_)
  clear hE58 hW50
  refine go_rn [6] [] [(0, .v (.slice (some ⟨b59, 0, none⟩) 4 4))] hW65 hE66 fun a67 hE68 => ?_
  clear hE66
  refine wpOps_nil ?_
  refine then_normal ?_
  refine wp_ret ?_
  refine leave hE68 hW65.cells (v := .slice (some ⟨b59, 0, none⟩) 4 4) (by kernel_rfl) ?_
  refine ⟨_, rfl, fun a69 hE70 => ?_⟩
  have hE71 : EnvOk 9 [⟨b1, 0, [.slice none 0 0, .int .i64 0], true⟩] [(4, .v (.slice (some ⟨b59, 0, none⟩) 4 4)), (0, .p 0 0), (1, .v (.agg #[.int .i64 8, .int .i64 0, .int .i64 7, .int .i64 (-1), .int .i64 (-1), .int .i64 0, .int .i64 0, .slice none 0 0])), (3, .v (.agg #[.int .i64 11, .int .i64 0, .int .i64 7, .int .i64 2, .int .i64 (-1), .int .i64 0, .int .i64 10, .slice (some ⟨b17, 0, none⟩) 2 2]))] _ := hE70.places (⟨rfl, rfl, trivial⟩)
  refine go_rn [4, 5] [6, 7, 8] [(0, .p 0 0), (1, .v (.agg #[.int .i64 8, .int .i64 0, .int .i64 7, .int .i64 (-1), .int .i64 (-1), .int .i64 0, .int .i64 0, .slice none 0 0])), (3, .v (.agg #[.int .i64 11, .int .i64 0, .int .i64 7, .int .i64 2, .int .i64 (-1), .int .i64 0, .int .i64 10, .slice (some ⟨b17, 0, none⟩) 2 2])), (5, .v (.agg #[.int .i64 11, .int .i64 8, .int .i64 (-1), .int .i64 (-1), .int .i64 (-1), .int .i64 0, .int .i64 10, .slice (some ⟨b59, 0, none⟩) 4 4])), (6, .v (.agg #[.int .i64 0, .int .i64 7, .int .i64 (-1), .int .i64 (-1), .int .i64 (-1), .int .i64 0, .int .i64 0, .slice none 0 0]))] hW65 hE71 fun a72 hE73 => ?_
  clear hE71
  refine of_op (wpOp_lit hW65 hE73 (e := 51) (size := 8) (len := 4) (cs := [.int .i64 8, .int .i64 0, .int .i64 7, .int .i64 (-1), .int .i64 (-1), .int .i64 0, .int .i64 0, .slice none 0 0, .int .i64 11, .int .i64 0, .int .i64 7, .int .i64 2, .int .i64 (-1), .int .i64 0, .int .i64 10, .slice (some ⟨b17, 0, none⟩) 2 2, .int .i64 11, .int .i64 8, .int .i64 (-1), .int .i64 (-1), .int .i64 (-1), .int .i64 0, .int .i64 10, .slice (some ⟨b59, 0, none⟩) 4 4, .int .i64 0, .int .i64 7, .int .i64 (-1), .int .i64 (-1), .int .i64 (-1), .int .i64 0, .int .i64 0, .slice none 0 0]) (d := 7) (by kernel_rfl) (by kernel_rfl) fun b74 a75 w76 hb77 hz78 hF79 hW80 hE81 => ?_)
  clear hE73 hW65
  refine go_rn [7] [8] [(0, .p 0 0), (8, .v (.agg #[.slice (some ⟨b74, 0, none⟩) 4 4, .int .i64 6]))] hW80 hE81 fun a82 hE83 => ?_
  clear hE81
  refine of_op (wpOp_store hW80 hE83 (oi := 0) (cs := [.slice (some ⟨b74, 0, none⟩) 4 4, .int .i64 6]) (by kernel_rfl) fun w84 hF85 hW86 hE87 => ?_)
  clear hE83 hW80
  refine wpOps_nil ?_
  refine then_normal ?_
  refine wp_ret ?_
  refine leave hE87 hW86.cells (v := .agg #[.slice (some ⟨b74, 0, none⟩) 4 4, .int .i64 6]) (by kernel_rfl) ?_
  have hfl88 := Flds.slots (F := F) hW86 (k := 0) (n := 2) (xs := [.int .i64 8, .int .i64 0, .int .i64 (-1), .int .i64 (-1), .int .i64 (-1), .int .i64 0, .int .i64 0, .slice none 0 0, .int .i64 11, .int .i64 0, .int .i64 (-1), .int .i64 (-1), .int .i64 (-1), .int .i64 0, .int .i64 3, .slice none 0 0]) rfl (Flds.snoc (Flds.snoc (Flds.nil _ _) (c := [.int .i64 8, .int .i64 0, .int .i64 (-1), .int .i64 (-1), .int .i64 (-1), .int .i64 0, .int .i64 0, .slice none 0 0]) (x := (Fld.mk 8 0 (-1) (-1) (-1) 0 0 [])) (FldR.mk (l := []) _ (noFlds w84 (Fp F w)).1 (noFlds w84 (Fp F w)).2)) (c := [.int .i64 11, .int .i64 0, .int .i64 (-1), .int .i64 (-1), .int .i64 (-1), .int .i64 0, .int .i64 3, .slice none 0 0]) (x := (Fld.mk 11 0 (-1) (-1) (-1) 0 3 [])) (FldR.mk (l := []) _ (noFlds w84 (Fp F w)).1 (noFlds w84 (Fp F w)).2)) rfl (by decide)
  have hfl89 := Flds.slots (F := F) hW86 (k := 1) (n := 3) (xs := [.int .i64 8, .int .i64 8, .int .i64 9, .int .i64 (-1), .int .i64 (-1), .int .i64 0, .int .i64 0, .slice none 0 0, .int .i64 7, .int .i64 10, .int .i64 (-1), .int .i64 (-1), .int .i64 (-1), .int .i64 0, .int .i64 0, .slice none 0 0, .int .i64 11, .int .i64 0, .int .i64 (-1), .int .i64 (-1), .int .i64 (-1), .int .i64 0, .int .i64 3, .slice none 0 0]) rfl (Flds.snoc (Flds.snoc (Flds.snoc (Flds.nil _ _) (c := [.int .i64 8, .int .i64 8, .int .i64 9, .int .i64 (-1), .int .i64 (-1), .int .i64 0, .int .i64 0, .slice none 0 0]) (x := (Fld.mk 8 8 9 (-1) (-1) 0 0 [])) (FldR.mk (l := []) _ (noFlds w84 (Fp F w)).1 (noFlds w84 (Fp F w)).2)) (c := [.int .i64 7, .int .i64 10, .int .i64 (-1), .int .i64 (-1), .int .i64 (-1), .int .i64 0, .int .i64 0, .slice none 0 0]) (x := (Fld.mk 7 10 (-1) (-1) (-1) 0 0 [])) (FldR.mk (l := []) _ (noFlds w84 (Fp F w)).1 (noFlds w84 (Fp F w)).2)) (c := [.int .i64 11, .int .i64 0, .int .i64 (-1), .int .i64 (-1), .int .i64 (-1), .int .i64 0, .int .i64 3, .slice none 0 0]) (x := (Fld.mk 11 0 (-1) (-1) (-1) 0 3 [])) (FldR.mk (l := []) _ (noFlds w84 (Fp F w)).1 (noFlds w84 (Fp F w)).2)) rfl (by decide)
  have hfl90 := Flds.slots (F := F) hW86 (k := 2) (n := 4) (xs := [.int .i64 8, .int .i64 0, .int .i64 (-1), .int .i64 (-1), .int .i64 (-1), .int .i64 0, .int .i64 0, .slice none 0 0, .int .i64 8, .int .i64 9, .int .i64 (-1), .int .i64 9, .int .i64 (-1), .int .i64 0, .int .i64 0, .slice none 0 0, .int .i64 3, .int .i64 9, .int .i64 (-1), .int .i64 (-1), .int .i64 (-1), .int .i64 (-1), .int .i64 0, .slice none 0 0, .int .i64 11, .int .i64 0, .int .i64 (-1), .int .i64 (-1), .int .i64 (-1), .int .i64 0, .int .i64 10, .slice (some ⟨b44, 0, none⟩) 3 3]) rfl (Flds.snoc (Flds.snoc (Flds.snoc (Flds.snoc (Flds.nil _ _) (c := [.int .i64 8, .int .i64 0, .int .i64 (-1), .int .i64 (-1), .int .i64 (-1), .int .i64 0, .int .i64 0, .slice none 0 0]) (x := (Fld.mk 8 0 (-1) (-1) (-1) 0 0 [])) (FldR.mk (l := []) _ (noFlds w84 (Fp F w)).1 (noFlds w84 (Fp F w)).2)) (c := [.int .i64 8, .int .i64 9, .int .i64 (-1), .int .i64 9, .int .i64 (-1), .int .i64 0, .int .i64 0, .slice none 0 0]) (x := (Fld.mk 8 9 (-1) 9 (-1) 0 0 [])) (FldR.mk (l := []) _ (noFlds w84 (Fp F w)).1 (noFlds w84 (Fp F w)).2)) (c := [.int .i64 3, .int .i64 9, .int .i64 (-1), .int .i64 (-1), .int .i64 (-1), .int .i64 (-1), .int .i64 0, .slice none 0 0]) (x := (Fld.mk 3 9 (-1) (-1) (-1) (-1) 0 [])) (FldR.mk (l := []) _ (noFlds w84 (Fp F w)).1 (noFlds w84 (Fp F w)).2)) (c := [.int .i64 11, .int .i64 0, .int .i64 (-1), .int .i64 (-1), .int .i64 (-1), .int .i64 0, .int .i64 10, .slice (some ⟨b44, 0, none⟩) 3 3]) (x := (Fld.mk 11 0 (-1) (-1) (-1) 0 10 [(Fld.mk 8 8 9 (-1) (-1) 0 0 []), (Fld.mk 7 10 (-1) (-1) (-1) 0 0 []), (Fld.mk 11 0 (-1) (-1) (-1) 0 3 [])])) (FldR.mk (l := [(Fld.mk 8 8 9 (-1) (-1) 0 0 []), (Fld.mk 7 10 (-1) (-1) (-1) 0 0 []), (Fld.mk 11 0 (-1) (-1) (-1) 0 3 [])]) _ hfl89.1 hfl89.2)) rfl (by decide)
  have hfl91 := Flds.slots (F := F) hW86 (k := 3) (n := 4) (xs := [.int .i64 8, .int .i64 0, .int .i64 7, .int .i64 (-1), .int .i64 (-1), .int .i64 0, .int .i64 0, .slice none 0 0, .int .i64 11, .int .i64 0, .int .i64 7, .int .i64 2, .int .i64 (-1), .int .i64 0, .int .i64 10, .slice (some ⟨b17, 0, none⟩) 2 2, .int .i64 11, .int .i64 8, .int .i64 (-1), .int .i64 (-1), .int .i64 (-1), .int .i64 0, .int .i64 10, .slice (some ⟨b59, 0, none⟩) 4 4, .int .i64 0, .int .i64 7, .int .i64 (-1), .int .i64 (-1), .int .i64 (-1), .int .i64 0, .int .i64 0, .slice none 0 0]) rfl (Flds.snoc (Flds.snoc (Flds.snoc (Flds.snoc (Flds.nil _ _) (c := [.int .i64 8, .int .i64 0, .int .i64 7, .int .i64 (-1), .int .i64 (-1), .int .i64 0, .int .i64 0, .slice none 0 0]) (x := (Fld.mk 8 0 7 (-1) (-1) 0 0 [])) (FldR.mk (l := []) _ (noFlds w84 (Fp F w)).1 (noFlds w84 (Fp F w)).2)) (c := [.int .i64 11, .int .i64 0, .int .i64 7, .int .i64 2, .int .i64 (-1), .int .i64 0, .int .i64 10, .slice (some ⟨b17, 0, none⟩) 2 2]) (x := (Fld.mk 11 0 7 2 (-1) 0 10 [(Fld.mk 8 0 (-1) (-1) (-1) 0 0 []), (Fld.mk 11 0 (-1) (-1) (-1) 0 3 [])])) (FldR.mk (l := [(Fld.mk 8 0 (-1) (-1) (-1) 0 0 []), (Fld.mk 11 0 (-1) (-1) (-1) 0 3 [])]) _ hfl88.1 hfl88.2)) (c := [.int .i64 11, .int .i64 8, .int .i64 (-1), .int .i64 (-1), .int .i64 (-1), .int .i64 0, .int .i64 10, .slice (some ⟨b59, 0, none⟩) 4 4]) (x := (Fld.mk 11 8 (-1) (-1) (-1) 0 10 [(Fld.mk 8 0 (-1) (-1) (-1) 0 0 []), (Fld.mk 8 9 (-1) 9 (-1) 0 0 []), (Fld.mk 3 9 (-1) (-1) (-1) (-1) 0 []), (Fld.mk 11 0 (-1) (-1) (-1) 0 10 [(Fld.mk 8 8 9 (-1) (-1) 0 0 []), (Fld.mk 7 10 (-1) (-1) (-1) 0 0 []), (Fld.mk 11 0 (-1) (-1) (-1) 0 3 [])])])) (FldR.mk (l := [(Fld.mk 8 0 (-1) (-1) (-1) 0 0 []), (Fld.mk 8 9 (-1) 9 (-1) 0 0 []), (Fld.mk 3 9 (-1) (-1) (-1) (-1) 0 []), (Fld.mk 11 0 (-1) (-1) (-1) 0 10 [(Fld.mk 8 8 9 (-1) (-1) 0 0 []), (Fld.mk 7 10 (-1) (-1) (-1) 0 0 []), (Fld.mk 11 0 (-1) (-1) (-1) 0 3 [])])]) _ hfl90.1 hfl90.2)) (c := [.int .i64 0, .int .i64 7, .int .i64 (-1), .int .i64 (-1), .int .i64 (-1), .int .i64 0, .int .i64 0, .slice none 0 0]) (x := (Fld.mk 0 7 (-1) (-1) (-1) 0 0 [])) (FldR.mk (l := []) _ (noFlds w84 (Fp F w)).1 (noFlds w84 (Fp F w)).2)) rfl (by decide)
  exact ⟨_, _, rfl, ⟨_, hfl91.1, hfl91.2⟩, hW86.step⟩

end Go.Proofs.YtbjopfcbpobnpaaGreat.ME

/- Printed by tools/mk.py. Own work. -/
namespace Go.Proofs.YtbjopfcbpobnpaaGreat.ME
open Go
open Go.RowKit
set_option linter.unusedVariables false
set_option linter.unusedSimpArgs false
set_option maxRecDepth 20000

def canOffsetFetchRequestTopic (T : Tree) : Prop := ((T.at_ 0).S.length ≤ 1000000) ∧ ((lst (T.at_ 1)).length ≤ 1000000) ∧ canU T.U ∧ True
def canOffsetFetchRequestGroupTopic (T : Tree) : Prop := ((T.at_ 0).S.length ≤ 1000000) ∧ (True) ∧ ((lst (T.at_ 2)).length ≤ 1000000) ∧ canU T.U ∧ True
def canOffsetFetchRequestGroup (T : Tree) : Prop := ((T.at_ 0).S.length ≤ 1000000) ∧ ((octOf (T.at_ 1)).length ≤ 1000000) ∧ (True) ∧ ((lst (T.at_ 3)).length ≤ 1000000 ∧ ∀ x ∈ lst (T.at_ 3), canOffsetFetchRequestGroupTopic x) ∧ canU T.U ∧ True
def canOffsetFetchRequest (T : Tree) : Prop := ((T.at_ 0).S.length ≤ 1000000) ∧ ((lst (T.at_ 1)).length ≤ 1000000 ∧ ∀ x ∈ lst (T.at_ 1), canOffsetFetchRequestTopic x) ∧ ((lst (T.at_ 2)).length ≤ 1000000 ∧ ∀ x ∈ lst (T.at_ 2), canOffsetFetchRequestGroup x) ∧ (True) ∧ canU T.U ∧ True
theorem canfitOffsetFetchRequest (v : Int) (t : Tree) : canOffsetFetchRequest (fitT v 8 sOffsetFetchRequestF t) := by
  unfold canOffsetFetchRequest
  exact ⟨(by rw [fit_t (d := 7) (show sOffsetFetchRequestF[0]? = _ from rfl) (by decide)]; exact Nat.le_trans (whole_le _) (by decide)), (⟨lst_le (d := 7) (show sOffsetFetchRequestF[1]? = _ from rfl), lst_mem (d := 7) (Q := canOffsetFetchRequestTopic) (show sOffsetFetchRequestF[1]? = _ from rfl) fun y => by
      have h := fit_10 (v := v) (d := 7) (x1 := 0) (x2 := 7) (x5 := 0) (x6 := 10) (s := [(Fld.mk 8 0 (-1) (-1) (-1) 0 0 []), (Fld.mk 11 0 (-1) (-1) (-1) 0 3 [])]) (b := Fld.nul (Fld.mk 10 0 7 (-1) (-1) 0 10 [(Fld.mk 8 0 (-1) (-1) (-1) 0 0 []), (Fld.mk 11 0 (-1) (-1) (-1) 0 3 [])]) v y) (x := y)
      unfold canOffsetFetchRequestTopic
      simp only [h.1, h.2]
      exact ⟨(by rw [fit_t (d := 6) (show [(Fld.mk 8 0 (-1) (-1) (-1) 0 0 []), (Fld.mk 11 0 (-1) (-1) (-1) 0 3 [])][0]? = _ from rfl) (by decide)]; exact Nat.le_trans (whole_le _) (by decide)), (lst_le (d := 6) (show [(Fld.mk 8 0 (-1) (-1) (-1) 0 0 []), (Fld.mk 11 0 (-1) (-1) (-1) 0 3 [])][1]? = _ from rfl)), (canU_fit), (trivial)⟩⟩), (⟨lst_le (d := 7) (show sOffsetFetchRequestF[2]? = _ from rfl), lst_mem (d := 7) (Q := canOffsetFetchRequestGroup) (show sOffsetFetchRequestF[2]? = _ from rfl) fun y => by
      have h := fit_10 (v := v) (d := 7) (x1 := 8) (x2 := -1) (x5 := 0) (x6 := 10) (s := [(Fld.mk 8 0 (-1) (-1) (-1) 0 0 []), (Fld.mk 8 9 (-1) 9 (-1) 0 0 []), (Fld.mk 3 9 (-1) (-1) (-1) (-1) 0 []), (Fld.mk 11 0 (-1) (-1) (-1) 0 10 [(Fld.mk 8 8 9 (-1) (-1) 0 0 []), (Fld.mk 7 10 (-1) (-1) (-1) 0 0 []), (Fld.mk 11 0 (-1) (-1) (-1) 0 3 [])])]) (b := Fld.nul (Fld.mk 10 8 (-1) (-1) (-1) 0 10 [(Fld.mk 8 0 (-1) (-1) (-1) 0 0 []), (Fld.mk 8 9 (-1) 9 (-1) 0 0 []), (Fld.mk 3 9 (-1) (-1) (-1) (-1) 0 []), (Fld.mk 11 0 (-1) (-1) (-1) 0 10 [(Fld.mk 8 8 9 (-1) (-1) 0 0 []), (Fld.mk 7 10 (-1) (-1) (-1) 0 0 []), (Fld.mk 11 0 (-1) (-1) (-1) 0 3 [])])]) v y) (x := y)
      unfold canOffsetFetchRequestGroup
      simp only [h.1, h.2]
      exact ⟨(by rw [fit_t (d := 6) (show [(Fld.mk 8 0 (-1) (-1) (-1) 0 0 []), (Fld.mk 8 9 (-1) 9 (-1) 0 0 []), (Fld.mk 3 9 (-1) (-1) (-1) (-1) 0 []), (Fld.mk 11 0 (-1) (-1) (-1) 0 10 [(Fld.mk 8 8 9 (-1) (-1) 0 0 []), (Fld.mk 7 10 (-1) (-1) (-1) 0 0 []), (Fld.mk 11 0 (-1) (-1) (-1) 0 3 [])])][0]? = _ from rfl) (by decide)]; exact Nat.le_trans (whole_le _) (by decide)), (octs_le (d := 6) (show [(Fld.mk 8 0 (-1) (-1) (-1) 0 0 []), (Fld.mk 8 9 (-1) 9 (-1) 0 0 []), (Fld.mk 3 9 (-1) (-1) (-1) (-1) 0 []), (Fld.mk 11 0 (-1) (-1) (-1) 0 10 [(Fld.mk 8 8 9 (-1) (-1) 0 0 []), (Fld.mk 7 10 (-1) (-1) (-1) 0 0 []), (Fld.mk 11 0 (-1) (-1) (-1) 0 3 [])])][1]? = _ from rfl) (by decide)), (trivial), (⟨lst_le (d := 6) (show [(Fld.mk 8 0 (-1) (-1) (-1) 0 0 []), (Fld.mk 8 9 (-1) 9 (-1) 0 0 []), (Fld.mk 3 9 (-1) (-1) (-1) (-1) 0 []), (Fld.mk 11 0 (-1) (-1) (-1) 0 10 [(Fld.mk 8 8 9 (-1) (-1) 0 0 []), (Fld.mk 7 10 (-1) (-1) (-1) 0 0 []), (Fld.mk 11 0 (-1) (-1) (-1) 0 3 [])])][3]? = _ from rfl), lst_mem (d := 6) (Q := canOffsetFetchRequestGroupTopic) (show [(Fld.mk 8 0 (-1) (-1) (-1) 0 0 []), (Fld.mk 8 9 (-1) 9 (-1) 0 0 []), (Fld.mk 3 9 (-1) (-1) (-1) (-1) 0 []), (Fld.mk 11 0 (-1) (-1) (-1) 0 10 [(Fld.mk 8 8 9 (-1) (-1) 0 0 []), (Fld.mk 7 10 (-1) (-1) (-1) 0 0 []), (Fld.mk 11 0 (-1) (-1) (-1) 0 3 [])])][3]? = _ from rfl) fun y => by
          have h := fit_10 (v := v) (d := 6) (x1 := 0) (x2 := -1) (x5 := 0) (x6 := 10) (s := [(Fld.mk 8 8 9 (-1) (-1) 0 0 []), (Fld.mk 7 10 (-1) (-1) (-1) 0 0 []), (Fld.mk 11 0 (-1) (-1) (-1) 0 3 [])]) (b := Fld.nul (Fld.mk 10 0 (-1) (-1) (-1) 0 10 [(Fld.mk 8 8 9 (-1) (-1) 0 0 []), (Fld.mk 7 10 (-1) (-1) (-1) 0 0 []), (Fld.mk 11 0 (-1) (-1) (-1) 0 3 [])]) v y) (x := y)
          unfold canOffsetFetchRequestGroupTopic
          simp only [h.1, h.2]
          exact ⟨(by rw [fit_t (d := 5) (show [(Fld.mk 8 8 9 (-1) (-1) 0 0 []), (Fld.mk 7 10 (-1) (-1) (-1) 0 0 []), (Fld.mk 11 0 (-1) (-1) (-1) 0 3 [])][0]? = _ from rfl) (by decide)]; exact Nat.le_trans (whole_le _) (by decide)), (trivial), (lst_le (d := 5) (show [(Fld.mk 8 8 9 (-1) (-1) 0 0 []), (Fld.mk 7 10 (-1) (-1) (-1) 0 0 []), (Fld.mk 11 0 (-1) (-1) (-1) 0 3 [])][2]? = _ from rfl)), (canU_fit), (trivial)⟩⟩), (canU_fit), (trivial)⟩⟩), (trivial), (canU_fit), (trivial)⟩

set_option maxHeartbeats 4000000 in
theorem pureOffsetFetchRequest (v : Int) (h0 : 0 ≤ v) (h1 : v < 32768) (t : Tree) : tOffsetFetchRequest v (fitT v 8 sOffsetFetchRequestF t) = writeB 8 sOffsetFetchRequestF sOffsetFetchRequestX v t := by
  have f187 := fit_t (v := v) (d := 7) (t := t) (l := sOffsetFetchRequestF) (i := 0) (show sOffsetFetchRequestF[0]? = _ from rfl) (by decide)
  obtain ⟨f188n, f188⟩ := fit_11 (v := v) (d := 7) (t := t) (l := sOffsetFetchRequestF) (i := 1) (show sOffsetFetchRequestF[1]? = _ from rfl)
  obtain ⟨f189n, f189⟩ := fit_11 (v := v) (d := 7) (t := t) (l := sOffsetFetchRequestF) (i := 2) (show sOffsetFetchRequestF[2]? = _ from rfl)
  have f190 : ((fitT v 8 sOffsetFetchRequestF t).at_ 3).N = (t.at_ 3).N := fit_N (d := 7) (show sOffsetFetchRequestF[3]? = _ from rfl) (by decide)
  have el192 : ∀ y191 : Tree, (fun Ek6 : Tree => (if (decide (v ≥ 6)) = true then (uv ((Ek6.at_ 0).S.length + 1) ++ (Ek6.at_ 0).S) else (be 2 (Ek6.at_ 0).S.length ++ (Ek6.at_ 0).S)) ++ (((if (decide (v ≥ 6)) = true then (uv ((lst (Ek6.at_ 1)).length + 1)) else (be 4 (lst (Ek6.at_ 1)).length)) ++ ((lst (Ek6.at_ 1)).flatMap fun Ek11 => be 4 ((IntKind.i32.wrap Ek11.N)))) ++ (if (decide (v ≥ 6)) = true then (uv Ek6.U.length) ++ (tagsR Ek6.U) else []))) (fitted0 (fitT v 7) (Fld.mk 10 0 7 (-1) (-1) 0 10 [(Fld.mk 8 0 (-1) (-1) (-1) 0 0 []), (Fld.mk 11 0 (-1) (-1) (-1) 0 3 [])]) (Fld.nul (Fld.mk 10 0 7 (-1) (-1) 0 10 [(Fld.mk 8 0 (-1) (-1) (-1) 0 0 []), (Fld.mk 11 0 (-1) (-1) (-1) 0 3 [])]) v y191) y191) = partB 7 [(Fld.mk 8 0 (-1) (-1) (-1) 0 0 []), (Fld.mk 11 0 (-1) (-1) (-1) 0 3 [])] v (decide (v ≥ 6)) y191 := by
    intro y191
    dsimp only
    obtain ⟨g1931, g1932⟩ := fit_10 (v := v) (d := 7) (x1 := 0) (x2 := 7) (x5 := 0) (x6 := 10) (s := [(Fld.mk 8 0 (-1) (-1) (-1) 0 0 []), (Fld.mk 11 0 (-1) (-1) (-1) 0 3 [])]) (b := Fld.nul (Fld.mk 10 0 7 (-1) (-1) 0 10 [(Fld.mk 8 0 (-1) (-1) (-1) 0 0 []), (Fld.mk 11 0 (-1) (-1) (-1) 0 3 [])]) v y191) (x := y191)
    simp only [g1931, g1932]
    have f194 := fit_t (v := v) (d := 6) (t := y191) (l := [(Fld.mk 8 0 (-1) (-1) (-1) 0 0 []), (Fld.mk 11 0 (-1) (-1) (-1) 0 3 [])]) (i := 0) (show [(Fld.mk 8 0 (-1) (-1) (-1) 0 0 []), (Fld.mk 11 0 (-1) (-1) (-1) 0 3 [])][0]? = _ from rfl) (by decide)
    obtain ⟨f195n, f195⟩ := fit_11 (v := v) (d := 6) (t := y191) (l := [(Fld.mk 8 0 (-1) (-1) (-1) 0 0 []), (Fld.mk 11 0 (-1) (-1) (-1) 0 3 [])]) (i := 1) (show [(Fld.mk 8 0 (-1) (-1) (-1) 0 0 []), (Fld.mk 11 0 (-1) (-1) (-1) 0 3 [])][1]? = _ from rfl)
    have el197 : ∀ y196 : Tree, (fun Ek11 : Tree => be 4 ((IntKind.i32.wrap Ek11.N))) (fitted0 (fitT v 6) (Fld.mk 3 0 (-1) (-1) (-1) 0 3 []) (Fld.nul (Fld.mk 3 0 (-1) (-1) (-1) 0 3 []) v y196) y196) = be 4 y196.N := by
      intro y196
      dsimp only
      cases y196; simp [fitted0, Fld.kind, Tree.N, be4_i32', be2_i16, be8_i64, be1_i8]
    simp only [fit_U, tagsR_whole, wholeU_len, List.flatMap_map, List.length_map, f194, f195n, f195]
    simp only [el197]
    try simp only [be4_i32', be2_i16, be8_i64, be1_i8, be2_wrap, sixteenB_uuid, bool8]
    by_cases c0 : v ≤ 7 <;> by_cases c1 : v ≤ 9 <;> by_cases c2 : v ≥ 2 <;> by_cases c3 : v ≥ 6 <;> by_cases c4 : v ≥ 7 <;> by_cases c5 : v ≥ 8 <;> by_cases c6 : v ≥ 9 <;> by_cases c7 : v ≥ 10 <;> first | (exfalso; omega) | simp [partB, partW, bodyB, Fld.tag, Fld.has, fieldB, Fld.kind, Fld.null, Fld.of, Fld.sub, valueB, widthI, tagsN, tagsK, knownI, countedB, uv0, nul_no, c0, c1, c2, c3, c4, c5, c6, c7, h0]
  have el199 : ∀ y198 : Tree, (fun Ek13 : Tree => (if (decide (v ≥ 6)) = true then (uv ((Ek13.at_ 0).S.length + 1) ++ (Ek13.at_ 0).S) else (be 2 (Ek13.at_ 0).S.length ++ (Ek13.at_ 0).S)) ++ ((if (decide (v ≥ 9)) = true then if (decide (v ≥ 6)) = true then (if (Ek13.at_ 1).null = true then uv 0 else uv ((octOf (Ek13.at_ 1)).length + 1) ++ (octOf (Ek13.at_ 1))) else (if (Ek13.at_ 1).null = true then be 2 (-1) else be 2 (octOf (Ek13.at_ 1)).length ++ (octOf (Ek13.at_ 1))) else []) ++ ((if (decide (v ≥ 9)) = true then be 4 ((IntKind.i32.wrap (Ek13.at_ 2).N)) else []) ++ (((if (decide (v ≥ 6)) = true then (if (Ek13.at_ 3).null = true then uv 0 else uv ((lst (Ek13.at_ 3)).length + 1)) else (if (Ek13.at_ 3).null = true then be 4 (-1) else be 4 (lst (Ek13.at_ 3)).length)) ++ ((lst (Ek13.at_ 3)).flatMap fun Ek20 => (if ((if (decide (v ≥ 8)) = true then decide (v ≤ 9) else false)) = true then if (decide (v ≥ 6)) = true then (uv ((Ek20.at_ 0).S.length + 1) ++ (Ek20.at_ 0).S) else (be 2 (Ek20.at_ 0).S.length ++ (Ek20.at_ 0).S) else []) ++ ((if (decide (v ≥ 10)) = true then (sixteenB (Ek20.at_ 1).S) else []) ++ (((if (decide (v ≥ 6)) = true then (uv ((lst (Ek20.at_ 2)).length + 1)) else (be 4 (lst (Ek20.at_ 2)).length)) ++ ((lst (Ek20.at_ 2)).flatMap fun Ek26 => be 4 ((IntKind.i32.wrap Ek26.N)))) ++ (if (decide (v ≥ 6)) = true then (uv Ek20.U.length) ++ (tagsR Ek20.U) else []))))) ++ (if (decide (v ≥ 6)) = true then (uv Ek13.U.length) ++ (tagsR Ek13.U) else []))))) (fitted0 (fitT v 7) (Fld.mk 10 8 (-1) (-1) (-1) 0 10 [(Fld.mk 8 0 (-1) (-1) (-1) 0 0 []), (Fld.mk 8 9 (-1) 9 (-1) 0 0 []), (Fld.mk 3 9 (-1) (-1) (-1) (-1) 0 []), (Fld.mk 11 0 (-1) (-1) (-1) 0 10 [(Fld.mk 8 8 9 (-1) (-1) 0 0 []), (Fld.mk 7 10 (-1) (-1) (-1) 0 0 []), (Fld.mk 11 0 (-1) (-1) (-1) 0 3 [])])]) (Fld.nul (Fld.mk 10 8 (-1) (-1) (-1) 0 10 [(Fld.mk 8 0 (-1) (-1) (-1) 0 0 []), (Fld.mk 8 9 (-1) 9 (-1) 0 0 []), (Fld.mk 3 9 (-1) (-1) (-1) (-1) 0 []), (Fld.mk 11 0 (-1) (-1) (-1) 0 10 [(Fld.mk 8 8 9 (-1) (-1) 0 0 []), (Fld.mk 7 10 (-1) (-1) (-1) 0 0 []), (Fld.mk 11 0 (-1) (-1) (-1) 0 3 [])])]) v y198) y198) = partB 7 [(Fld.mk 8 0 (-1) (-1) (-1) 0 0 []), (Fld.mk 8 9 (-1) 9 (-1) 0 0 []), (Fld.mk 3 9 (-1) (-1) (-1) (-1) 0 []), (Fld.mk 11 0 (-1) (-1) (-1) 0 10 [(Fld.mk 8 8 9 (-1) (-1) 0 0 []), (Fld.mk 7 10 (-1) (-1) (-1) 0 0 []), (Fld.mk 11 0 (-1) (-1) (-1) 0 3 [])])] v (decide (v ≥ 6)) y198 := by
    intro y198
    dsimp only
    obtain ⟨g2001, g2002⟩ := fit_10 (v := v) (d := 7) (x1 := 8) (x2 := -1) (x5 := 0) (x6 := 10) (s := [(Fld.mk 8 0 (-1) (-1) (-1) 0 0 []), (Fld.mk 8 9 (-1) 9 (-1) 0 0 []), (Fld.mk 3 9 (-1) (-1) (-1) (-1) 0 []), (Fld.mk 11 0 (-1) (-1) (-1) 0 10 [(Fld.mk 8 8 9 (-1) (-1) 0 0 []), (Fld.mk 7 10 (-1) (-1) (-1) 0 0 []), (Fld.mk 11 0 (-1) (-1) (-1) 0 3 [])])]) (b := Fld.nul (Fld.mk 10 8 (-1) (-1) (-1) 0 10 [(Fld.mk 8 0 (-1) (-1) (-1) 0 0 []), (Fld.mk 8 9 (-1) 9 (-1) 0 0 []), (Fld.mk 3 9 (-1) (-1) (-1) (-1) 0 []), (Fld.mk 11 0 (-1) (-1) (-1) 0 10 [(Fld.mk 8 8 9 (-1) (-1) 0 0 []), (Fld.mk 7 10 (-1) (-1) (-1) 0 0 []), (Fld.mk 11 0 (-1) (-1) (-1) 0 3 [])])]) v y198) (x := y198)
    simp only [g2001, g2002]
    have f201 := fit_t (v := v) (d := 6) (t := y198) (l := [(Fld.mk 8 0 (-1) (-1) (-1) 0 0 []), (Fld.mk 8 9 (-1) 9 (-1) 0 0 []), (Fld.mk 3 9 (-1) (-1) (-1) (-1) 0 []), (Fld.mk 11 0 (-1) (-1) (-1) 0 10 [(Fld.mk 8 8 9 (-1) (-1) 0 0 []), (Fld.mk 7 10 (-1) (-1) (-1) 0 0 []), (Fld.mk 11 0 (-1) (-1) (-1) 0 3 [])])]) (i := 0) (show [(Fld.mk 8 0 (-1) (-1) (-1) 0 0 []), (Fld.mk 8 9 (-1) 9 (-1) 0 0 []), (Fld.mk 3 9 (-1) (-1) (-1) (-1) 0 []), (Fld.mk 11 0 (-1) (-1) (-1) 0 10 [(Fld.mk 8 8 9 (-1) (-1) 0 0 []), (Fld.mk 7 10 (-1) (-1) (-1) 0 0 []), (Fld.mk 11 0 (-1) (-1) (-1) 0 3 [])])][0]? = _ from rfl) (by decide)
    have f202 := fit_o (v := v) (d := 6) (t := y198) (l := [(Fld.mk 8 0 (-1) (-1) (-1) 0 0 []), (Fld.mk 8 9 (-1) 9 (-1) 0 0 []), (Fld.mk 3 9 (-1) (-1) (-1) (-1) 0 []), (Fld.mk 11 0 (-1) (-1) (-1) 0 10 [(Fld.mk 8 8 9 (-1) (-1) 0 0 []), (Fld.mk 7 10 (-1) (-1) (-1) 0 0 []), (Fld.mk 11 0 (-1) (-1) (-1) 0 3 [])])]) (i := 1) (show [(Fld.mk 8 0 (-1) (-1) (-1) 0 0 []), (Fld.mk 8 9 (-1) 9 (-1) 0 0 []), (Fld.mk 3 9 (-1) (-1) (-1) (-1) 0 []), (Fld.mk 11 0 (-1) (-1) (-1) 0 10 [(Fld.mk 8 8 9 (-1) (-1) 0 0 []), (Fld.mk 7 10 (-1) (-1) (-1) 0 0 []), (Fld.mk 11 0 (-1) (-1) (-1) 0 3 [])])][1]? = _ from rfl) (by decide)
    have f203 : ((fitT v 7 [(Fld.mk 8 0 (-1) (-1) (-1) 0 0 []), (Fld.mk 8 9 (-1) 9 (-1) 0 0 []), (Fld.mk 3 9 (-1) (-1) (-1) (-1) 0 []), (Fld.mk 11 0 (-1) (-1) (-1) 0 10 [(Fld.mk 8 8 9 (-1) (-1) 0 0 []), (Fld.mk 7 10 (-1) (-1) (-1) 0 0 []), (Fld.mk 11 0 (-1) (-1) (-1) 0 3 [])])] y198).at_ 2).N = (y198.at_ 2).N := fit_N (d := 6) (show [(Fld.mk 8 0 (-1) (-1) (-1) 0 0 []), (Fld.mk 8 9 (-1) 9 (-1) 0 0 []), (Fld.mk 3 9 (-1) (-1) (-1) (-1) 0 []), (Fld.mk 11 0 (-1) (-1) (-1) 0 10 [(Fld.mk 8 8 9 (-1) (-1) 0 0 []), (Fld.mk 7 10 (-1) (-1) (-1) 0 0 []), (Fld.mk 11 0 (-1) (-1) (-1) 0 3 [])])][2]? = _ from rfl) (by decide)
    obtain ⟨f204n, f204⟩ := fit_11 (v := v) (d := 6) (t := y198) (l := [(Fld.mk 8 0 (-1) (-1) (-1) 0 0 []), (Fld.mk 8 9 (-1) 9 (-1) 0 0 []), (Fld.mk 3 9 (-1) (-1) (-1) (-1) 0 []), (Fld.mk 11 0 (-1) (-1) (-1) 0 10 [(Fld.mk 8 8 9 (-1) (-1) 0 0 []), (Fld.mk 7 10 (-1) (-1) (-1) 0 0 []), (Fld.mk 11 0 (-1) (-1) (-1) 0 3 [])])]) (i := 3) (show [(Fld.mk 8 0 (-1) (-1) (-1) 0 0 []), (Fld.mk 8 9 (-1) 9 (-1) 0 0 []), (Fld.mk 3 9 (-1) (-1) (-1) (-1) 0 []), (Fld.mk 11 0 (-1) (-1) (-1) 0 10 [(Fld.mk 8 8 9 (-1) (-1) 0 0 []), (Fld.mk 7 10 (-1) (-1) (-1) 0 0 []), (Fld.mk 11 0 (-1) (-1) (-1) 0 3 [])])][3]? = _ from rfl)
    have el206 : ∀ y205 : Tree, (fun Ek20 : Tree => (if ((if (decide (v ≥ 8)) = true then decide (v ≤ 9) else false)) = true then if (decide (v ≥ 6)) = true then (uv ((Ek20.at_ 0).S.length + 1) ++ (Ek20.at_ 0).S) else (be 2 (Ek20.at_ 0).S.length ++ (Ek20.at_ 0).S) else []) ++ ((if (decide (v ≥ 10)) = true then (sixteenB (Ek20.at_ 1).S) else []) ++ (((if (decide (v ≥ 6)) = true then (uv ((lst (Ek20.at_ 2)).length + 1)) else (be 4 (lst (Ek20.at_ 2)).length)) ++ ((lst (Ek20.at_ 2)).flatMap fun Ek26 => be 4 ((IntKind.i32.wrap Ek26.N)))) ++ (if (decide (v ≥ 6)) = true then (uv Ek20.U.length) ++ (tagsR Ek20.U) else [])))) (fitted0 (fitT v 6) (Fld.mk 10 0 (-1) (-1) (-1) 0 10 [(Fld.mk 8 8 9 (-1) (-1) 0 0 []), (Fld.mk 7 10 (-1) (-1) (-1) 0 0 []), (Fld.mk 11 0 (-1) (-1) (-1) 0 3 [])]) (Fld.nul (Fld.mk 10 0 (-1) (-1) (-1) 0 10 [(Fld.mk 8 8 9 (-1) (-1) 0 0 []), (Fld.mk 7 10 (-1) (-1) (-1) 0 0 []), (Fld.mk 11 0 (-1) (-1) (-1) 0 3 [])]) v y205) y205) = partB 6 [(Fld.mk 8 8 9 (-1) (-1) 0 0 []), (Fld.mk 7 10 (-1) (-1) (-1) 0 0 []), (Fld.mk 11 0 (-1) (-1) (-1) 0 3 [])] v (decide (v ≥ 6)) y205 := by
      intro y205
      dsimp only
      obtain ⟨g2071, g2072⟩ := fit_10 (v := v) (d := 6) (x1 := 0) (x2 := -1) (x5 := 0) (x6 := 10) (s := [(Fld.mk 8 8 9 (-1) (-1) 0 0 []), (Fld.mk 7 10 (-1) (-1) (-1) 0 0 []), (Fld.mk 11 0 (-1) (-1) (-1) 0 3 [])]) (b := Fld.nul (Fld.mk 10 0 (-1) (-1) (-1) 0 10 [(Fld.mk 8 8 9 (-1) (-1) 0 0 []), (Fld.mk 7 10 (-1) (-1) (-1) 0 0 []), (Fld.mk 11 0 (-1) (-1) (-1) 0 3 [])]) v y205) (x := y205)
      simp only [g2071, g2072]
      have f208 := fit_t (v := v) (d := 5) (t := y205) (l := [(Fld.mk 8 8 9 (-1) (-1) 0 0 []), (Fld.mk 7 10 (-1) (-1) (-1) 0 0 []), (Fld.mk 11 0 (-1) (-1) (-1) 0 3 [])]) (i := 0) (show [(Fld.mk 8 8 9 (-1) (-1) 0 0 []), (Fld.mk 7 10 (-1) (-1) (-1) 0 0 []), (Fld.mk 11 0 (-1) (-1) (-1) 0 3 [])][0]? = _ from rfl) (by decide)
      have f209 : ((fitT v 6 [(Fld.mk 8 8 9 (-1) (-1) 0 0 []), (Fld.mk 7 10 (-1) (-1) (-1) 0 0 []), (Fld.mk 11 0 (-1) (-1) (-1) 0 3 [])] y205).at_ 1).S = (y205.at_ 1).S := fit_S7 (d := 5) (show [(Fld.mk 8 8 9 (-1) (-1) 0 0 []), (Fld.mk 7 10 (-1) (-1) (-1) 0 0 []), (Fld.mk 11 0 (-1) (-1) (-1) 0 3 [])][1]? = _ from rfl) (by decide)
      obtain ⟨f210n, f210⟩ := fit_11 (v := v) (d := 5) (t := y205) (l := [(Fld.mk 8 8 9 (-1) (-1) 0 0 []), (Fld.mk 7 10 (-1) (-1) (-1) 0 0 []), (Fld.mk 11 0 (-1) (-1) (-1) 0 3 [])]) (i := 2) (show [(Fld.mk 8 8 9 (-1) (-1) 0 0 []), (Fld.mk 7 10 (-1) (-1) (-1) 0 0 []), (Fld.mk 11 0 (-1) (-1) (-1) 0 3 [])][2]? = _ from rfl)
      have el212 : ∀ y211 : Tree, (fun Ek26 : Tree => be 4 ((IntKind.i32.wrap Ek26.N))) (fitted0 (fitT v 5) (Fld.mk 3 0 (-1) (-1) (-1) 0 3 []) (Fld.nul (Fld.mk 3 0 (-1) (-1) (-1) 0 3 []) v y211) y211) = be 4 y211.N := by
        intro y211
        dsimp only
        cases y211; simp [fitted0, Fld.kind, Tree.N, be4_i32', be2_i16, be8_i64, be1_i8]
      simp only [fit_U, tagsR_whole, wholeU_len, List.flatMap_map, List.length_map, f208, f209, f210n, f210]
      simp only [el212]
      try simp only [be4_i32', be2_i16, be8_i64, be1_i8, be2_wrap, sixteenB_uuid, bool8]
      by_cases c0 : v ≤ 7 <;> by_cases c1 : v ≤ 9 <;> by_cases c2 : v ≥ 2 <;> by_cases c3 : v ≥ 6 <;> by_cases c4 : v ≥ 7 <;> by_cases c5 : v ≥ 8 <;> by_cases c6 : v ≥ 9 <;> by_cases c7 : v ≥ 10 <;> first | (exfalso; omega) | simp [partB, partW, bodyB, Fld.tag, Fld.has, fieldB, Fld.kind, Fld.null, Fld.of, Fld.sub, valueB, widthI, tagsN, tagsK, knownI, countedB, uv0, nul_no, c0, c1, c2, c3, c4, c5, c6, c7, h0]
    simp only [fit_U, tagsR_whole, wholeU_len, List.flatMap_map, List.length_map, f201, f202.1, f202.2, f203, f204n, f204]
    simp only [el206]
    try simp only [be4_i32', be2_i16, be8_i64, be1_i8, be2_wrap, sixteenB_uuid, bool8]
    by_cases c0 : v ≤ 7 <;> by_cases c1 : v ≤ 9 <;> by_cases c2 : v ≥ 2 <;> by_cases c3 : v ≥ 6 <;> by_cases c4 : v ≥ 7 <;> by_cases c5 : v ≥ 8 <;> by_cases c6 : v ≥ 9 <;> by_cases c7 : v ≥ 10 <;> by_cases n0 : Fld.nul (Fld.mk 8 9 (-1) 9 (-1) 0 0 []) v (y198.at_ 1) = true <;> (try have m0 := nul_ge n0) <;> first | (exfalso; omega) | simp [partB, partW, bodyB, Fld.tag, Fld.has, fieldB, Fld.kind, Fld.null, Fld.of, Fld.sub, valueB, widthI, tagsN, tagsK, knownI, countedB, uv0, nul_no, c0, c1, c2, c3, c4, c5, c6, c7, n0, h0]
  unfold tOffsetFetchRequest
  simp only [fit_U, tagsR_whole, wholeU_len, List.flatMap_map, List.length_map, f187, f188n, f188, f189n, f189, f190]
  simp only [el192, el199]
  try simp only [be4_i32', be2_i16, be8_i64, be1_i8, be2_wrap, sixteenB_uuid, bool8]
  by_cases c0 : v ≤ 7 <;> by_cases c1 : v ≤ 9 <;> by_cases c2 : v ≥ 2 <;> by_cases c3 : v ≥ 6 <;> by_cases c4 : v ≥ 7 <;> by_cases c5 : v ≥ 8 <;> by_cases c6 : v ≥ 9 <;> by_cases c7 : v ≥ 10 <;> by_cases n0 : Fld.nul (Fld.mk 11 0 7 2 (-1) 0 10 [(Fld.mk 8 0 (-1) (-1) (-1) 0 0 []), (Fld.mk 11 0 (-1) (-1) (-1) 0 3 [])]) v (t.at_ 1) = true <;> (try have m0 := nul_ge n0) <;> first | (exfalso; omega) | simp [writeB, sOffsetFetchRequestX, sOffsetFetchRequestF, partB, partW, bodyB, Fld.tag, Fld.has, fieldB, Fld.kind, Fld.null, Fld.of, Fld.sub, valueB, widthI, tagsN, tagsK, knownI, countedB, uv0, nul_no, c0, c1, c2, c3, c4, c5, c6, c7, n0, h0]

end Go.Proofs.YtbjopfcbpobnpaaGreat.ME

/- Things of a message in a row that is being laid. Own work. -/
namespace Go.Proofs.YtbjopfcbpobnpaaGreat.ME
open Go
set_option linter.unusedVariables false
set_option linter.unusedSimpArgs false

def dv0 : DV := .leaf
/-- data in a row: its cells one behind the other, each as it must lie, each against its tree -/
structure Row_ (size : Nat) (cells : DV → List Value) (ok : DV → Prop) (rel : DV → Tree → Prop) (xs : List Value) (ds : List DV) (ts : List Tree) : Prop where
  flat : Flat size xs (ds.map cells)
  each : ∀ d ∈ ds, ok d
  len : ds.length = ts.length
  rel_ : ∀ (i : Nat) (d : DV) (t : Tree), ds[i]? = some d → ts[i]? = some t → rel d t
theorem Row_.nil {size : Nat} {cells : DV → List Value} {ok : DV → Prop} {rel : DV → Tree → Prop} : Row_ size cells ok rel [] [] [] :=
  ⟨Flat.nil size, (fun _ h => by cases h), rfl, fun i d t h => by simp at h⟩
theorem Row_.mono {size : Nat} {cells : DV → List Value} {ok ok' : DV → Prop} {rel : DV → Tree → Prop} {xs : List Value} {ds : List DV} {ts : List Tree} (h : Row_ size cells ok rel xs ds ts) (hk : ∀ d, ok d → ok' d) : Row_ size cells ok' rel xs ds ts :=
  ⟨h.flat, fun d hd => hk d (h.each d hd), h.len, h.rel_⟩
theorem Row_.snoc {size : Nat} {cells : DV → List Value} {ok : DV → Prop} {rel : DV → Tree → Prop} {xs : List Value} {ds : List DV} {ts : List Tree} (h : Row_ size cells ok rel xs ds ts) {d : DV} {t : Tree} (hc : (cells d).length = size) (ho : ok d) (hr : rel d t) :
    Row_ size cells ok rel (xs ++ cells d) (ds ++ [d]) (ts ++ [t]) := by
  refine ⟨?_, fun d' hd => ?_, by simp [h.len], fun i d' t' h1 h2 => ?_⟩
  · rw [List.map_append, List.map_cons, List.map_nil]
    exact h.flat.snoc hc
  · rcases List.mem_append.1 hd with hd | hd
    · exact h.each d' hd
    · rw [List.mem_singleton.1 hd]; exact ho
  · have hl := h.len
    rcases get_snoc h1 with h1 | ⟨h1, rfl⟩
    · rcases get_snoc h2 with h2 | ⟨h2, _⟩
      · exact h.rel_ i d' t' h1 h2
      · have := (List.getElem?_eq_some_iff.1 h1).1; omega
    · rcases get_snoc h2 with h2 | ⟨_, rfl⟩
      · have := (List.getElem?_eq_some_iff.1 h2).1; omega
      · exact hr
theorem Row_.slots {w : World} {e size c n : Nat} {A : Option Addr} {cells : DV → List Value} {ok : DV → Prop} {rel : DV → Tree → Prop} {xs : List Value} {ds : List DV} {ts : List Tree} (h : Row_ size cells ok rel xs ds ts) (ho : w.ownsRow 0 e size (.slice A n c) n xs) (hn : n = ts.length) (h1 : ∀ d, ∀ u ∈ cells d, u.oneCell' = true) (hsm : ts.length ≤ 1099511627776) {F : Nat → Nat → Prop} (hF : ∀ g, A.map (·.block) = some g → ∀ o, F g o) :
    Slots w F size A c n (fun i => cells (ds.getD i dv0)) ∧ (∀ i, i < n → ok (ds.getD i dv0)) ∧ ∀ i, i < n → rel (ds.getD i dv0) (ts.getD i .zero) := by
  have hl := h.len
  have hnd : n = ds.length := by omega
  subst hnd
  have hcl : (ds.map cells).length = ds.length := List.length_map ..
  have hs := h.flat.slots (A := A) (c := c) (F := F) (by rw [hcl]; exact ho) (fun u hu => by
    rw [h.flat.eq] at hu
    obtain ⟨cs, hcs, hu⟩ := List.mem_flatten.1 hu
    obtain ⟨d, _, rfl⟩ := List.mem_map.1 hcs
    exact h1 d u hu) (by rw [hcl]; omega) hF
  rw [hcl] at hs
  have hg : ∀ i, i < ds.length → (ds.map cells).getD i [] = cells (ds.getD i dv0) := fun i hi => by
    rw [List.getD_eq_getElem?_getD, List.getElem?_map, List.getD_eq_getElem?_getD, List.getElem?_eq_getElem hi]; rfl
  refine ⟨⟨hs.le, hs.small, hs.none_, fun ad hA h0 => ?_⟩, fun i hi => ?_, fun i hi => ?_⟩
  · obtain ⟨b, o, h2, h3⟩ := hs.some_ ad hA h0
    exact ⟨b, o, h2, fun i hi => by have := h3 i hi; rw [hg i hi] at this; exact this⟩
  · rw [List.getD_eq_getElem?_getD, List.getElem?_eq_getElem hi]
    exact h.each _ (List.getElem_mem hi)
  · have hi' : i < ts.length := by omega
    refine h.rel_ i _ _ ?_ ?_
    · rw [List.getD_eq_getElem?_getD, List.getElem?_eq_getElem hi]; rfl
    · rw [List.getD_eq_getElem?_getD, List.getElem?_eq_getElem hi']; rfl

end Go.Proofs.YtbjopfcbpobnpaaGreat.ME

/- Lists of a message, laid anew: data against trees. Own work. -/
namespace Go.Proofs.YtbjopfcbpobnpaaGreat.ME
open Go
open Go.RowKit
set_option linter.unusedVariables false
set_option linter.unusedSimpArgs false

/-- what is known of data stays known where nothing of it is written -/
def Moves (ok : World → (Nat → Nat → Prop) → DV → Prop) : Prop := ∀ {w w' : World} {F F' M : Nat → Nat → Prop} (d : DV), Step w w' M → (∀ b o, F b o → b < w.heap.size → ¬ M b o) → (∀ b o, F b o → b < w.heap.size → F' b o) → ok w F d → ok w' F' d
def okNone (_ : World) (_ : Nat → Nat → Prop) (_ : DV) : Prop := True
theorem mvNone : Moves okNone := fun _ _ _ _ _ => trivial
/-- things in a row that is being laid -/
structure RowL (w : World) (F : Nat → Nat → Prop) (size : Nat) (cells : DV → List Value) (ok : World → (Nat → Nat → Prop) → DV → Prop) (rel : DV → Tree → Prop) (xs : List Value) (ds : List DV) (ts : List Tree) : Prop where
  mv : Moves ok
  row : Row_ size cells (ok w F) rel xs ds ts
/-- a list, laid -/
structure LstR (w : World) (F : Nat → Nat → Prop) (size : Nat) (cells : DV → List Value) (ok : World → (Nat → Nat → Prop) → DV → Prop) (rel : DV → Tree → Prop) (A : Option Addr) (c : Nat) (f : Nat → DV) (ts : List Tree) : Prop where
  mv : Moves ok
  slots : Slots w F size A c ts.length (fun i => cells (f i))
  each : ∀ i, i < ts.length → ok w F (f i)
  rel_ : ∀ i, i < ts.length → rel (f i) (ts.getD i .zero)
section
variable {w w' w0 : World} {F F' M : Nat → Nat → Prop} {size : Nat} {cells : DV → List Value} {ok : World → (Nat → Nat → Prop) → DV → Prop} {rel : DV → Tree → Prop} {xs : List Value} {ds : List DV} {ts : List Tree} {A : Option Addr} {c : Nat} {f : Nat → DV} {tb : Tb} {rs rs' : List Rw}
theorem RowL.move (h : RowL w F size cells ok rel xs ds ts) (hs : Step w w' M) (hM : ∀ b o, F b o → b < w.heap.size → ¬ M b o) (hF : ∀ b o, F b o → b < w.heap.size → F' b o) : RowL w' F' size cells ok rel xs ds ts :=
  ⟨h.mv, h.row.mono fun d hd => h.mv d hs hM hF hd⟩
theorem RowL.nil (mv : Moves ok) : RowL w F size cells ok rel [] [] [] := ⟨mv, Row_.nil⟩
theorem RowL.snoc {l : List Tree} {k : Nat} {t : Tree} {d : DV} (h : RowL w F size cells ok rel xs ds (l.take k)) (hk : l[k]? = some t) (hc : (cells d).length = size) (ho : ok w F d) (hr : rel d t) : RowL w F size cells ok rel (xs ++ cells d) (ds ++ [d]) (l.take (k + 1)) := by
  rw [take_succ_of hk]
  exact ⟨h.mv, h.row.snoc hc ho hr⟩
theorem LstR.move (h : LstR w F size cells ok rel A c f ts) (hs : Step w w' M) (hM : ∀ b o, F b o → b < w.heap.size → ¬ M b o) (hF : ∀ b o, F b o → b < w.heap.size → F' b o) : LstR w' F' size cells ok rel A c f ts :=
  ⟨h.mv, h.slots.move hs hM hF, fun i hi => h.mv _ hs hM hF (h.each i hi), h.rel_⟩
theorem LstR.nil (mv : Moves ok) : LstR w F size cells ok rel none 0 (fun _ => dv0) [] :=
  ⟨mv, Slots.nil _ _ _ _, fun i hi => by simp at hi, fun i hi => by simp at hi⟩
/-- the row is full: it is not written any more -/
theorem LstR.of {e n k : Nat} {G : Nat → Nat → Prop} (hW : WOk w0 Nil w tb rs) (hk : rs[k]? = some ⟨A, c, e, size, n, xs⟩) (h : RowL w (Imm G w0 w tb rs) size cells ok rel xs ds (ts.take n)) (hn : n = ts.length) (h1 : ∀ d, ∀ u ∈ cells d, u.oneCell' = true) (hsm : ts.length ≤ 1099511627776) (hr : rs.take k = rs' := by rfl) :
    LstR w (Imm G w0 w tb rs') size cells ok rel A c (fun i => ds.getD i dv0) ts := by
  subst hr
  rw [hn, List.take_length] at h
  have hI : ∀ b o, Imm G w0 w tb rs b o → b < w.heap.size → Imm G w0 w tb (rs.take k) b o := fun b o hi hb => by
    refine ⟨hi.1, hi.2.1, fun ha => hi.2.2 ?_⟩
    rcases ha with ha | ⟨i, r, h2, h3⟩
    · exact .inl ha
    · rw [List.getElem?_take] at h2
      split at h2
      · exact .inr ⟨i, r, h2, h3⟩
      · cases h2
  have h' := h.move (Step.refl w Nil) nilM hI
  obtain ⟨g1, g2, g3⟩ := h'.row.slots (hW.own k _ hk) hn h1 hsm (F := Imm G w0 w tb (rs.take k)) (fun g hg o => by
    have hb := own_live (hW.own k _ hk) (r := ⟨A, c, e, size, n, xs⟩) hg
    refine ⟨?_, hb, fun ha => ?_⟩
    · rcases hW.ownM k _ hk g hg with h2 | h2
      · exact .inr h2
      · exact (h2 0).elim
    · rcases ha with ⟨i, ob, h2, _, h3, _⟩ | ⟨i, r, h2, h3⟩
      · exact hW.rtb k _ hk g hg i ob h2 h3
      · rw [List.getElem?_take] at h2
        split at h2
        · rename_i hlt
          exact hW.rr k i _ r (by omega) hk h2 g hg h3
        · cases h2)
  rw [hn] at g1 g2 g3
  exact ⟨h'.mv, g1, g2, g3⟩
end
theorem lst_of {t : Tree} (h : t.null = false) : lst t = t.L := by unfold lst; rw [h]; rfl
theorem lst_no {t : Tree} (h : t.null = true) : lst t = [] := by unfold lst; rw [h]; rfl
/-- two ways that come together again -/
theorem wp_join {P : Program} {c : Code} {Mid N : Act → World → Prop} {Q : Exit → Act → World → Prop} {a : Act} {w : World} (h1 : c.wp P (Exit.then Mid Q) a w) (h2 : ∀ a' w', Mid a' w' → N a' w') : c.wp P (Exit.then N Q) a w :=
  wp_mono h1 fun e a' w' h => by
    cases e <;> first | exact h2 a' w' h | exact h
/-- a number as a datum -/
def dvN (n : Int) : DV := .mk n false ByteArray.empty [] none 0 0 none [] (fun _ => .leaf)
def dvB (b : Bool) : DV := .mk 0 b ByteArray.empty [] none 0 0 none [] (fun _ => .leaf)
def dvS (s : ByteArray) : DV := .mk 0 false s [] none 0 0 none [] (fun _ => .leaf)
def dvT (A : Option Addr) (s : ByteArray) : DV := .mk 0 false s [] A 0 0 none [] (fun _ => .leaf)
def dvO (A : Option Addr) (o : Bs) (c : Nat) : DV := .mk 0 false ByteArray.empty o A 0 c none [] (fun _ => .leaf)
def dvL (A : Option Addr) (l c : Nat) (f : Nat → DV) : DV := .mk 0 false ByteArray.empty [] A l c none [] f
def dvP (m : Option Nat) (u : List (Int × Bs)) (fs : List DV) : DV := .mk 0 false ByteArray.empty [] none 0 0 m u (fun i => fs.getD i .leaf)

/-- behind the setting of tags: the table and the frame -/
theorem TL.tab {w wL w1 : World} {F : Nat → Nat → Prop} {p off : Nat} {cs0 : List Value} {m : Option Nat} {u : List (Int × Bs)} {tb : Tb} {rs : List Rw} (h : TL w wL w1 F p off cs0 m u) (hW : WOk w Nil wL tb rs) (i : Nat) (tb' : Tb) (hi : tb[i]? = some ⟨p, 0, cs0, true⟩) (ht : tb.set i ⟨p, 0, cs0.set off (.map m), true⟩ = tb' := by rfl) (ho : Nat.blt off cs0.length = true := by kernel_rfl) :
    WOk w Nil w1 tb' rs ∧ Fr wL tb rs w1 tb' rs := by
  subst ht
  have ho' : off < cs0.length := by simpa [Nat.blt_eq] using ho
  have hil : i < tb.length := (List.getElem?_eq_some_iff.1 hi).1
  have key : ∀ (j : Nat) (o : Ob), (tb.set i ⟨p, 0, cs0.set off (.map m), true⟩)[j]? = some o → (j = i ∧ o = ⟨p, 0, cs0.set off (.map m), true⟩) ∨ (j ≠ i ∧ tb[j]? = some o) := fun j o hj => by
    rcases set_get hj with ⟨h1, h2, _⟩ | ⟨h1, h2⟩
    · exact .inl ⟨h1, h2⟩
    · exact .inr ⟨h1, h2⟩
  have far : ∀ (j : Nat) (o : Ob), j ≠ i → tb[j]? = some o → ∀ q, q < o.cells.length → ¬ (o.blk = p ∧ o.off + q = off) := fun j o hne hj q hq e => by
    rcases hW.apart j i o _ hne hj hi (.inr rfl) with h1 | h1 | h1
    · exact h1 e.1
    · simp only [Nat.le_zero] at h1; omega
    · simp only [Nat.zero_add] at h1; omega
  have act : ∀ b o, Act_ (tb.set i ⟨p, 0, cs0.set off (.map m), true⟩) rs b o → Act_ tb rs b o := fun b o ha => by
    rcases ha with ⟨j, ob, hj, h1, h2, h3, h4⟩ | ha
    · rcases key j ob hj with ⟨rfl, rfl⟩ | ⟨_, hj⟩
      · exact .inl ⟨j, _, hi, rfl, h2, h3, by simpa using h4⟩
      · exact .inl ⟨j, ob, hj, h1, h2, h3, h4⟩
    · exact .inr ha
  refine ⟨⟨h.step, ?_, ?_, ?_, ?_, ?_, hW.ownM, ?_, hW.rr⟩, ⟨fun b o _ hn ha => hn (act b o ha), h.keep.mono fun b o _ e => .inl ⟨i, _, hi, rfl, e.1.symm, Nat.zero_le _, by simpa [e.2] using ho'⟩⟩⟩
  · intro j o hj q v hv
    rcases key j o hj with ⟨rfl, rfl⟩ | ⟨hne, hj⟩
    · dsimp only
      rw [Nat.zero_add]
      exact h.str.at_ q v hv
    · exact h.keep.cell (far j o hne hj q (List.getElem?_eq_some_iff.1 hv).1) (hW.cells j o hj q v hv)
  · intro j o hj
    rcases key j o hj with ⟨rfl, rfl⟩ | ⟨_, hj⟩
    · have h1 := hW.live j _ hi
      exact Nat.lt_of_lt_of_le h1 h.keep.size
    · exact Nat.lt_of_lt_of_le (hW.live j o hj) h.keep.size
  · intro j o hj hr q hq
    rcases key j o hj with ⟨rfl, rfl⟩ | ⟨hne, hj⟩
    · dsimp only at hq ⊢
      refine ⟨(hW.rw_ j _ hi rfl q (by simpa using hq)).1, ?_⟩
      rw [Nat.zero_add]
      exact h.str.frz q hq
    · obtain ⟨h1, h2⟩ := hW.rw_ j o hj hr q hq
      exact ⟨h1, h.keep.frozen (far j o hne hj q hq) (hW.cells j o hj q _ (List.getElem?_eq_getElem hq)) h2⟩
  · intro j k o o' hjk hj hk hw
    rcases key j o hj with ⟨rfl, rfl⟩ | ⟨hne, hj'⟩
    · rcases key k o' hk with ⟨rfl, rfl⟩ | ⟨hne', hk'⟩
      · exact absurd rfl hjk
      · have := hW.apart j k _ o' hjk hi hk' (.inl rfl)
        simpa using this
    · rcases key k o' hk with ⟨rfl, rfl⟩ | ⟨hne', hk'⟩
      · have := hW.apart j k o _ hjk hj' hi (.inr rfl)
        simpa using this
      · exact hW.apart j k o o' hjk hj' hk' hw
  · intro j r hj
    refine own_keep (hW.own j r hj) fun g hg => (h.keep.keeps g (own_live (hW.own j r hj) hg)).1 fun o e => ?_
    exact hW.rtb j r hj g hg i _ hi e.1.symm
  · intro j r hj g hg k o hk
    rcases key k o hk with ⟨rfl, rfl⟩ | ⟨_, hk⟩
    · have h1 := hW.rtb j r hj g hg k _ hi
      exact h1
    · exact hW.rtb j r hj g hg k o hk
/-- the tags that have been set, as the call's own that is not written any more -/
theorem TL.mapImm {w wL w1 : World} {F : Nat → Nat → Prop} {p off : Nat} {cs0 : List Value} {m : Option Nat} {u : List (Int × Bs)} {tb tb' : Tb} {rs : List Rw} (h : TL w wL w1 F p off cs0 m u) (hW : WOk w Nil wL tb rs) (hW' : WOk w Nil w1 tb' rs) (hf : Fr wL tb rs w1 tb' rs) (hs : Sorted u) (hr : ∀ x ∈ u, 0 ≤ x.1 ∧ x.1 < 4294967296) (hl : tb'.map (·.blk) = tb.map (·.blk) := by rfl) : MapR w1 (Imm F w w1 tb' rs) m u := by
  have blk : ∀ b o, Act_ tb' rs b o → w.heap.size ≤ b ∧ b < wL.heap.size := fun b o ha => by
    rcases ha with ⟨j, ob, hj, h1, rfl, h3, h4⟩ | ⟨j, r, hj, hb⟩
    · have hm : (tb'.map (·.blk))[j]? = some ob.blk := by rw [List.getElem?_map, hj]; rfl
      rw [hl, List.getElem?_map] at hm
      obtain ⟨ob', hk, e⟩ := Option.map_eq_some_iff.1 hm
      refine ⟨?_, by rw [← e]; exact hW.live j ob' hk⟩
      rcases (hW'.rw_ j ob hj h1 (o - ob.off) (by omega)).1 with h5 | h5
      · exact h5
      · exact h5.elim
    · refine ⟨?_, own_live (hW.own j r hj) hb⟩
      rcases hW.ownM j r hj b hb with h5 | h5
      · exact h5
      · exact (h5 0).elim
  have hb := h.big
  refine h.own.map (fun b o h1 => ⟨.inl h1.1, Nat.lt_of_lt_of_le h1.2 h.step.size, fun ha => ?_⟩) (fun r o e => ?_) hs hr
  · have := blk b o ha; have := h1.2; omega
  · have h1 := h.new r e
    obtain ⟨es, clk, h2, _⟩ := h.own.some_ r e
    refine ⟨.inr (Nat.le_trans hb h1), (Array.getElem?_eq_some_iff.1 h2).1, fun ha => ?_⟩
    have := blk r o ha; omega
theorem own_some {w0 w : World} {M : Nat → Nat → Prop} {tb : Tb} {rs : List Rw} {k e size n c : Nat} {A : Option Addr} {xs : List Value} (hW : WOk w0 M w tb rs) (hk : rs[k]? = some ⟨A, c, e, size, n, xs⟩) (hn : 0 < n) : A.isNone = false := by
  cases A with
  | some _ => rfl
  | none =>
    rcases (hW.own k _ hk).2 with ⟨_, h⟩ | ⟨_, _, _, hv, _⟩
    · have h' : n = 0 := h
      omega
    · cases hv
/-- slots that hold addresses, in a table -/
theorem EnvOk.retable {n : Nat} {env : Env} {a : Act} (tb : Tb) (h : EnvOk n [] env a) : EnvOk n tb env a := h.table fun i hi => absurd hi (Nat.not_lt_zero i)

end Go.Proofs.YtbjopfcbpobnpaaGreat.ME

/- Printed by tools/mk.py. Own work. -/
namespace Go.Proofs.YtbjopfcbpobnpaaGreat.ME
open Go
open Go.RowKit
set_option linter.unusedVariables false
set_option linter.unusedSimpArgs false
set_option maxRecDepth 20000

theorem kSixteen (A : Option Addr) (c : Nat) (s : Bs) (w : World) (F : Nat → Nat → Prop) (hs : Octs w F A c s) : Calls Tryz.prog 137 #[.slice A s.length c] w (Gives w (.agg ((List.range 16).map fun i => byteCell (s.getD i 0)).toArray)) := by
  refine enter (n := 7) (vs := [.slice A s.length c]) Tryz.func137 rfl Tryz.ntmps137 (by kernel_rfl) fun a hE => ?_
  have hW := WOk.start w Nil
  refine go_seq_region [0] (by kernel_rfl) ?_
  refine of_op (wpOp_alloc2 hE (d := 2) (cs := ((List.range 16).map fun _ => byteCell 0)) (by kernel_rfl) fun t' a1 hE1 => wpOps_nil (then_normal ?_))
  have hW1 := hW.alloc ((List.range 16).map fun _ => byteCell 0) t'
  have hE2 := (hE1.grow ⟨w.heap.size, 0, ((List.range 16).map fun _ => byteCell 0), true⟩).recast 2 (.v (.pointer (some ⟨w.heap.size, 0, none⟩))) (.p 0 0) rfl rfl (by simp [SV.ok])
  refine go_seq_region [0, 1, 2] (by kernel_rfl) ?_
  refine go_runs [0, 1] [2] [2, 3, 4] hW1 hE2 (env' := [(2, .p 0 0), (3, .v (.slice (some ⟨w.heap.size, 0, none⟩) 16 16)), (4, .v (.slice A s.length c))]) (by kernel_rfl) rfl fun a2 hE3 => ?_
  refine of_op (wpOp_copy16 hE3 (t := 22) (u := 22) (e := 5) (bytes := 1) (b := w.heap.size) (d := 5) (by kernel_rfl) (by kernel_rfl) (heap_new _ _) rfl (hs.move (Step.alloc w _) nilM keepF) fun a3 w2 hst hat hfz hE4 => wpOps_nil (then_normal ?_))
  obtain ⟨v, hE4⟩ := hE4
  have hst2 : Step w w2 Nil := (Step.alloc w _).trans hst fun b' o hl h => by omega
  have hW2 := hat.wok hst2 hfz (Nat.le_refl _) (by kernel_rfl)
  have hE5 : EnvOk 7 [⟨w.heap.size, 0, ((List.range 16).map fun i => byteCell (s.getD i 0)), true⟩] [(2, .p 0 0)] a3 := (hE4.pick (ks := [2]) (env' := [(2, .p 0 0)]) (by kernel_rfl)).places ⟨rfl, rfl, trivial⟩
  refine go_seq_region [0, 1] (by kernel_rfl) ?_
  refine go_runs [0] [1] [2, 6] hW2 hE5 (env' := [(2, .p 0 0), (6, .v (.agg ((List.range 16).map fun i => byteCell (s.getD i 0)).toArray))]) (by kernel_rfl) rfl fun a4 hE6 => ?_
  refine of_op (wpOp_store hW2 hE6 (oi := 0) (cs := ((List.range 16).map fun i => byteCell (s.getD i 0))) (by kernel_rfl) fun w3 hF3 hW3 hE7 => wpOps_nil (then_normal (wp_ret ?_)))
  exact leave hE7 hW3.cells (v := .agg ((List.range 16).map fun i => byteCell (s.getD i 0)).toArray) (by kernel_rfl) ⟨rfl, hW3.step⟩

theorem kTextOf (ct : List Value) (t : Tree) (w : World) (F : Nat → Nat → Prop) (ht : TreeR w F ct t) : Calls Tryz.prog 97 #[.agg ct.toArray] w (fun e w' => ∃ A, e = .returned (.pointer A) ∧ (∀ ad, A = some ad → ∃ b o, ad = ⟨b, o, none⟩ ∧ AtF w' (Fp F w) b o [.string (bs (octOf t))]) ∧ A.isNone = t.null ∧ Step w w' Nil) := by
  obtain ⟨n, s, b, l, u, A1, c1, A2, c2, A3, c3, xs, rfl, rfl, h1, h2, h3, h4⟩ := ht.open_
  have hsm := h1.small
  refine enter (n := 9) (vs := [.agg #[.int .i64 n, .slice A1 s.length c1, .bool b, .slice A2 l.length c2, .slice A3 u.length c3]]) Tryz.func97 rfl Tryz.ntmps97 (by kernel_rfl) fun a hE => ?_
  have hW := WOk.start w Nil
  refine go_seq_region [0, 1] (by kernel_rfl) ?_
  refine of_op (wpOp_box hW hE (d := 1) (cs := [.int .i64 n, .slice A1 s.length c1, .bool b, .slice A2 l.length c2, .slice A3 u.length c3]) (by kernel_rfl) fun b1 a1 w1 hb hb0 hF1 hW1 hE1 => ?_)
  refine go_runs [1] [] [1] hW1 hE1 (env' := [(1, .p 0 0)]) (by kernel_rfl) rfl fun a2 hE2 => wpOps_nil (then_normal ?_)
  refine wp_seq (wp_seq ?_)
  refine go_region [0, 1] (by kernel_rfl) (go_runs [0, 1] [] [1, 5] hW1 hE2 (env' := [(1, .p 0 0), (5, .v (.bool b))]) (by kernel_rfl) rfl fun a3 hE3 => wpOps_nil (then_normal ?_))
  refine cond_of hE3 (b := b) (by kernel_rfl) (fun hb => ?_) (fun hb => ?_)
  · subst hb
    refine go_seq_region [0] (by kernel_rfl) (go_runs [0] [] [2] hW1 hE3 (env' := [(2, .v (.pointer none))]) (by kernel_rfl) rfl fun a4 hE4 => wpOps_nil (then_normal (wp_ret (then_ret ?_))))
    exact leave hE4 hW1.cells (v := .pointer none) (by kernel_rfl) ⟨none, rfl, (fun ad h => by cases h), rfl, hW1.step⟩
  · subst hb
    refine wp_skip (then_normal ?_)
    refine go_seq_region [0, 1, 2, 3, 4] (by kernel_rfl) ?_
    refine go_runs [0, 1] [2, 3, 4] [7] hW1 hE3 (env' := [(7, .v (.slice A1 s.length c1))]) (by kernel_rfl) rfl fun a4 hE4 => ?_
    refine of_op (wpOp_conv hE4 (src := 22) (dst := 9) (e := 5) (d := 8) (by kernel_rfl) (by kernel_rfl) (by kernel_rfl) (by kernel_rfl) (h1.move hW1.step nilM keepF) fun a5 hE5 => ?_)
    refine of_op (wpOp_alloc hW1 hE5 (d := 3) (cs := [.string ByteArray.empty]) (by kernel_rfl) fun b2 a6 w2 hb2 hb20 hF2 hW2 hE6 => ?_)
    refine of_op (wpOp_store hW2 hE6 (oi := 1) (cs := [.string (bs s)]) (by kernel_rfl) fun w3 hF3 hW3 hE7 => wpOps_nil (then_normal ?_))
    refine go_seq_region [0] (by kernel_rfl) (go_runs [0] [] [2] hW3 hE7 (env' := [(2, .p 1 0)]) (by kernel_rfl) rfl fun a7 hE8 => wpOps_nil (then_normal (wp_ret ?_)))
    refine leave hE8 hW3.cells (v := .pointer (some ⟨b2, 0, none⟩)) (by kernel_rfl) ⟨some ⟨b2, 0, none⟩, rfl, fun ad h => ?_, rfl, hW3.step⟩
    obtain rfl := Option.some.inj h
    exact ⟨b2, 0, rfl, fun j v hj => ⟨.inr hb20, hW3.cells 1 _ rfl j v hj⟩⟩

end Go.Proofs.YtbjopfcbpobnpaaGreat.ME

/- Contracts: printed by tools/sp.py. Own work. -/
namespace Go.Proofs.YtbjopfcbpobnpaaGreat.ME
open Go
set_option linter.unusedVariables false
set_option linter.unusedSimpArgs false
set_option maxRecDepth 20000

theorem lFits3 (k : Int) (A : Option Addr) (m c : Nat) (w : World) : Calls Tryz.prog 69 #[.agg #[.int .u32 k, .slice A m c]] w (GivesB w) := by
  refine enter (n := 7) Tryz.func69 rfl Tryz.ntmps69 (by kernel_rfl) fun a hE => ?_
  have hW := WOk.start w Nil
  refine go_seq_region [0, 1] (by kernel_rfl) ?_
  refine of_op (wpOp_box hW hE (d := 1) (cs := [.int .u32 k, .slice A m c]) (by kernel_rfl) fun b1 a2 w3 hb4 hz5 hF6 hW7 hE8 => ?_)
  clear hE hW
  refine go_rn [1] [] [(1, .p 0 0)] hW7 hE8 fun a9 hE10 => ?_
  clear hE8
  refine wpOps_nil ?_
  refine then_normal ?_
  refine wp_seq ?_
  refine go_sp [(6, .v (.bool (decide (((m : Nat) : Int) > 2147483647))))] hW7 hE10 fun a11 hE12 => ?_
  clear hE10
  refine cond_of hE12 (b := decide (((m : Nat) : Int) > 2147483647)) (by kernel_rfl) (fun hc13 => ?_) (fun hc13 => ?_)
  ·
    have hf14 := of_decide_eq_true hc13
    refine go_sp [(2, .v (.bool false))] hW7 hE12 fun a15 hE16 => ?_
    clear hE12
    refine wp_ret ?_
    refine then_ret ?_
    refine leave hE16 hW7.cells (v := .bool false) (by kernel_rfl) ?_
    exact ⟨_, rfl, hW7.step⟩
  ·
    have hf17 := of_decide_eq_false hc13
    refine wp_skip ?_
    refine then_normal ?_
    refine go_sp [(2, .v (.bool true))] hW7 hE12 fun a18 hE19 => ?_
    clear hE12
    refine wp_ret ?_
    refine leave hE19 hW7.cells (v := .bool true) (by kernel_rfl) ?_
    exact ⟨_, rfl, hW7.step⟩

theorem lFits2 (A : Option Addr) (c : Nat) (u : List (Int × Bs)) (w : World) (F : Nat → Nat → Prop) (hu : TagsR w F A c u) : Calls Tryz.prog 29 #[.slice A u.length c] w (GivesB w) := by
  obtain ⟨xu, h1, h2⟩ := hu.ex
  have hsm := h1.small
  refine enter (n := 18) Tryz.func29 rfl Tryz.ntmps29 (by kernel_rfl) fun a hE => ?_
  have hW := WOk.start w Nil
  refine go_sp [(0, .v (.slice A u.length c))] hW hE fun a1 hE2 => ?_
  clear hE
  refine wp_seq ?_
  refine go_sp [(0, .v (.slice A u.length c)), (7, .v (.bool (decide (((u.length : Nat) : Int) > 2147483647))))] hW hE2 fun a3 hE4 => ?_
  clear hE2
  refine cond_of hE4 (b := decide (((u.length : Nat) : Int) > 2147483647)) (by kernel_rfl) (fun hc5 => ?_) (fun hc5 => ?_)
  ·
    have hf6 := of_decide_eq_true hc5
    refine go_sp [(2, .v (.bool false))] hW hE4 fun a7 hE8 => ?_
    clear hE4
    refine wp_ret ?_
    refine then_ret ?_
    refine leave hE8 hW.cells (v := .bool false) (by kernel_rfl) ?_
    exact ⟨_, rfl, hW.step⟩
  ·
    have hf9 := of_decide_eq_false hc5
    refine wp_skip ?_
    refine then_normal ?_
    refine wp_seq ?_
    refine go_sp [(8, .v (.slice A u.length c)), (9, .v (.int .i64 ((u.length : Nat) : Int))), (10, .v (.int .i64 0))] hW hE4 fun a10 hE11 => ?_
    clear hE4
    refine wp_block ?_
    refine wp_loop_ghost (fun n_ a_ w_ => ∃ (k : Nat), n_ = u.length - k ∧ k ≤ u.length ∧ LInv hW 18 [] [] [(8, .v (.slice A u.length c)), (9, .v (.int .i64 ((u.length : Nat) : Int))), (10, .v (.int .i64 ((k : Nat) : Int)))] a_ w_) (u.length) ⟨0, by omega, by omega, hE11.pk, hW, Fr.refl _ _ _⟩ ?_
    clear hE11
    rintro n12 a13 w14 ⟨k, hn17, hk18, hE15, hW16, hF19⟩
    refine go_sp [(8, .v (.slice A u.length c)), (9, .v (.int .i64 ((u.length : Nat) : Int))), (10, .v (.int .i64 ((k : Nat) : Int))), (11, .v (.bool (decide (((k : Nat) : Int) < ((u.length : Nat) : Int)))))] hW16 hE15 fun a20 hE21 => ?_
    clear hE15
    refine wp_seq ?_
    refine cond_of hE21 (b := decide (((k : Nat) : Int) < ((u.length : Nat) : Int))) (by kernel_rfl) (fun hc22 => ?_) (fun hc22 => ?_)
    ·
      have hf23 := of_decide_eq_true hc22
      refine wp_skip ?_
      refine then_normal ?_
      refine wp_seq ?_
      refine wp_block ?_
      refine go_seq_region [0, 1, 2, 3] (by kernel_rfl) ?_
      obtain ⟨b24, o25, hA26, hl27, hat28⟩ := Slots.get h1 (i := k) (by omega)
      obtain ⟨⟨k29, s30⟩, he31⟩ : ∃ x, u[k]? = some x := ⟨_, List.getElem?_eq_getElem (by omega)⟩
      obtain ⟨⟨A32, c33, hcs34, hb35⟩, h36, h37⟩ := h2 k k29 s30 he31
      rw [hcs34] at hat28
      refine of_op (wpOp_index hE21 (t := 24) (A := A) (m := u.length) (q := ((k : Nat) : Int)) (d := 12) (by kernel_rfl) (e := 63) (size := 2) (bytes := 32) (by kernel_rfl) hA26 rfl (by omega) fun a38 hE39 => ?_)
      clear hE21
      refine of_op (wpOp_load hE39 (t := 63) (b := b24) (o := o25 + k * 2) (d := 13) (by kernel_rfl) (cs := [.int .u32 k29, .slice A32 s30.length c33]) (v := .agg #[.int .u32 k29, .slice A32 s30.length c33]) (by kernel_rfl) (AtF.move hat28 hW16.step nilM keepF).at_ fun a40 hE41 => ?_)
      clear hE39
      refine of_op (wpOp_alloc hW16 hE41 (d := 4) (cs := [.int .u32 0, .slice none 0 0]) (by kernel_rfl) fun b42 a43 w44 hb45 hz46 hF47 hW48 hE49 => ?_)
      clear hE41 hW16
      refine of_op (wpOp_store hW48 hE49 (oi := 0) (cs := [.int .u32 k29, .slice A32 s30.length c33]) (by kernel_rfl) fun w50 hF51 hW52 hE53 => ?_)
      clear hE49 hW48
      refine wpOps_nil ?_
      refine then_normal ?_
      refine go_seq_region [0, 1, 2] (by kernel_rfl) ?_
      refine go_rn [0] [1, 2] [(8, .v (.slice A u.length c)), (9, .v (.int .i64 ((u.length : Nat) : Int))), (10, .v (.int .i64 ((k : Nat) : Int))), (14, .v (.agg #[.int .u32 k29, .slice A32 s30.length c33]))] hW52 hE53 fun a54 hE55 => ?_
      clear hE53
      refine of_op (wpOp_call hE55 (f := 69) (vs := [.agg #[.int .u32 k29, .slice A32 s30.length c33]]) (d := 15) (by kernel_rfl) Tryz.call69 (lFits3 _ _ _ _ _) ?_)
      rintro e_ w58 ⟨b57, rfl, hs56⟩
      refine ⟨_, rfl, fun a59 hE60 => ?_⟩
      have hW61 := hW52.next_nil hs56
      have hF62 := hW52.frN hs56
      clear hE55 hW52
      refine go_rn [2] [] [(8, .v (.slice A u.length c)), (9, .v (.int .i64 ((u.length : Nat) : Int))), (10, .v (.int .i64 ((k : Nat) : Int))), (16, .v (.bool (!b57)))] hW61 hE60 fun a63 hE64 => ?_
      clear hE60
      refine wpOps_nil ?_
      refine then_normal ?_
      refine cond_of hE64 (b := !b57) (by kernel_rfl) (fun hc65 => ?_) (fun hc65 => ?_)
      ·
        refine go_sp [(2, .v (.bool false))] hW61 hE64 fun a67 hE68 => ?_
        clear hE64
        refine wp_ret ?_
        refine block_ret ?_
        refine then_ret ?_
        refine then_ret ?_
        refine block_ret ?_
        refine then_ret ?_
        refine leave hE68 hW61.cells (v := .bool false) (by kernel_rfl) ?_
        exact ⟨_, rfl, hW61.step⟩
      ·
        refine wp_skip ?_
        refine block_normal ?_
        refine then_normal ?_
        refine go_region [0, 1] (by kernel_rfl) ?_
        refine go_rn [0, 1] [] [(8, .v (.slice A u.length c)), (9, .v (.int .i64 ((u.length : Nat) : Int))), (10, .v (.int .i64 (IntKind.i64.wrap (((k : Nat) : Int) + 1))))] hW61 hE64 fun a70 hE71 => ?_
        clear hE64
        refine wpOps_nil ?_
        refine then_normal ?_
        obtain ⟨hE72, hW73, hF74⟩ := hW61.cutB hE71 0 [] [(8, .v (.slice A u.length c)), (9, .v (.int .i64 ((u.length : Nat) : Int))), (10, .v (.int .i64 (IntKind.i64.wrap (((k : Nat) : Int) + 1))))]
        have he75 : IntKind.i64.wrap (((k : Nat) : Int) + 1) = ((k + 1 : Nat) : Int) := wrap_succ (by omega)
        rw [he75] at hE72
        exact ⟨u.length - (k + 1), by omega, k + 1, rfl, by omega, hE72.pk, hW73, (Fr.trans (Fr.trans (Fr.trans (Fr.trans hF19 hF47) hF51) hF62) hF74)⟩
    ·
      have hf76 := of_decide_eq_false hc22
      refine wp_exit ?_
      refine then_exit ?_
      refine then_exit ?_
      refine block_exit ?_
      refine then_normal ?_
      refine go_sp [(2, .v (.bool true))] hW16 hE21 fun a77 hE78 => ?_
      clear hE21
      refine wp_ret ?_
      refine leave hE78 hW16.cells (v := .bool true) (by kernel_rfl) ?_
      exact ⟨_, rfl, hW16.step⟩

theorem lFits1 (ct : List Value) (t : Tree) (w : World) (F : Nat → Nat → Prop) (ht : TreeR w F ct t) : Calls Tryz.prog 8 #[.agg ct.toArray] w (GivesB w) := by
  obtain ⟨n1, s2, b3, l4, u5, A6, c7, A8, c9, A10, c11, xs12, rfl, rfl, h14, h15, h16, h17⟩ := ht.open_
  have hsm19 := h14.small
  have hsm20 := h15.small
  refine enter (n := 15) Tryz.func8 rfl Tryz.ntmps8 (by kernel_rfl) fun a hE => ?_
  have hW := WOk.start w Nil
  refine go_seq_region [0, 1] (by kernel_rfl) ?_
  refine of_op (wpOp_box hW hE (d := 1) (cs := [.int .i64 n1, .slice A6 s2.length c7, .bool b3, .slice A8 l4.length c9, .slice A10 u5.length c11]) (by kernel_rfl) fun b21 a22 w23 hb24 hz25 hF26 hW27 hE28 => ?_)
  clear hE hW
  refine go_rn [1] [] [(1, .p 0 0)] hW27 hE28 fun a29 hE30 => ?_
  clear hE28
  refine wpOps_nil ?_
  refine then_normal ?_
  refine wp_seq ?_
  refine go_sp [(1, .p 0 0), (6, .v (.bool (decide (((s2.length : Nat) : Int) > 2147483647))))] hW27 hE30 fun a31 hE32 => ?_
  clear hE30
  refine cond_of hE32 (b := decide (((s2.length : Nat) : Int) > 2147483647)) (by kernel_rfl) (fun hc33 => ?_) (fun hc33 => ?_)
  ·
    have hf34 := of_decide_eq_true hc33
    refine go_sp [(2, .v (.bool false))] hW27 hE32 fun a35 hE36 => ?_
    clear hE32
    refine wp_ret ?_
    refine then_ret ?_
    refine leave hE36 hW27.cells (v := .bool false) (by kernel_rfl) ?_
    exact ⟨_, rfl, hW27.step⟩
  ·
    have hf37 := of_decide_eq_false hc33
    refine wp_skip ?_
    refine then_normal ?_
    refine wp_seq ?_
    refine go_sp [(1, .p 0 0), (10, .v (.bool (decide (((l4.length : Nat) : Int) > 2147483647))))] hW27 hE32 fun a38 hE39 => ?_
    clear hE32
    refine cond_of hE39 (b := decide (((l4.length : Nat) : Int) > 2147483647)) (by kernel_rfl) (fun hc40 => ?_) (fun hc40 => ?_)
    ·
      have hf41 := of_decide_eq_true hc40
      refine go_sp [(2, .v (.bool false))] hW27 hE39 fun a42 hE43 => ?_
      clear hE39
      refine wp_ret ?_
      refine then_ret ?_
      refine leave hE43 hW27.cells (v := .bool false) (by kernel_rfl) ?_
      exact ⟨_, rfl, hW27.step⟩
    ·
      have hf44 := of_decide_eq_false hc40
      refine wp_skip ?_
      refine then_normal ?_
      refine wp_seq ?_
      refine go_seq_region [0, 1, 2, 3] (by kernel_rfl) ?_
      refine go_rn [0, 1] [2, 3] [(12, .v (.slice A10 u5.length c11))] hW27 hE39 fun a45 hE46 => ?_
      clear hE39
      refine of_op (wpOp_call hE46 (f := 29) (vs := [.slice A10 u5.length c11]) (d := 13) (by kernel_rfl) Tryz.call29 (lFits2 _ _ u5 _ _ (h17.move hW27.step nilM hW27.imm)) ?_)
      rintro e_ w49 ⟨b48, rfl, hs47⟩
      refine ⟨_, rfl, fun a50 hE51 => ?_⟩
      have hW52 := hW27.next_nil hs47
      have hF53 := hW27.frN hs47
      clear hE46 hW27
      refine go_rn [3] [] [(14, .v (.bool (!b48)))] hW52 hE51 fun a54 hE55 => ?_
      clear hE51
      refine wpOps_nil ?_
      refine then_normal ?_
      refine cond_of hE55 (b := !b48) (by kernel_rfl) (fun hc56 => ?_) (fun hc56 => ?_)
      ·
        refine go_sp [(2, .v (.bool false))] hW52 hE55 fun a58 hE59 => ?_
        clear hE55
        refine wp_ret ?_
        refine then_ret ?_
        refine leave hE59 hW52.cells (v := .bool false) (by kernel_rfl) ?_
        exact ⟨_, rfl, hW52.step⟩
      ·
        refine wp_skip ?_
        refine then_normal ?_
        refine go_sp [(2, .v (.bool true))] hW52 hE55 fun a61 hE62 => ?_
        clear hE55
        refine wp_ret ?_
        refine leave hE62 hW52.cells (v := .bool true) (by kernel_rfl) ?_
        exact ⟨_, rfl, hW52.step⟩

theorem lVersion (x m : Int) (hx : 0 ≤ x) (hx' : x < 256) (hm : 0 ≤ m) (hm' : m < 32768) (w : World) : Calls Tryz.prog 11 #[.int .u8 x, .int .i64 m] w (Gives w (.int .i64 (Int.tmod x (m + 1)))) := by
  refine enter (n := 10) Tryz.func11 rfl Tryz.ntmps11 (by kernel_rfl) fun a hE => ?_
  have hW := WOk.start w Nil
  refine go_sp [(0, .v (.int .u8 x)), (1, .v (.int .i64 m))] hW hE fun a1 hE2 => ?_
  clear hE
  refine go_seq_region [0, 1, 2, 3, 4, 5] (by kernel_rfl) ?_
  refine go_rn [0, 1, 2, 3] [4, 5] [(6, .v (.int .i64 (IntKind.i64.wrap x))), (8, .v (.int .i64 (IntKind.i64.wrap (m + 1))))] hW hE2 fun a3 hE4 => ?_
  clear hE2
  refine of_op (wpOp_rem hE4 (k := .i64) (p := (IntKind.i64.wrap x)) (q := (IntKind.i64.wrap (m + 1))) (d := 9) (by kernel_rfl) (by simp only [IntKind.wrap_i64]; omega) fun a5 hE6 => ?_)
  clear hE4
  refine go_rn [5] [] [(4, .v (.int .i64 (Int.tmod (IntKind.i64.wrap x) (IntKind.i64.wrap (m + 1)))))] hW hE6 fun a7 hE8 => ?_
  clear hE6
  refine wpOps_nil ?_
  refine then_normal ?_
  refine wp_ret ?_
  refine leave hE8 hW.cells (v := .int .i64 (Int.tmod (IntKind.i64.wrap x) (IntKind.i64.wrap (m + 1)))) (by kernel_rfl) ?_
  exact ⟨by rw [wrap_i64 (by omega) (by omega), wrap_i64 (by omega) (by omega)], hW.step⟩

end Go.Proofs.YtbjopfcbpobnpaaGreat.ME
