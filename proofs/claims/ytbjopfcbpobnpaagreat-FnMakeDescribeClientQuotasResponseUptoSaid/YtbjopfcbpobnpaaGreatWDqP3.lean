/- The texts of a claim, put together: the engine, the contracts, the law. Own work. -/
import Derived.Test.YtbjopfcbpobnpaaGreatWDqP2
/- Contracts: printed by tools/sp.py. Own work. -/
namespace Go.Proofs.YtbjopfcbpobnpaaGreat.ME
open Go
set_option linter.unusedVariables false
set_option linter.unusedSimpArgs false
set_option maxRecDepth 20000

theorem sPart (W : Fld → Tree → Bs) (A : Option Addr) (c : Nat) (l : List Fld) (v : Int) (flex : Bool) (ct : List Value) (t : Tree) (w : World) (F : Nat → Nat → Prop) (hW_ : ∀ cf f ct t w F, f ∈ l → FldR w F cf f → TreeR w F ct t → (W f t).length ≤ 1099511627776 → Calls Tryz.prog 91 #[.agg cf.toArray, .int .i64 v, .bool flex, .agg ct.toArray] w (FreshB w 5 (W f t))) (hl : FldsR w F A c l) (ht : TreeR w F ct t) (hroom : (partW W l v flex t).length ≤ 1099511627776) :
    Calls Tryz.prog 40 #[.slice A l.length c, .int .i64 v, .bool flex, .agg ct.toArray] w (FreshB w 5 (partW W l v flex t)) := by
  obtain ⟨xfs, h1, h2⟩ := hl.ex
  have hsm := h1.small
  obtain ⟨n1, s2, b3, l4, u5, A6, c7, A8, c9, A10, c11, xs12, rfl, rfl, h14, h15, h16, h17⟩ := ht.open_
  have hsm19 := h14.small
  have hsm20 := h15.small
  have hkr := known_range l
  refine enter (n := 132) Tryz.func40 rfl Tryz.ntmps40 (by kernel_rfl) fun a hE => ?_
  have hW := WOk.start w Nil
  refine go_seq_region [0, 1] (by kernel_rfl) ?_
  refine of_op (wpOp_box hW hE (d := 7) (cs := [.int .i64 n1, .slice A6 s2.length c7, .bool b3, .slice A8 l4.length c9, .slice A10 u5.length c11]) (by kernel_rfl) fun b21 a22 w23 hb24 hz25 hF26 hW27 hE28 => ?_)
  clear hE hW
  refine go_rn [1] [] [(0, .v (.slice A l.length c)), (1, .v (.int .i64 v)), (2, .v (.bool flex)), (7, .p 0 0)] hW27 hE28 fun a29 hE30 => ?_
  clear hE28
  refine wpOps_nil ?_
  refine then_normal ?_
  refine go_sp [(0, .v (.slice A l.length c)), (1, .v (.int .i64 v)), (2, .v (.bool flex)), (7, .p 0 0), (9, .v (.slice none 0 0)), (10, .v (.slice none 0 0))] hW27 hE30 fun a31 hE32 => ?_
  clear hE30
  refine go_sp [(0, .v (.slice A l.length c)), (1, .v (.int .i64 v)), (2, .v (.bool flex)), (7, .p 0 0), (9, .v (.slice none 0 0)), (10, .v (.slice none 0 0)), (11, .v (.int .i64 0))] hW27 hE32 fun a33 hE34 => ?_
  clear hE32
  refine wp_seq ?_
  refine go_sp [(0, .v (.slice A l.length c)), (1, .v (.int .i64 v)), (2, .v (.bool flex)), (7, .p 0 0), (9, .v (.slice none 0 0)), (10, .v (.slice none 0 0)), (11, .v (.int .i64 0)), (21, .v (.slice A l.length c)), (22, .v (.int .i64 ((l.length : Nat) : Int))), (23, .v (.int .i64 0))] hW27 hE34 fun a35 hE36 => ?_
  clear hE34
  refine wp_block ?_
  have hW37 := hW27.addNil 5 1
  have hF38 := hW27.frNil 5 1
  clear hW27
  have htot : (bodyB W l v (Tree.mk n1 s2 b3 l4 u5) 0).length ≤ 1099511627776 := by have h_ := hroom; rw [partW, List.length_append] at h_; omega
  refine wp_loop_ghost (fun n_ a_ w_ => ∃ (k : Nat) (A_ : Option Addr) (c_ : Nat) (dn : Bs), n_ = l.length - k ∧ k ≤ l.length ∧ (dn ++ bodyB W (l.drop k) v (Tree.mk n1 s2 b3 l4 u5) k = bodyB W l v (Tree.mk n1 s2 b3 l4 u5) 0) ∧ LInv hW37 132 [⟨b21, 0, [.int .i64 n1, .slice A6 s2.length c7, .bool b3, .slice A8 l4.length c9, .slice A10 u5.length c11], true⟩] [brow A_ c_ 5 dn] [(0, .v (.slice A l.length c)), (1, .v (.int .i64 v)), (2, .v (.bool flex)), (7, .p 0 0), (9, .v (.slice A_ dn.length c_)), (10, .v (.slice none 0 0)), (11, .v (.int .i64 0)), (21, .v (.slice A l.length c)), (22, .v (.int .i64 ((l.length : Nat) : Int))), (23, .v (.int .i64 ((k : Nat) : Int)))] a_ w_) (l.length) ⟨0, none, 0, [], by omega, by omega, rfl, hE36.pk, hW37, Fr.refl _ _ _⟩ ?_
  clear hE36
  rintro n39 a40 w41 ⟨k, A_, c_, dn, hn44, hk45, hB, hE42, hW43, hF46⟩
  refine go_sp [(0, .v (.slice A l.length c)), (1, .v (.int .i64 v)), (2, .v (.bool flex)), (7, .p 0 0), (9, .v (.slice A_ dn.length c_)), (10, .v (.slice none 0 0)), (11, .v (.int .i64 0)), (21, .v (.slice A l.length c)), (22, .v (.int .i64 ((l.length : Nat) : Int))), (23, .v (.int .i64 ((k : Nat) : Int))), (24, .v (.bool (decide (((k : Nat) : Int) < ((l.length : Nat) : Int)))))] hW43 hE42 fun a47 hE48 => ?_
  clear hE42
  refine wp_seq ?_
  refine cond_of hE48 (b := decide (((k : Nat) : Int) < ((l.length : Nat) : Int))) (by kernel_rfl) (fun hc49 => ?_) (fun hc49 => ?_)
  ·
    have hf50 := of_decide_eq_true hc49
    refine wp_skip ?_
    refine then_normal ?_
    refine wp_seq ?_
    refine wp_block ?_
    refine go_seq_region [0, 1, 2, 3, 4, 5] (by kernel_rfl) ?_
    refine go_rn [0] [1, 2, 3, 4, 5] [(0, .v (.slice A l.length c)), (1, .v (.int .i64 v)), (2, .v (.bool flex)), (7, .p 0 0), (9, .v (.slice A_ dn.length c_)), (10, .v (.slice none 0 0)), (11, .v (.int .i64 0)), (21, .v (.slice A l.length c)), (22, .v (.int .i64 ((l.length : Nat) : Int))), (23, .v (.int .i64 ((k : Nat) : Int))), (25, .v (.int .i64 ((k : Nat) : Int)))] hW43 hE48 fun a51 hE52 => ?_
    clear hE48
    obtain ⟨b53, o54, hA55, hl56, hat57⟩ := Slots.get h1 (i := k) (by omega)
    obtain ⟨x58, he59⟩ : ∃ x, l[k]? = some x := ⟨_, List.getElem?_eq_getElem (by omega)⟩
    have hr60 := h2 k x58 he59
    obtain ⟨k61, y62, y63, y64, y65, y66, y67, l68, A69, c70, xs71, rfl, hcs72, h73, h74⟩ := hr60.open_
    rw [hcs72] at hr60
    have hsm75 := h73.small
    rw [hcs72] at hat57
    refine of_op (wpOp_index hE52 (t := 29) (A := A) (m := l.length) (q := ((k : Nat) : Int)) (d := 26) (by kernel_rfl) (e := 51) (size := 8) (bytes := 80) (by kernel_rfl) hA55 rfl (by omega) fun a76 hE77 => ?_)
    clear hE52
    refine of_op (wpOp_load hE77 (t := 51) (b := b53) (o := o54 + k * 8) (d := 27) (by kernel_rfl) (cs := [.int .i64 k61, .int .i64 y62, .int .i64 y63, .int .i64 y64, .int .i64 y65, .int .i64 y66, .int .i64 y67, .slice A69 l68.length c70]) (v := .agg #[.int .i64 k61, .int .i64 y62, .int .i64 y63, .int .i64 y64, .int .i64 y65, .int .i64 y66, .int .i64 y67, .slice A69 l68.length c70]) (by kernel_rfl) (AtF.move hat57 hW43.step nilM keepF).at_ fun a78 hE79 => ?_)
    clear hE77
    refine of_op (wpOp_alloc hW43 hE79 (d := 13) (cs := [.int .i64 0, .int .i64 0, .int .i64 0, .int .i64 0, .int .i64 0, .int .i64 0, .int .i64 0, .slice none 0 0]) (by kernel_rfl) fun b80 a81 w82 hb83 hz84 hF85 hW86 hE87 => ?_)
    clear hE79 hW43
    refine go_rn [4] [5] [(0, .v (.slice A l.length c)), (1, .v (.int .i64 v)), (2, .v (.bool flex)), (7, .p 0 0), (9, .v (.slice A_ dn.length c_)), (10, .v (.slice none 0 0)), (11, .v (.int .i64 0)), (12, .v (.int .i64 ((k : Nat) : Int))), (13, .p 1 0), (21, .v (.slice A l.length c)), (22, .v (.int .i64 ((l.length : Nat) : Int))), (23, .v (.int .i64 ((k : Nat) : Int))), (27, .v (.agg #[.int .i64 k61, .int .i64 y62, .int .i64 y63, .int .i64 y64, .int .i64 y65, .int .i64 y66, .int .i64 y67, .slice A69 l68.length c70]))] hW86 hE87 fun a88 hE89 => ?_
    clear hE87
    refine of_op (wpOp_store hW86 hE89 (oi := 1) (cs := [.int .i64 k61, .int .i64 y62, .int .i64 y63, .int .i64 y64, .int .i64 y65, .int .i64 y66, .int .i64 y67, .slice A69 l68.length c70]) (by kernel_rfl) fun w90 hF91 hW92 hE93 => ?_)
    clear hE89 hW86
    refine wpOps_nil ?_
    refine then_normal ?_
    refine go_seq_region [0, 1, 2, 3, 4, 5, 6, 7] (by kernel_rfl) ?_
    refine go_rn [0, 1, 2, 3] [4, 5, 6, 7] [(0, .v (.slice A l.length c)), (1, .v (.int .i64 v)), (2, .v (.bool flex)), (7, .p 0 0), (9, .v (.slice A_ dn.length c_)), (10, .v (.slice none 0 0)), (11, .v (.int .i64 0)), (12, .v (.int .i64 ((k : Nat) : Int))), (13, .p 1 0), (21, .v (.slice A l.length c)), (22, .v (.int .i64 ((l.length : Nat) : Int))), (23, .v (.int .i64 ((k : Nat) : Int))), (31, .v (.bool (decide (y65 < 0))))] hW92 hE93 fun a94 hE95 => ?_
    clear hE93
    refine (Bool.eq_false_or_eq_true (decide (y65 < 0))).elim (fun hc96 => ?_) (fun hc96 => ?_)
    ·
      have hf97 := of_decide_eq_true hc96
      have hE98 := hE95.cast (env' := [(0, .v (.slice A l.length c)), (1, .v (.int .i64 v)), (2, .v (.bool flex)), (7, .p 0 0), (9, .v (.slice A_ dn.length c_)), (10, .v (.slice none 0 0)), (11, .v (.int .i64 0)), (12, .v (.int .i64 ((k : Nat) : Int))), (13, .p 1 0), (21, .v (.slice A l.length c)), (22, .v (.int .i64 ((l.length : Nat) : Int))), (23, .v (.int .i64 ((k : Nat) : Int))), (31, .v (.bool true))]) (by rw [hc96])
      clear hE95
      refine go_rn [4, 5] [6, 7] [(0, .v (.slice A l.length c)), (1, .v (.int .i64 v)), (2, .v (.bool flex)), (7, .p 0 0), (9, .v (.slice A_ dn.length c_)), (10, .v (.slice none 0 0)), (11, .v (.int .i64 0)), (12, .v (.int .i64 ((k : Nat) : Int))), (13, .p 1 0), (21, .v (.slice A l.length c)), (22, .v (.int .i64 ((l.length : Nat) : Int))), (23, .v (.int .i64 ((k : Nat) : Int))), (31, .v (.bool true)), (32, .v (.agg #[.int .i64 k61, .int .i64 y62, .int .i64 y63, .int .i64 y64, .int .i64 y65, .int .i64 y66, .int .i64 y67, .slice A69 l68.length c70])), (33, .v (.int .i64 v))] hW92 hE98 fun a99 hE100 => ?_
      clear hE98
      refine of_op (wpOp_call hE100 (f := 90) (vs := [.agg #[.int .i64 k61, .int .i64 y62, .int .i64 y63, .int .i64 y64, .int .i64 y65, .int .i64 y66, .int .i64 y67, .slice A69 l68.length c70], .int .i64 v]) (d := 34) (by kernel_rfl) Tryz.call90 (sHas k61 y62 y63 y64 y65 y66 y67 l68 _ _ v _) ?_)
      rintro e_ w102 ⟨rfl, hs101⟩
      refine ⟨_, rfl, fun a103 hE104 => ?_⟩
      have hW105 := hW92.next_nil hs101
      have hF106 := hW92.frN hs101
      clear hE100 hW92
      refine go_rn [7] [] [(0, .v (.slice A l.length c)), (1, .v (.int .i64 v)), (2, .v (.bool flex)), (7, .p 0 0), (9, .v (.slice A_ dn.length c_)), (10, .v (.slice none 0 0)), (11, .v (.int .i64 0)), (12, .v (.int .i64 ((k : Nat) : Int))), (13, .p 1 0), (21, .v (.slice A l.length c)), (22, .v (.int .i64 ((l.length : Nat) : Int))), (23, .v (.int .i64 ((k : Nat) : Int))), (35, .v (.bool (Fld.has (Fld.mk k61 y62 y63 y64 y65 y66 y67 l68) v)))] hW105 hE104 fun a107 hE108 => ?_
      clear hE104
      refine wpOps_nil ?_
      refine then_normal ?_
      refine cond_of hE108 (b := Fld.has (Fld.mk k61 y62 y63 y64 y65 y66 y67 l68) v) (by kernel_rfl) (fun hc109 => ?_) (fun hc109 => ?_)
      ·
        refine go_drawK 9 (by kernel_rfl) hW105 fun w111 hF112 hW113 hT114 => ?_
        clear hW105
        refine go_rnD [0, 1, 2, 3, 4, 5] [(0, .v (.slice A l.length c)), (1, .v (.int .i64 v)), (2, .v (.bool flex)), (7, .p 0 0), (9, .v (.slice A_ dn.length c_)), (10, .v (.slice none 0 0)), (11, .v (.int .i64 0)), (21, .v (.slice A l.length c)), (22, .v (.int .i64 ((l.length : Nat) : Int))), (23, .v (.int .i64 ((k : Nat) : Int))), (36, .v (.slice A_ dn.length c_)), (37, .v (.agg #[.int .i64 k61, .int .i64 y62, .int .i64 y63, .int .i64 y64, .int .i64 y65, .int .i64 y66, .int .i64 y67, .slice A69 l68.length c70])), (38, .v (.int .i64 v)), (39, .v (.bool flex)), (40, .v (.agg #[.int .i64 n1, .slice A6 s2.length c7, .bool b3, .slice A8 l4.length c9, .slice A10 u5.length c11])), (41, .v (.int .i64 ((k : Nat) : Int)))] 4 (panicFree_block (panicFree_then (panicFree_then (panicFree_block (panicFree_then panicFree_body))))) (fun _ h => h.cells) hT114 hE108 fun a115 hE116 => ?_
        clear hE108
        refine anyC_op (i := 6) (by kernel_rfl) (wpOp_call hE116 (f := 37) (vs := [.agg #[.int .i64 n1, .slice A6 s2.length c7, .bool b3, .slice A8 l4.length c9, .slice A10 u5.length c11], .int .i64 ((k : Nat) : Int)]) (d := 42) (by kernel_rfl) Tryz.call37 (sAt _ _ k _ _ (ht.move hW113.step nilM hW113.imm)) ?_)
        rintro e_ w120 ⟨cs119, rfl, hr118, hs117⟩
        have hr121 := hr118.move hs117 nilM (fun b o h_ hb_ => hW113.laid (G := F) hs117 b o (.inl h_) (Nat.lt_of_lt_of_le hb_ hs117.size))
        obtain ⟨n122, s123, b124, l125, u126, A127, c128, A129, c130, A131, c132, xs133, ht139, hcs134, h135, h136, h137, h138⟩ := hr121.open_
        rw [hcs134] at hr121
        have hsm140 := h135.small
        have hsm141 := h136.small
        rw [hcs134]
        refine ⟨_, rfl, fun a142 hE143 => ?_⟩
        have hW144 := hW113.next_nil hs117
        have hF145 := hW113.frN hs117
        clear hE116
        have hT146 := TT.ofW hF145 hW144
        refine ⟨fun _ => hT146, ?_⟩
        refine anyC_op (i := 7) (by kernel_rfl) (wpOp_call hE143 (f := 91) (vs := [.agg #[.int .i64 k61, .int .i64 y62, .int .i64 y63, .int .i64 y64, .int .i64 y65, .int .i64 y66, .int .i64 y67, .slice A69 l68.length c70], .int .i64 v, .bool flex, .agg #[.int .i64 n122, .slice A127 s123.length c128, .bool b124, .slice A129 l125.length c130, .slice A131 u126.length c132]]) (d := 43) (by kernel_rfl) Tryz.call91 ( hW_ _ _ _ _ _ _ (List.mem_of_getElem? he59) (hr60.move hW144.step nilM hW144.imm) hr121 (by have h_ := congrArg List.length hB; rw [bodyB_pos he59 (by assumption) (by assumption)] at h_; simp only [List.length_append] at h_; omega)) ?_)
        rintro e_ w151 ⟨A149, c150, rfl, ho148, hs147⟩
        refine ⟨_, rfl, fun a152 hE153 => ?_⟩
        obtain ⟨hW154, hF155⟩ := hW144.frFresh hs147 (brow A149 c150 5 (W (Fld.mk k61 y62 y63 y64 y65 y66 y67 l68) (Tree.at_ (Tree.mk n1 s2 b3 l4 u5) k))) (Nat.le_refl _) ho148
        clear hE143 hW144
        have hlw156 : (W (Fld.mk k61 y62 y63 y64 y65 y66 y67 l68) (Tree.at_ (Tree.mk n1 s2 b3 l4 u5) k)).length ≤ 1099511627776 := by have h_ := congrArg List.length hB; rw [bodyB_pos he59 (by assumption) (by assumption)] at h_; simp only [List.length_append] at h_; omega
        have hT157 := TT.ofW (Fr.trans hF145 hF155) hW154
        refine ⟨fun _ => hT157, ?_⟩
        refine anyC_op (i := 8) (by kernel_rfl) (wpOp_append hW154 hE153 (k := 0) (d := 44) (t := 22) (e := 5) (size := 1) (bytes := 1) (A := A_) (As := A149) (m0 := dn.length) (c := c_) (m := ((W (Fld.mk k61 y62 y63 y64 y65 y66 y67 l68) (Tree.at_ (Tree.mk n1 s2 b3 l4 u5) k)).length)) (cs := c150) (xs := (bc dn)) (news := bc (W (Fld.mk k61 y62 y63 y64 y65 y66 y67 l68) (Tree.at_ (Tree.mk n1 s2 b3 l4 u5) k))) (by kernel_rfl) (by kernel_rfl) rfl (own_src (hW154.own 1 _ rfl) (bc_one _)) (own_cap (hW154.own 1 _ rfl)) (by have h_ := congrArg List.length hB; rw [bodyB_pos he59 (by assumption) (by assumption)] at h_; simp only [List.length_append] at h_ ⊢; omega) fun A158 c159 a160 w161 hF162 hW163 hE164 => ?_)
        clear hE153 hW154
        have er165 : (⟨A158, c159, 5, 1, dn.length + (W (Fld.mk k61 y62 y63 y64 y65 y66 y67 l68) (Tree.at_ (Tree.mk n1 s2 b3 l4 u5) k)).length, bc dn ++ bc (W (Fld.mk k61 y62 y63 y64 y65 y66 y67 l68) (Tree.at_ (Tree.mk n1 s2 b3 l4 u5) k))⟩ : Rw) = brow A158 c159 5 (dn ++ (W (Fld.mk k61 y62 y63 y64 y65 y66 y67 l68) (Tree.at_ (Tree.mk n1 s2 b3 l4 u5) k))) := brow_eq (rfl) rfl
        obtain ⟨hW166, hF168⟩ := hW163.rowEq 0 [brow A158 c159 5 (dn ++ (W (Fld.mk k61 y62 y63 y64 y65 y66 y67 l68) (Tree.at_ (Tree.mk n1 s2 b3 l4 u5) k))), brow A149 c150 5 (W (Fld.mk k61 y62 y63 y64 y65 y66 y67 l68) (Tree.at_ (Tree.mk n1 s2 b3 l4 u5) k))] er165
        clear hW163
        have hE169 := EnvOk.pick hE164 (ks := [0, 1, 2, 7, 9, 10, 11, 21, 22, 23, 36, 37, 38, 39, 40, 41, 42, 43, 44]) (env' := [(0, .v (.slice A l.length c)), (1, .v (.int .i64 v)), (2, .v (.bool flex)), (7, .p 0 0), (9, .v (.slice A_ dn.length c_)), (10, .v (.slice none 0 0)), (11, .v (.int .i64 0)), (21, .v (.slice A l.length c)), (22, .v (.int .i64 ((l.length : Nat) : Int))), (23, .v (.int .i64 ((k : Nat) : Int))), (36, .v (.slice A_ dn.length c_)), (37, .v (.agg #[.int .i64 k61, .int .i64 y62, .int .i64 y63, .int .i64 y64, .int .i64 y65, .int .i64 y66, .int .i64 y67, .slice A69 l68.length c70])), (38, .v (.int .i64 v)), (39, .v (.bool flex)), (40, .v (.agg #[.int .i64 n1, .slice A6 s2.length c7, .bool b3, .slice A8 l4.length c9, .slice A10 u5.length c11])), (41, .v (.int .i64 ((k : Nat) : Int))), (42, .v (.agg #[.int .i64 n122, .slice A127 s123.length c128, .bool b124, .slice A129 l125.length c130, .slice A131 u126.length c132])), (43, .v (.slice A149 ((W (Fld.mk k61 y62 y63 y64 y65 y66 y67 l68) (Tree.at_ (Tree.mk n1 s2 b3 l4 u5) k)).length) c150)), (44, .v (.slice A158 (dn.length + (W (Fld.mk k61 y62 y63 y64 y65 y66 y67 l68) (Tree.at_ (Tree.mk n1 s2 b3 l4 u5) k)).length) c159))]) (by kernel_rfl)
        have hE167 := hE169.cast (env' := [(0, .v (.slice A l.length c)), (1, .v (.int .i64 v)), (2, .v (.bool flex)), (7, .p 0 0), (9, .v (.slice A_ dn.length c_)), (10, .v (.slice none 0 0)), (11, .v (.int .i64 0)), (21, .v (.slice A l.length c)), (22, .v (.int .i64 ((l.length : Nat) : Int))), (23, .v (.int .i64 ((k : Nat) : Int))), (36, .v (.slice A_ dn.length c_)), (37, .v (.agg #[.int .i64 k61, .int .i64 y62, .int .i64 y63, .int .i64 y64, .int .i64 y65, .int .i64 y66, .int .i64 y67, .slice A69 l68.length c70])), (38, .v (.int .i64 v)), (39, .v (.bool flex)), (40, .v (.agg #[.int .i64 n1, .slice A6 s2.length c7, .bool b3, .slice A8 l4.length c9, .slice A10 u5.length c11])), (41, .v (.int .i64 ((k : Nat) : Int))), (42, .v (.agg #[.int .i64 n122, .slice A127 s123.length c128, .bool b124, .slice A129 l125.length c130, .slice A131 u126.length c132])), (43, .v (.slice A149 ((W (Fld.mk k61 y62 y63 y64 y65 y66 y67 l68) (Tree.at_ (Tree.mk n1 s2 b3 l4 u5) k)).length) c150)), (44, .v (.slice A158 ((dn ++ (W (Fld.mk k61 y62 y63 y64 y65 y66 y67 l68) (Tree.at_ (Tree.mk n1 s2 b3 l4 u5) k))).length) c159))]) (by simp only [List.length_append, List.length_cons, List.length_nil, Nat.zero_add])
        clear hE164
        clear hE169
        have hT170 := TT.ofW (Fr.trans (Fr.trans (Fr.trans hF145 hF155) hF162) hF168) hW166
        refine ⟨fun _ => hT170, ?_⟩
        refine anyC_op (i := 9) (by kernel_rfl) (wpOp_pure [0, 1, 2, 7, 9, 10, 11, 21, 22, 23] hW166.cells hE167 (env' := [(0, .v (.slice A l.length c)), (1, .v (.int .i64 v)), (2, .v (.bool flex)), (7, .p 0 0), (9, .v (.slice A158 ((dn ++ (W (Fld.mk k61 y62 y63 y64 y65 y66 y67 l68) (Tree.at_ (Tree.mk n1 s2 b3 l4 u5) k))).length) c159)), (10, .v (.slice none 0 0)), (11, .v (.int .i64 0)), (21, .v (.slice A l.length c)), (22, .v (.int .i64 ((l.length : Nat) : Int))), (23, .v (.int .i64 ((k : Nat) : Int)))]) (by kernel_rfl) fun a171 hE172 => ?_)
        clear hE167
        refine ⟨fun h => absurd rfl h, ?_⟩
        refine anyC_done (by kernel_rfl) ?_ _
        refine block_normal ?_
        refine then_normal ?_
        refine go_region [0, 1] (by kernel_rfl) ?_
        refine go_rn [0, 1] [] [(0, .v (.slice A l.length c)), (1, .v (.int .i64 v)), (2, .v (.bool flex)), (7, .p 0 0), (9, .v (.slice A158 ((dn ++ (W (Fld.mk k61 y62 y63 y64 y65 y66 y67 l68) (Tree.at_ (Tree.mk n1 s2 b3 l4 u5) k))).length) c159)), (10, .v (.slice none 0 0)), (11, .v (.int .i64 0)), (21, .v (.slice A l.length c)), (22, .v (.int .i64 ((l.length : Nat) : Int))), (23, .v (.int .i64 (IntKind.i64.wrap (((k : Nat) : Int) + 1))))] hW166 hE172 fun a173 hE174 => ?_
        clear hE172
        refine wpOps_nil ?_
        refine then_normal ?_
        obtain ⟨hE175, hW176, hF177⟩ := hW166.cutB hE174 1 [⟨b21, 0, [.int .i64 n1, .slice A6 s2.length c7, .bool b3, .slice A8 l4.length c9, .slice A10 u5.length c11], true⟩] [(0, .v (.slice A l.length c)), (1, .v (.int .i64 v)), (2, .v (.bool flex)), (7, .p 0 0), (9, .v (.slice A158 ((dn ++ (W (Fld.mk k61 y62 y63 y64 y65 y66 y67 l68) (Tree.at_ (Tree.mk n1 s2 b3 l4 u5) k))).length) c159)), (10, .v (.slice none 0 0)), (11, .v (.int .i64 0)), (21, .v (.slice A l.length c)), (22, .v (.int .i64 ((l.length : Nat) : Int))), (23, .v (.int .i64 (IntKind.i64.wrap (((k : Nat) : Int) + 1))))]
        obtain ⟨hW178, hF179⟩ := hW176.cutR 1 [brow A158 c159 5 (dn ++ (W (Fld.mk k61 y62 y63 y64 y65 y66 y67 l68) (Tree.at_ (Tree.mk n1 s2 b3 l4 u5) k)))]
        have he180 : IntKind.i64.wrap (((k : Nat) : Int) + 1) = ((k + 1 : Nat) : Int) := wrap_succ (by omega)
        rw [he180] at hE175
        exact ⟨l.length - (k + 1), by omega, k + 1, A158, c159, dn ++ (W (Fld.mk k61 y62 y63 y64 y65 y66 y67 l68) (Tree.at_ (Tree.mk n1 s2 b3 l4 u5) k)), rfl, by omega, by rw [List.append_assoc, ← bodyB_pos he59 (by assumption) (by assumption)]; exact hB, hE175.pk, hW178, (Fr.trans (Fr.trans (Fr.trans (Fr.trans (Fr.trans (Fr.trans (Fr.trans (Fr.trans (Fr.trans (Fr.trans hF46 hF85) hF91) hF106) hF112) hF145) hF155) hF162) hF168) hF177) hF179)⟩
      ·
        refine wp_skip ?_
        refine block_normal ?_
        refine then_normal ?_
        refine go_region [0, 1] (by kernel_rfl) ?_
        refine go_rn [0, 1] [] [(0, .v (.slice A l.length c)), (1, .v (.int .i64 v)), (2, .v (.bool flex)), (7, .p 0 0), (9, .v (.slice A_ dn.length c_)), (10, .v (.slice none 0 0)), (11, .v (.int .i64 0)), (21, .v (.slice A l.length c)), (22, .v (.int .i64 ((l.length : Nat) : Int))), (23, .v (.int .i64 (IntKind.i64.wrap (((k : Nat) : Int) + 1))))] hW105 hE108 fun a182 hE183 => ?_
        clear hE108
        refine wpOps_nil ?_
        refine then_normal ?_
        obtain ⟨hE184, hW185, hF186⟩ := hW105.cutB hE183 1 [⟨b21, 0, [.int .i64 n1, .slice A6 s2.length c7, .bool b3, .slice A8 l4.length c9, .slice A10 u5.length c11], true⟩] [(0, .v (.slice A l.length c)), (1, .v (.int .i64 v)), (2, .v (.bool flex)), (7, .p 0 0), (9, .v (.slice A_ dn.length c_)), (10, .v (.slice none 0 0)), (11, .v (.int .i64 0)), (21, .v (.slice A l.length c)), (22, .v (.int .i64 ((l.length : Nat) : Int))), (23, .v (.int .i64 (IntKind.i64.wrap (((k : Nat) : Int) + 1))))]
        have he187 : IntKind.i64.wrap (((k : Nat) : Int) + 1) = ((k + 1 : Nat) : Int) := wrap_succ (by omega)
        rw [he187] at hE184
        exact ⟨l.length - (k + 1), by omega, k + 1, A_, c_, dn, rfl, by omega, by rw [← bodyB_neg2 he59 (by assumption)]; exact hB, hE184.pk, hW185, (Fr.trans (Fr.trans (Fr.trans (Fr.trans hF46 hF85) hF91) hF106) hF186)⟩
    ·
      have hf188 := of_decide_eq_false hc96
      have hE189 := hE95.cast (env' := [(0, .v (.slice A l.length c)), (1, .v (.int .i64 v)), (2, .v (.bool flex)), (7, .p 0 0), (9, .v (.slice A_ dn.length c_)), (10, .v (.slice none 0 0)), (11, .v (.int .i64 0)), (12, .v (.int .i64 ((k : Nat) : Int))), (13, .p 1 0), (21, .v (.slice A l.length c)), (22, .v (.int .i64 ((l.length : Nat) : Int))), (23, .v (.int .i64 ((k : Nat) : Int))), (31, .v (.bool false))]) (by rw [hc96])
      clear hE95
      refine go_rn [4, 5, 6, 7] [] [(0, .v (.slice A l.length c)), (1, .v (.int .i64 v)), (2, .v (.bool flex)), (7, .p 0 0), (9, .v (.slice A_ dn.length c_)), (10, .v (.slice none 0 0)), (11, .v (.int .i64 0)), (12, .v (.int .i64 ((k : Nat) : Int))), (13, .p 1 0), (21, .v (.slice A l.length c)), (22, .v (.int .i64 ((l.length : Nat) : Int))), (23, .v (.int .i64 ((k : Nat) : Int))), (35, .v (.bool false))] hW92 hE189 fun a190 hE191 => ?_
      clear hE189
      refine wpOps_nil ?_
      refine then_normal ?_
      refine cond_false hE191 (b := false) (by kernel_rfl) rfl ?_
      refine wp_skip ?_
      refine block_normal ?_
      refine then_normal ?_
      refine go_region [0, 1] (by kernel_rfl) ?_
      refine go_rn [0, 1] [] [(0, .v (.slice A l.length c)), (1, .v (.int .i64 v)), (2, .v (.bool flex)), (7, .p 0 0), (9, .v (.slice A_ dn.length c_)), (10, .v (.slice none 0 0)), (11, .v (.int .i64 0)), (21, .v (.slice A l.length c)), (22, .v (.int .i64 ((l.length : Nat) : Int))), (23, .v (.int .i64 (IntKind.i64.wrap (((k : Nat) : Int) + 1))))] hW92 hE191 fun a192 hE193 => ?_
      clear hE191
      refine wpOps_nil ?_
      refine then_normal ?_
      obtain ⟨hE194, hW195, hF196⟩ := hW92.cutB hE193 1 [⟨b21, 0, [.int .i64 n1, .slice A6 s2.length c7, .bool b3, .slice A8 l4.length c9, .slice A10 u5.length c11], true⟩] [(0, .v (.slice A l.length c)), (1, .v (.int .i64 v)), (2, .v (.bool flex)), (7, .p 0 0), (9, .v (.slice A_ dn.length c_)), (10, .v (.slice none 0 0)), (11, .v (.int .i64 0)), (21, .v (.slice A l.length c)), (22, .v (.int .i64 ((l.length : Nat) : Int))), (23, .v (.int .i64 (IntKind.i64.wrap (((k : Nat) : Int) + 1))))]
      have he197 : IntKind.i64.wrap (((k : Nat) : Int) + 1) = ((k + 1 : Nat) : Int) := wrap_succ (by omega)
      rw [he197] at hE194
      exact ⟨l.length - (k + 1), by omega, k + 1, A_, c_, dn, rfl, by omega, by rw [← bodyB_neg1 he59 (by assumption)]; exact hB, hE194.pk, hW195, (Fr.trans (Fr.trans (Fr.trans hF46 hF85) hF91) hF196)⟩
  ·
    have hf198 := of_decide_eq_false hc49
    refine wp_exit ?_
    refine then_exit ?_
    refine then_exit ?_
    refine block_exit ?_
    refine then_normal ?_
    refine wp_seq ?_
    refine go_sp [(0, .v (.slice A l.length c)), (1, .v (.int .i64 v)), (2, .v (.bool flex)), (7, .p 0 0), (9, .v (.slice A_ dn.length c_)), (10, .v (.slice none 0 0)), (11, .v (.int .i64 0)), (47, .v (.bool (!flex)))] hW43 hE48 fun a199 hE200 => ?_
    clear hE48
    refine cond_of hE200 (b := !flex) (by kernel_rfl) (fun hc201 => ?_) (fun hc201 => ?_)
    ·
      refine go_sp [(8, .v (.slice A_ dn.length c_))] hW43 hE200 fun a203 hE204 => ?_
      clear hE200
      refine wp_ret ?_
      refine then_ret ?_
      refine leave hE204 hW43.cells (v := .slice A_ dn.length c_) (by kernel_rfl) ?_
      exact fresh_end hW43 (k := 0) rfl (by rw [show flex = false by simpa using hc201, partW_old, ← hB, bodyB_end (by omega), List.append_nil])
    ·
      refine wp_skip ?_
      refine then_normal ?_
      refine wp_seq ?_
      refine go_seq_region [0, 1, 2, 3] (by kernel_rfl) ?_
      refine go_rn [0] [1, 2, 3] [(0, .v (.slice A l.length c)), (1, .v (.int .i64 v)), (2, .v (.bool flex)), (7, .p 0 0), (9, .v (.slice A_ dn.length c_)), (10, .v (.slice none 0 0)), (11, .v (.int .i64 0)), (49, .v (.slice A l.length c))] hW43 hE200 fun a206 hE207 => ?_
      clear hE200
      refine of_op (wpOp_call hE207 (f := 89) (vs := [.slice A l.length c]) (d := 50) (by kernel_rfl) Tryz.call89 (sKnown _ _ l _ _ ⟨xfs, (h1.move hW43.step nilM hW43.imm), (fun i_ x_ h_ => ((h2 i_ x_ h_).move hW43.step nilM hW43.imm))⟩) ?_)
      rintro e_ w209 ⟨rfl, hs208⟩
      refine ⟨_, rfl, fun a210 hE211 => ?_⟩
      have hW212 := hW43.next_nil hs208
      have hF213 := hW43.frN hs208
      clear hE207 hW43
      refine go_rn [2, 3] [] [(0, .v (.slice A l.length c)), (1, .v (.int .i64 v)), (2, .v (.bool flex)), (7, .p 0 0), (9, .v (.slice A_ dn.length c_)), (10, .v (.slice none 0 0)), (11, .v (.int .i64 0)), (51, .v (.int .i64 (IntKind.i64.wrap (knownI l)))), (52, .v (.int .i64 0))] hW212 hE211 fun a214 hE215 => ?_
      clear hE211
      refine wpOps_nil ?_
      refine then_normal ?_
      refine wp_block ?_
      have hdn : dn = bodyB W l v (Tree.mk n1 s2 b3 l4 u5) 0 := by rw [← hB, bodyB_end (by omega), List.append_nil]
      have er216 : dn = (bodyB W l v (Tree.mk n1 s2 b3 l4 u5) 0) := hdn
      have er217 := congrArg (brow A_ c_ 5) er216
      obtain ⟨hW218, hF219⟩ := hW212.rowEq 0 [brow A_ c_ 5 (bodyB W l v (Tree.mk n1 s2 b3 l4 u5) 0)] er217
      clear hW212
      rw [er216] at hE215
      have hfx : flex = true := by simpa using hc201
      have htot2 : (bodyB W l v (Tree.mk n1 s2 b3 l4 u5) 0).length + (uv (tagsN W l (Tree.mk n1 s2 b3 l4 u5) (knownI l).toNat + (unknownT l u5).length)).length + ((tagsK W l (Tree.mk n1 s2 b3 l4 u5) (knownI l).toNat).length + (tagsB (unknownT l u5)).length) ≤ 1099511627776 := by have h_ := hroom; rw [hfx, partW_flex] at h_; simpa only [List.length_append] using h_
      have hmono := fun i (h_ : i ≤ (knownI l).toNat) => tagsK_mono W l (Tree.mk n1 s2 b3 l4 u5) h_
      have hcnt := tagsN_le W l (Tree.mk n1 s2 b3 l4 u5)
      have hknn := known_nat l
      have hE221 := EnvOk.pick hE215 (ks := [0, 1, 2, 7, 9, 10, 11, 51, 52]) (env' := [(0, .v (.slice A l.length c)), (1, .v (.int .i64 v)), (2, .v (.bool flex)), (7, .p 0 0), (9, .v (.slice A_ ((bodyB W l v (Tree.mk n1 s2 b3 l4 u5) 0).length) c_)), (10, .v (.slice none 0 0)), (11, .v (.int .i64 0)), (51, .v (.int .i64 (IntKind.i64.wrap (knownI l)))), (52, .v (.int .i64 0))]) (by kernel_rfl)
      have hE220 := hE221.cast (env' := [(0, .v (.slice A l.length c)), (1, .v (.int .i64 v)), (2, .v (.bool flex)), (7, .p 0 0), (9, .v (.slice A_ ((bodyB W l v (Tree.mk n1 s2 b3 l4 u5) 0).length) c_)), (10, .v (.slice none 0 0)), (11, .v (.int .i64 0)), (51, .v (.int .i64 (((knownI l).toNat : Nat) : Int))), (52, .v (.int .i64 0))]) (by rw [hknn])
      clear hE215 hE221
      have hW222 := hW218.addNil 5 1
      have hF223 := hW218.frNil 5 1
      clear hW218
      refine wp_loop_ghost (fun n_ a_ w_ => ∃ (k2 : Nat) (A2_ : Option Addr) (c2_ : Nat), n_ = (knownI l).toNat - k2 ∧ k2 ≤ (knownI l).toNat ∧ LInv hW222 132 [⟨b21, 0, [.int .i64 n1, .slice A6 s2.length c7, .bool b3, .slice A8 l4.length c9, .slice A10 u5.length c11], true⟩] [brow A_ c_ 5 (bodyB W l v (Tree.mk n1 s2 b3 l4 u5) 0), brow A2_ c2_ 5 (tagsK W l (Tree.mk n1 s2 b3 l4 u5) k2)] [(0, .v (.slice A l.length c)), (1, .v (.int .i64 v)), (2, .v (.bool flex)), (7, .p 0 0), (9, .v (.slice A_ ((bodyB W l v (Tree.mk n1 s2 b3 l4 u5) 0).length) c_)), (10, .v (.slice A2_ ((tagsK W l (Tree.mk n1 s2 b3 l4 u5) k2).length) c2_)), (11, .v (.int .i64 ((tagsN W l (Tree.mk n1 s2 b3 l4 u5) k2 : Nat) : Int))), (51, .v (.int .i64 (((knownI l).toNat : Nat) : Int))), (52, .v (.int .i64 ((k2 : Nat) : Int)))] a_ w_) ((knownI l).toNat) ⟨0, none, 0, by omega, by omega, hE220.pk, hW222, Fr.refl _ _ _⟩ ?_
      clear hE220
      rintro n224 a225 w226 ⟨k2, A2_, c2_, hn229, hk230, hE227, hW228, hF231⟩
      refine go_sp [(0, .v (.slice A l.length c)), (1, .v (.int .i64 v)), (2, .v (.bool flex)), (7, .p 0 0), (9, .v (.slice A_ ((bodyB W l v (Tree.mk n1 s2 b3 l4 u5) 0).length) c_)), (10, .v (.slice A2_ ((tagsK W l (Tree.mk n1 s2 b3 l4 u5) k2).length) c2_)), (11, .v (.int .i64 ((tagsN W l (Tree.mk n1 s2 b3 l4 u5) k2 : Nat) : Int))), (51, .v (.int .i64 (((knownI l).toNat : Nat) : Int))), (52, .v (.int .i64 ((k2 : Nat) : Int))), (53, .v (.bool (decide (((k2 : Nat) : Int) < (((knownI l).toNat : Nat) : Int)))))] hW228 hE227 fun a232 hE233 => ?_
      clear hE227
      refine wp_seq ?_
      refine cond_of hE233 (b := decide (((k2 : Nat) : Int) < (((knownI l).toNat : Nat) : Int))) (by kernel_rfl) (fun hc234 => ?_) (fun hc234 => ?_)
      ·
        have hf235 := of_decide_eq_true hc234
        refine wp_skip ?_
        refine then_normal ?_
        refine wp_seq ?_
        refine wp_block ?_
        refine go_sp [(0, .v (.slice A l.length c)), (1, .v (.int .i64 v)), (2, .v (.bool flex)), (7, .p 0 0), (9, .v (.slice A_ ((bodyB W l v (Tree.mk n1 s2 b3 l4 u5) 0).length) c_)), (10, .v (.slice A2_ ((tagsK W l (Tree.mk n1 s2 b3 l4 u5) k2).length) c2_)), (11, .v (.int .i64 ((tagsN W l (Tree.mk n1 s2 b3 l4 u5) k2 : Nat) : Int))), (14, .v (.int .i64 ((k2 : Nat) : Int))), (51, .v (.int .i64 (((knownI l).toNat : Nat) : Int))), (52, .v (.int .i64 ((k2 : Nat) : Int)))] hW228 hE233 fun a236 hE237 => ?_
        clear hE233
        refine go_sp [(0, .v (.slice A l.length c)), (1, .v (.int .i64 v)), (2, .v (.bool flex)), (7, .p 0 0), (9, .v (.slice A_ ((bodyB W l v (Tree.mk n1 s2 b3 l4 u5) 0).length) c_)), (10, .v (.slice A2_ ((tagsK W l (Tree.mk n1 s2 b3 l4 u5) k2).length) c2_)), (11, .v (.int .i64 ((tagsN W l (Tree.mk n1 s2 b3 l4 u5) k2 : Nat) : Int))), (14, .v (.int .i64 ((k2 : Nat) : Int))), (51, .v (.int .i64 (((knownI l).toNat : Nat) : Int))), (52, .v (.int .i64 ((k2 : Nat) : Int))), (55, .v (.slice A l.length c)), (56, .v (.int .i64 ((l.length : Nat) : Int))), (57, .v (.int .i64 0))] hW228 hE237 fun a238 hE239 => ?_
        clear hE237
        refine wp_block ?_
        have er240 : (tagsK W l (Tree.mk n1 s2 b3 l4 u5) k2) = (tagsK W l (Tree.mk n1 s2 b3 l4 u5) k2 ++ []) := (List.append_nil _).symm
        have er241 := congrArg (brow A2_ c2_ 5) er240
        obtain ⟨hW242, hF243⟩ := hW228.rowEq 1 [brow A_ c_ 5 (bodyB W l v (Tree.mk n1 s2 b3 l4 u5) 0), brow A2_ c2_ 5 (tagsK W l (Tree.mk n1 s2 b3 l4 u5) k2 ++ [])] er241
        clear hW228
        rw [er240] at hE239
        have hm2 := hmono (k2 + 1) (by omega)
        rw [tagsK, List.length_append] at hm2
        have hc2 := hcnt (k2 + 1)
        rw [tagsN, tagsK, List.length_append] at hc2
        have hc3 := tagN_le W k2 (Tree.mk n1 s2 b3 l4 u5) l 0
        refine wp_loop_ghost (fun n_ a_ w_ => ∃ (q : Nat) (A3_ : Option Addr) (c3_ : Nat) (dm : Bs) (cn : Nat), n_ = l.length - q ∧ q ≤ l.length ∧ (dm ++ tagB W (l.drop q) k2 (Tree.mk n1 s2 b3 l4 u5) q = tagB W l k2 (Tree.mk n1 s2 b3 l4 u5) 0) ∧ (cn + tagN W (l.drop q) k2 (Tree.mk n1 s2 b3 l4 u5) q = tagN W l k2 (Tree.mk n1 s2 b3 l4 u5) 0) ∧ LInv hW242 132 [⟨b21, 0, [.int .i64 n1, .slice A6 s2.length c7, .bool b3, .slice A8 l4.length c9, .slice A10 u5.length c11], true⟩] [brow A_ c_ 5 (bodyB W l v (Tree.mk n1 s2 b3 l4 u5) 0), brow A3_ c3_ 5 (tagsK W l (Tree.mk n1 s2 b3 l4 u5) k2 ++ dm)] [(0, .v (.slice A l.length c)), (1, .v (.int .i64 v)), (2, .v (.bool flex)), (7, .p 0 0), (9, .v (.slice A_ ((bodyB W l v (Tree.mk n1 s2 b3 l4 u5) 0).length) c_)), (10, .v (.slice A3_ ((tagsK W l (Tree.mk n1 s2 b3 l4 u5) k2 ++ dm).length) c3_)), (11, .v (.int .i64 ((tagsN W l (Tree.mk n1 s2 b3 l4 u5) k2 + cn : Nat) : Int))), (14, .v (.int .i64 ((k2 : Nat) : Int))), (51, .v (.int .i64 (((knownI l).toNat : Nat) : Int))), (52, .v (.int .i64 ((k2 : Nat) : Int))), (55, .v (.slice A l.length c)), (56, .v (.int .i64 ((l.length : Nat) : Int))), (57, .v (.int .i64 ((q : Nat) : Int)))] a_ w_) (l.length) ⟨0, A2_, c2_, [], 0, by omega, by omega, rfl, Nat.zero_add _, hE239.pk, hW242, Fr.refl _ _ _⟩ ?_
        clear hE239
        rintro n244 a245 w246 ⟨q, A3_, c3_, dm, cn, hn249, hk250, hB2, hN2, hE247, hW248, hF251⟩
        refine go_sp [(0, .v (.slice A l.length c)), (1, .v (.int .i64 v)), (2, .v (.bool flex)), (7, .p 0 0), (9, .v (.slice A_ ((bodyB W l v (Tree.mk n1 s2 b3 l4 u5) 0).length) c_)), (10, .v (.slice A3_ ((tagsK W l (Tree.mk n1 s2 b3 l4 u5) k2 ++ dm).length) c3_)), (11, .v (.int .i64 ((tagsN W l (Tree.mk n1 s2 b3 l4 u5) k2 + cn : Nat) : Int))), (14, .v (.int .i64 ((k2 : Nat) : Int))), (51, .v (.int .i64 (((knownI l).toNat : Nat) : Int))), (52, .v (.int .i64 ((k2 : Nat) : Int))), (55, .v (.slice A l.length c)), (56, .v (.int .i64 ((l.length : Nat) : Int))), (57, .v (.int .i64 ((q : Nat) : Int))), (58, .v (.bool (decide (((q : Nat) : Int) < ((l.length : Nat) : Int)))))] hW248 hE247 fun a252 hE253 => ?_
        clear hE247
        refine wp_seq ?_
        refine cond_of hE253 (b := decide (((q : Nat) : Int) < ((l.length : Nat) : Int))) (by kernel_rfl) (fun hc254 => ?_) (fun hc254 => ?_)
        ·
          have hf255 := of_decide_eq_true hc254
          refine wp_skip ?_
          refine then_normal ?_
          refine wp_seq ?_
          refine wp_block ?_
          refine go_seq_region [0, 1, 2, 3, 4, 5] (by kernel_rfl) ?_
          refine go_rn [0] [1, 2, 3, 4, 5] [(0, .v (.slice A l.length c)), (1, .v (.int .i64 v)), (2, .v (.bool flex)), (7, .p 0 0), (9, .v (.slice A_ ((bodyB W l v (Tree.mk n1 s2 b3 l4 u5) 0).length) c_)), (10, .v (.slice A3_ ((tagsK W l (Tree.mk n1 s2 b3 l4 u5) k2 ++ dm).length) c3_)), (11, .v (.int .i64 ((tagsN W l (Tree.mk n1 s2 b3 l4 u5) k2 + cn : Nat) : Int))), (14, .v (.int .i64 ((k2 : Nat) : Int))), (51, .v (.int .i64 (((knownI l).toNat : Nat) : Int))), (52, .v (.int .i64 ((k2 : Nat) : Int))), (55, .v (.slice A l.length c)), (56, .v (.int .i64 ((l.length : Nat) : Int))), (57, .v (.int .i64 ((q : Nat) : Int))), (59, .v (.int .i64 ((q : Nat) : Int)))] hW248 hE253 fun a256 hE257 => ?_
          clear hE253
          obtain ⟨b258, o259, hA260, hl261, hat262⟩ := Slots.get h1 (i := q) (by omega)
          obtain ⟨x263, he264⟩ : ∃ x, l[q]? = some x := ⟨_, List.getElem?_eq_getElem (by omega)⟩
          have hr265 := h2 q x263 he264
          obtain ⟨k266, y267, y268, y269, y270, y271, y272, l273, A274, c275, xs276, rfl, hcs277, h278, h279⟩ := hr265.open_
          rw [hcs277] at hr265
          have hsm280 := h278.small
          rw [hcs277] at hat262
          refine of_op (wpOp_index hE257 (t := 29) (A := A) (m := l.length) (q := ((q : Nat) : Int)) (d := 60) (by kernel_rfl) (e := 51) (size := 8) (bytes := 80) (by kernel_rfl) hA260 rfl (by omega) fun a281 hE282 => ?_)
          clear hE257
          refine of_op (wpOp_load hE282 (t := 51) (b := b258) (o := o259 + q * 8) (d := 61) (by kernel_rfl) (cs := [.int .i64 k266, .int .i64 y267, .int .i64 y268, .int .i64 y269, .int .i64 y270, .int .i64 y271, .int .i64 y272, .slice A274 l273.length c275]) (v := .agg #[.int .i64 k266, .int .i64 y267, .int .i64 y268, .int .i64 y269, .int .i64 y270, .int .i64 y271, .int .i64 y272, .slice A274 l273.length c275]) (by kernel_rfl) (AtF.move hat262 hW248.step nilM keepF).at_ fun a283 hE284 => ?_)
          clear hE282
          refine of_op (wpOp_alloc hW248 hE284 (d := 16) (cs := [.int .i64 0, .int .i64 0, .int .i64 0, .int .i64 0, .int .i64 0, .int .i64 0, .int .i64 0, .slice none 0 0]) (by kernel_rfl) fun b285 a286 w287 hb288 hz289 hF290 hW291 hE292 => ?_)
          clear hE284 hW248
          refine go_rn [4] [5] [(0, .v (.slice A l.length c)), (1, .v (.int .i64 v)), (2, .v (.bool flex)), (7, .p 0 0), (9, .v (.slice A_ ((bodyB W l v (Tree.mk n1 s2 b3 l4 u5) 0).length) c_)), (10, .v (.slice A3_ ((tagsK W l (Tree.mk n1 s2 b3 l4 u5) k2 ++ dm).length) c3_)), (11, .v (.int .i64 ((tagsN W l (Tree.mk n1 s2 b3 l4 u5) k2 + cn : Nat) : Int))), (14, .v (.int .i64 ((k2 : Nat) : Int))), (15, .v (.int .i64 ((q : Nat) : Int))), (16, .p 1 0), (51, .v (.int .i64 (((knownI l).toNat : Nat) : Int))), (52, .v (.int .i64 ((k2 : Nat) : Int))), (55, .v (.slice A l.length c)), (56, .v (.int .i64 ((l.length : Nat) : Int))), (57, .v (.int .i64 ((q : Nat) : Int))), (61, .v (.agg #[.int .i64 k266, .int .i64 y267, .int .i64 y268, .int .i64 y269, .int .i64 y270, .int .i64 y271, .int .i64 y272, .slice A274 l273.length c275]))] hW291 hE292 fun a293 hE294 => ?_
          clear hE292
          refine of_op (wpOp_store hW291 hE294 (oi := 1) (cs := [.int .i64 k266, .int .i64 y267, .int .i64 y268, .int .i64 y269, .int .i64 y270, .int .i64 y271, .int .i64 y272, .slice A274 l273.length c275]) (by kernel_rfl) fun w295 hF296 hW297 hE298 => ?_)
          clear hE294 hW291
          refine wpOps_nil ?_
          refine then_normal ?_
          refine go_seq_drawK 12 (by kernel_rfl) hW297 fun w299 hF300 hW301 hT302 => ?_
          clear hW297
          refine go_rnD [0, 1, 2, 3, 4] [(0, .v (.slice A l.length c)), (1, .v (.int .i64 v)), (2, .v (.bool flex)), (7, .p 0 0), (9, .v (.slice A_ ((bodyB W l v (Tree.mk n1 s2 b3 l4 u5) 0).length) c_)), (10, .v (.slice A3_ ((tagsK W l (Tree.mk n1 s2 b3 l4 u5) k2 ++ dm).length) c3_)), (11, .v (.int .i64 ((tagsN W l (Tree.mk n1 s2 b3 l4 u5) k2 + cn : Nat) : Int))), (14, .v (.int .i64 ((k2 : Nat) : Int))), (15, .v (.int .i64 ((q : Nat) : Int))), (16, .p 1 0), (51, .v (.int .i64 (((knownI l).toNat : Nat) : Int))), (52, .v (.int .i64 ((k2 : Nat) : Int))), (55, .v (.slice A l.length c)), (56, .v (.int .i64 ((l.length : Nat) : Int))), (57, .v (.int .i64 ((q : Nat) : Int))), (66, .v (.bool (y270 == ((k2 : Nat) : Int))))] 7 (panicFree_then (panicFree_block (panicFree_then (panicFree_then (panicFree_block (panicFree_block (panicFree_then (panicFree_then (panicFree_block (panicFree_then panicFree_body)))))))))) (fun _ h => h.cells) hT302 hE298 fun a303 hE304 => ?_
          clear hE298
          refine (Bool.eq_false_or_eq_true (y270 == ((k2 : Nat) : Int))).elim (fun hc305 => ?_) (fun hc305 => ?_)
          ·
            have hf306 : y270 = ((k2 : Nat) : Int) := by simpa using hc305
            have hE307 := hE304.cast (env' := [(0, .v (.slice A l.length c)), (1, .v (.int .i64 v)), (2, .v (.bool flex)), (7, .p 0 0), (9, .v (.slice A_ ((bodyB W l v (Tree.mk n1 s2 b3 l4 u5) 0).length) c_)), (10, .v (.slice A3_ ((tagsK W l (Tree.mk n1 s2 b3 l4 u5) k2 ++ dm).length) c3_)), (11, .v (.int .i64 ((tagsN W l (Tree.mk n1 s2 b3 l4 u5) k2 + cn : Nat) : Int))), (14, .v (.int .i64 ((k2 : Nat) : Int))), (15, .v (.int .i64 ((q : Nat) : Int))), (16, .p 1 0), (51, .v (.int .i64 (((knownI l).toNat : Nat) : Int))), (52, .v (.int .i64 ((k2 : Nat) : Int))), (55, .v (.slice A l.length c)), (56, .v (.int .i64 ((l.length : Nat) : Int))), (57, .v (.int .i64 ((q : Nat) : Int))), (66, .v (.bool true))]) (by rw [hc305])
            clear hE304
            refine go_rnD [5, 6, 7] [(0, .v (.slice A l.length c)), (1, .v (.int .i64 v)), (2, .v (.bool flex)), (7, .p 0 0), (9, .v (.slice A_ ((bodyB W l v (Tree.mk n1 s2 b3 l4 u5) 0).length) c_)), (10, .v (.slice A3_ ((tagsK W l (Tree.mk n1 s2 b3 l4 u5) k2 ++ dm).length) c3_)), (11, .v (.int .i64 ((tagsN W l (Tree.mk n1 s2 b3 l4 u5) k2 + cn : Nat) : Int))), (14, .v (.int .i64 ((k2 : Nat) : Int))), (15, .v (.int .i64 ((q : Nat) : Int))), (16, .p 1 0), (51, .v (.int .i64 (((knownI l).toNat : Nat) : Int))), (52, .v (.int .i64 ((k2 : Nat) : Int))), (55, .v (.slice A l.length c)), (56, .v (.int .i64 ((l.length : Nat) : Int))), (57, .v (.int .i64 ((q : Nat) : Int))), (66, .v (.bool true)), (67, .v (.agg #[.int .i64 k266, .int .i64 y267, .int .i64 y268, .int .i64 y269, .int .i64 y270, .int .i64 y271, .int .i64 y272, .slice A274 l273.length c275])), (68, .v (.agg #[.int .i64 n1, .slice A6 s2.length c7, .bool b3, .slice A8 l4.length c9, .slice A10 u5.length c11])), (69, .v (.int .i64 ((q : Nat) : Int)))] 4 (panicFree_then (panicFree_block (panicFree_then (panicFree_then (panicFree_block (panicFree_block (panicFree_then (panicFree_then (panicFree_block (panicFree_then panicFree_body)))))))))) (fun _ h => h.cells) hT302 hE307 fun a308 hE309 => ?_
            clear hE307
            refine anyC_op (i := 8) (by kernel_rfl) (wpOp_call hE309 (f := 37) (vs := [.agg #[.int .i64 n1, .slice A6 s2.length c7, .bool b3, .slice A8 l4.length c9, .slice A10 u5.length c11], .int .i64 ((q : Nat) : Int)]) (d := 70) (by kernel_rfl) Tryz.call37 (sAt _ _ q _ _ (ht.move hW301.step nilM hW301.imm)) ?_)
            rintro e_ w313 ⟨cs312, rfl, hr311, hs310⟩
            have hr314 := hr311.move hs310 nilM (fun b o h_ hb_ => hW301.laid (G := F) hs310 b o (.inl h_) (Nat.lt_of_lt_of_le hb_ hs310.size))
            obtain ⟨n315, s316, b317, l318, u319, A320, c321, A322, c323, A324, c325, xs326, ht332, hcs327, h328, h329, h330, h331⟩ := hr314.open_
            rw [hcs327] at hr314
            have hsm333 := h328.small
            have hsm334 := h329.small
            rw [hcs327]
            refine ⟨_, rfl, fun a335 hE336 => ?_⟩
            have hW337 := hW301.next_nil hs310
            have hF338 := hW301.frN hs310
            clear hE309
            have hT339 := TT.ofW hF338 hW337
            refine ⟨fun _ => hT339, ?_⟩
            refine anyC_op (i := 9) (by kernel_rfl) (wpOp_call hE336 (f := 92) (vs := [.agg #[.int .i64 k266, .int .i64 y267, .int .i64 y268, .int .i64 y269, .int .i64 y270, .int .i64 y271, .int .i64 y272, .slice A274 l273.length c275], .agg #[.int .i64 n315, .slice A320 s316.length c321, .bool b317, .slice A322 l318.length c323, .slice A324 u319.length c325]]) (d := 71) (by kernel_rfl) Tryz.call92 (sUsual _ _ _ _ _ _ _ (hr265.move hW337.step nilM hW337.imm) (Nat.le_refl _) hr314) ?_)
            rintro e_ w341 ⟨rfl, hs340⟩
            refine ⟨_, rfl, fun a342 hE343 => ?_⟩
            have hW344 := hW337.next_nil hs340
            have hF345 := hW337.frN hs340
            clear hE336 hW337
            have hT346 := TT.ofW (Fr.trans hF338 hF345) hW344
            refine ⟨fun _ => hT346, ?_⟩
            refine go_rnD [10, 11] [(0, .v (.slice A l.length c)), (1, .v (.int .i64 v)), (2, .v (.bool flex)), (7, .p 0 0), (9, .v (.slice A_ ((bodyB W l v (Tree.mk n1 s2 b3 l4 u5) 0).length) c_)), (10, .v (.slice A3_ ((tagsK W l (Tree.mk n1 s2 b3 l4 u5) k2 ++ dm).length) c3_)), (11, .v (.int .i64 ((tagsN W l (Tree.mk n1 s2 b3 l4 u5) k2 + cn : Nat) : Int))), (14, .v (.int .i64 ((k2 : Nat) : Int))), (15, .v (.int .i64 ((q : Nat) : Int))), (16, .p 1 0), (51, .v (.int .i64 (((knownI l).toNat : Nat) : Int))), (52, .v (.int .i64 ((k2 : Nat) : Int))), (55, .v (.slice A l.length c)), (56, .v (.int .i64 ((l.length : Nat) : Int))), (57, .v (.int .i64 ((q : Nat) : Int))), (73, .v (.bool (!(Fld.usual (Fld.mk k266 y267 y268 y269 y270 y271 y272 l273) (Tree.at_ (Tree.mk n1 s2 b3 l4 u5) q)))))] 0 (panicFree_then (panicFree_block (panicFree_then (panicFree_then (panicFree_block (panicFree_block (panicFree_then (panicFree_then (panicFree_block (panicFree_then panicFree_body)))))))))) (fun _ h => h.cells) hT346 hE343 fun a347 hE348 => ?_
            clear hE343
            refine anyC_done (by kernel_rfl) ?_ _
            refine then_normal ?_
            refine cond_of hE348 (b := !(Fld.usual (Fld.mk k266 y267 y268 y269 y270 y271 y272 l273) (Tree.at_ (Tree.mk n1 s2 b3 l4 u5) q))) (by kernel_rfl) (fun hc349 => ?_) (fun hc349 => ?_)
            ·
              refine go_seq_drawK 7 (by kernel_rfl) hW344 fun w351 hF352 hW353 hT354 => ?_
              clear hW344
              refine go_rnD [0, 1, 2, 3, 4] [(0, .v (.slice A l.length c)), (1, .v (.int .i64 v)), (2, .v (.bool flex)), (7, .p 0 0), (9, .v (.slice A_ ((bodyB W l v (Tree.mk n1 s2 b3 l4 u5) 0).length) c_)), (10, .v (.slice A3_ ((tagsK W l (Tree.mk n1 s2 b3 l4 u5) k2 ++ dm).length) c3_)), (11, .v (.int .i64 ((tagsN W l (Tree.mk n1 s2 b3 l4 u5) k2 + cn : Nat) : Int))), (14, .v (.int .i64 ((k2 : Nat) : Int))), (51, .v (.int .i64 (((knownI l).toNat : Nat) : Int))), (52, .v (.int .i64 ((k2 : Nat) : Int))), (55, .v (.slice A l.length c)), (56, .v (.int .i64 ((l.length : Nat) : Int))), (57, .v (.int .i64 ((q : Nat) : Int))), (74, .v (.agg #[.int .i64 k266, .int .i64 y267, .int .i64 y268, .int .i64 y269, .int .i64 y270, .int .i64 y271, .int .i64 y272, .slice A274 l273.length c275])), (75, .v (.int .i64 v)), (76, .v (.bool flex)), (77, .v (.agg #[.int .i64 n1, .slice A6 s2.length c7, .bool b3, .slice A8 l4.length c9, .slice A10 u5.length c11])), (78, .v (.int .i64 ((q : Nat) : Int)))] 3 (panicFree_then (panicFree_block (panicFree_then (panicFree_then (panicFree_block (panicFree_block (panicFree_then (panicFree_then (panicFree_block (panicFree_then panicFree_body)))))))))) (fun _ h => h.cells) hT354 hE348 fun a355 hE356 => ?_
              clear hE348
              refine anyC_op (i := 5) (by kernel_rfl) (wpOp_call hE356 (f := 37) (vs := [.agg #[.int .i64 n1, .slice A6 s2.length c7, .bool b3, .slice A8 l4.length c9, .slice A10 u5.length c11], .int .i64 ((q : Nat) : Int)]) (d := 79) (by kernel_rfl) Tryz.call37 (sAt _ _ q _ _ (ht.move hW353.step nilM hW353.imm)) ?_)
              rintro e_ w360 ⟨cs359, rfl, hr358, hs357⟩
              have hr361 := hr358.move hs357 nilM (fun b o h_ hb_ => hW353.laid (G := F) hs357 b o (.inl h_) (Nat.lt_of_lt_of_le hb_ hs357.size))
              obtain ⟨n362, s363, b364, l365, u366, A367, c368, A369, c370, A371, c372, xs373, ht379, hcs374, h375, h376, h377, h378⟩ := hr361.open_
              rw [hcs374] at hr361
              have hsm380 := h375.small
              have hsm381 := h376.small
              rw [hcs374]
              refine ⟨_, rfl, fun a382 hE383 => ?_⟩
              have hW384 := hW353.next_nil hs357
              have hF385 := hW353.frN hs357
              clear hE356
              have hT386 := TT.ofW hF385 hW384
              refine ⟨fun _ => hT386, ?_⟩
              refine anyC_op (i := 6) (by kernel_rfl) (wpOp_call hE383 (f := 91) (vs := [.agg #[.int .i64 k266, .int .i64 y267, .int .i64 y268, .int .i64 y269, .int .i64 y270, .int .i64 y271, .int .i64 y272, .slice A274 l273.length c275], .int .i64 v, .bool flex, .agg #[.int .i64 n362, .slice A367 s363.length c368, .bool b364, .slice A369 l365.length c370, .slice A371 u366.length c372]]) (d := 80) (by kernel_rfl) Tryz.call91 ( hW_ _ _ _ _ _ _ (List.mem_of_getElem? he264) (hr265.move hW384.step nilM hW384.imm) hr361 (by have h_ := congrArg List.length hB2; rw [tagB_pos he264 (by omega) (by simpa using hc349)] at h_; simp only [List.length_append] at h_; omega)) ?_)
              rintro e_ w391 ⟨A389, c390, rfl, ho388, hs387⟩
              refine ⟨_, rfl, fun a392 hE393 => ?_⟩
              obtain ⟨hW394, hF395⟩ := hW384.frFresh hs387 (brow A389 c390 5 (W (Fld.mk k266 y267 y268 y269 y270 y271 y272 l273) (Tree.at_ (Tree.mk n1 s2 b3 l4 u5) q))) (Nat.le_refl _) ho388
              clear hE383 hW384
              have hlw396 : (W (Fld.mk k266 y267 y268 y269 y270 y271 y272 l273) (Tree.at_ (Tree.mk n1 s2 b3 l4 u5) q)).length ≤ 1099511627776 := by have h_ := congrArg List.length hB2; rw [tagB_pos he264 (by omega) (by simpa using hc349)] at h_; simp only [List.length_append] at h_; omega
              have hT397 := TT.ofW (Fr.trans hF385 hF395) hW394
              refine ⟨fun _ => hT397, ?_⟩
              refine anyC_op (i := 7) (by kernel_rfl) (wpOp_pure [0, 1, 2, 7, 9, 10, 11, 14, 17, 51, 52, 55, 56, 57] hW394.cells hE393 (env' := [(0, .v (.slice A l.length c)), (1, .v (.int .i64 v)), (2, .v (.bool flex)), (7, .p 0 0), (9, .v (.slice A_ ((bodyB W l v (Tree.mk n1 s2 b3 l4 u5) 0).length) c_)), (10, .v (.slice A3_ ((tagsK W l (Tree.mk n1 s2 b3 l4 u5) k2 ++ dm).length) c3_)), (11, .v (.int .i64 ((tagsN W l (Tree.mk n1 s2 b3 l4 u5) k2 + cn : Nat) : Int))), (14, .v (.int .i64 ((k2 : Nat) : Int))), (17, .v (.slice A389 ((W (Fld.mk k266 y267 y268 y269 y270 y271 y272 l273) (Tree.at_ (Tree.mk n1 s2 b3 l4 u5) q)).length) c390)), (51, .v (.int .i64 (((knownI l).toNat : Nat) : Int))), (52, .v (.int .i64 ((k2 : Nat) : Int))), (55, .v (.slice A l.length c)), (56, .v (.int .i64 ((l.length : Nat) : Int))), (57, .v (.int .i64 ((q : Nat) : Int)))]) (by kernel_rfl) fun a398 hE399 => ?_)
              clear hE393
              refine ⟨fun h => absurd rfl h, ?_⟩
              refine anyC_done (by kernel_rfl) ?_ _
              refine then_normal ?_
              refine go_seq_region [0, 1, 2, 3, 4, 5, 6, 7, 8, 9, 10, 11, 12] (by kernel_rfl) ?_
              refine go_rn [0, 1, 2] [3, 4, 5, 6, 7, 8, 9, 10, 11, 12] [(0, .v (.slice A l.length c)), (1, .v (.int .i64 v)), (2, .v (.bool flex)), (7, .p 0 0), (9, .v (.slice A_ ((bodyB W l v (Tree.mk n1 s2 b3 l4 u5) 0).length) c_)), (11, .v (.int .i64 ((tagsN W l (Tree.mk n1 s2 b3 l4 u5) k2 + cn : Nat) : Int))), (14, .v (.int .i64 ((k2 : Nat) : Int))), (17, .v (.slice A389 ((W (Fld.mk k266 y267 y268 y269 y270 y271 y272 l273) (Tree.at_ (Tree.mk n1 s2 b3 l4 u5) q)).length) c390)), (51, .v (.int .i64 (((knownI l).toNat : Nat) : Int))), (52, .v (.int .i64 ((k2 : Nat) : Int))), (55, .v (.slice A l.length c)), (56, .v (.int .i64 ((l.length : Nat) : Int))), (57, .v (.int .i64 ((q : Nat) : Int))), (81, .v (.slice A3_ ((tagsK W l (Tree.mk n1 s2 b3 l4 u5) k2 ++ dm).length) c3_)), (83, .v (.int .u64 (IntKind.u64.wrap ((k2 : Nat) : Int))))] hW394 hE399 fun a400 hE401 => ?_
              clear hE399
              have he402 : IntKind.u64.wrap ((k2 : Nat) : Int) = ((k2 : Nat) : Int) := by simp only [wrap_u64, wrap_u32, wrap_u16, IntKind.wrap_i64, IntKind.wrap_i32]; omega
              have hE404 := EnvOk.pick hE401 (ks := [0, 1, 2, 7, 9, 11, 14, 17, 51, 52, 55, 56, 57, 81, 83]) (env' := [(0, .v (.slice A l.length c)), (1, .v (.int .i64 v)), (2, .v (.bool flex)), (7, .p 0 0), (9, .v (.slice A_ ((bodyB W l v (Tree.mk n1 s2 b3 l4 u5) 0).length) c_)), (11, .v (.int .i64 ((tagsN W l (Tree.mk n1 s2 b3 l4 u5) k2 + cn : Nat) : Int))), (14, .v (.int .i64 ((k2 : Nat) : Int))), (17, .v (.slice A389 ((W (Fld.mk k266 y267 y268 y269 y270 y271 y272 l273) (Tree.at_ (Tree.mk n1 s2 b3 l4 u5) q)).length) c390)), (51, .v (.int .i64 (((knownI l).toNat : Nat) : Int))), (52, .v (.int .i64 ((k2 : Nat) : Int))), (55, .v (.slice A l.length c)), (56, .v (.int .i64 ((l.length : Nat) : Int))), (57, .v (.int .i64 ((q : Nat) : Int))), (81, .v (.slice A3_ ((tagsK W l (Tree.mk n1 s2 b3 l4 u5) k2 ++ dm).length) c3_)), (83, .v (.int .u64 (IntKind.u64.wrap ((k2 : Nat) : Int))))]) (by kernel_rfl)
              have hE403 := hE404.cast (env' := [(0, .v (.slice A l.length c)), (1, .v (.int .i64 v)), (2, .v (.bool flex)), (7, .p 0 0), (9, .v (.slice A_ ((bodyB W l v (Tree.mk n1 s2 b3 l4 u5) 0).length) c_)), (11, .v (.int .i64 ((tagsN W l (Tree.mk n1 s2 b3 l4 u5) k2 + cn : Nat) : Int))), (14, .v (.int .i64 ((k2 : Nat) : Int))), (17, .v (.slice A389 ((W (Fld.mk k266 y267 y268 y269 y270 y271 y272 l273) (Tree.at_ (Tree.mk n1 s2 b3 l4 u5) q)).length) c390)), (51, .v (.int .i64 (((knownI l).toNat : Nat) : Int))), (52, .v (.int .i64 ((k2 : Nat) : Int))), (55, .v (.slice A l.length c)), (56, .v (.int .i64 ((l.length : Nat) : Int))), (57, .v (.int .i64 ((q : Nat) : Int))), (81, .v (.slice A3_ ((tagsK W l (Tree.mk n1 s2 b3 l4 u5) k2 ++ dm).length) c3_)), (83, .v (.int .u64 ((k2 : Nat) : Int)))]) (by rw [he402])
              clear hE401 hE404
              refine of_op (wpOp_call hE403 (f := 93) (vs := [.int .u64 ((k2 : Nat) : Int)]) (d := 84) (by kernel_rfl) Tryz.call93 (sUvarint k2 (by omega) _) ?_)
              rintro e_ w409 ⟨A407, c408, rfl, ho406, hs405⟩
              refine ⟨_, rfl, fun a410 hE411 => ?_⟩
              obtain ⟨hW412, hF413⟩ := hW394.frFresh hs405 (brow A407 c408 5 (uv k2)) (Nat.le_refl _) ho406
              clear hE403 hW394
              refine of_op (wpOp_append hW412 hE411 (k := 1) (d := 85) (t := 22) (e := 5) (size := 1) (bytes := 1) (A := A3_) (As := A407) (m0 := ((tagsK W l (Tree.mk n1 s2 b3 l4 u5) k2 ++ dm).length)) (c := c3_) (m := ((uv k2).length)) (cs := c408) (xs := (bc (tagsK W l (Tree.mk n1 s2 b3 l4 u5) k2 ++ dm))) (news := bc (uv k2)) (by kernel_rfl) (by kernel_rfl) rfl (own_src (hW412.own 3 _ rfl) (bc_one _)) (own_cap (hW412.own 3 _ rfl)) (by have h_ := congrArg List.length hB2; rw [tagB_pos he264 (by omega) (by simpa using hc349)] at h_; simp only [List.length_append] at h_ ⊢; omega) fun A414 c415 a416 w417 hF418 hW419 hE420 => ?_)
              clear hE411 hW412
              have er421 : (⟨A414, c415, 5, 1, (tagsK W l (Tree.mk n1 s2 b3 l4 u5) k2 ++ dm).length + (uv k2).length, bc (tagsK W l (Tree.mk n1 s2 b3 l4 u5) k2 ++ dm) ++ bc (uv k2)⟩ : Rw) = brow A414 c415 5 (tagsK W l (Tree.mk n1 s2 b3 l4 u5) k2 ++ dm ++ (uv k2)) := brow_eq (rfl) rfl
              obtain ⟨hW422, hF424⟩ := hW419.rowEq 1 [brow A_ c_ 5 (bodyB W l v (Tree.mk n1 s2 b3 l4 u5) 0), brow A414 c415 5 (tagsK W l (Tree.mk n1 s2 b3 l4 u5) k2 ++ dm ++ (uv k2)), brow A389 c390 5 (W (Fld.mk k266 y267 y268 y269 y270 y271 y272 l273) (Tree.at_ (Tree.mk n1 s2 b3 l4 u5) q)), brow A407 c408 5 (uv k2)] er421
              clear hW419
              have hE425 := EnvOk.pick hE420 (ks := [0, 1, 2, 7, 9, 11, 14, 17, 51, 52, 55, 56, 57, 81, 83, 84, 85]) (env' := [(0, .v (.slice A l.length c)), (1, .v (.int .i64 v)), (2, .v (.bool flex)), (7, .p 0 0), (9, .v (.slice A_ ((bodyB W l v (Tree.mk n1 s2 b3 l4 u5) 0).length) c_)), (11, .v (.int .i64 ((tagsN W l (Tree.mk n1 s2 b3 l4 u5) k2 + cn : Nat) : Int))), (14, .v (.int .i64 ((k2 : Nat) : Int))), (17, .v (.slice A389 ((W (Fld.mk k266 y267 y268 y269 y270 y271 y272 l273) (Tree.at_ (Tree.mk n1 s2 b3 l4 u5) q)).length) c390)), (51, .v (.int .i64 (((knownI l).toNat : Nat) : Int))), (52, .v (.int .i64 ((k2 : Nat) : Int))), (55, .v (.slice A l.length c)), (56, .v (.int .i64 ((l.length : Nat) : Int))), (57, .v (.int .i64 ((q : Nat) : Int))), (81, .v (.slice A3_ ((tagsK W l (Tree.mk n1 s2 b3 l4 u5) k2 ++ dm).length) c3_)), (83, .v (.int .u64 ((k2 : Nat) : Int))), (84, .v (.slice A407 ((uv k2).length) c408)), (85, .v (.slice A414 ((tagsK W l (Tree.mk n1 s2 b3 l4 u5) k2 ++ dm).length + (uv k2).length) c415))]) (by kernel_rfl)
              have hE423 := hE425.cast (env' := [(0, .v (.slice A l.length c)), (1, .v (.int .i64 v)), (2, .v (.bool flex)), (7, .p 0 0), (9, .v (.slice A_ ((bodyB W l v (Tree.mk n1 s2 b3 l4 u5) 0).length) c_)), (11, .v (.int .i64 ((tagsN W l (Tree.mk n1 s2 b3 l4 u5) k2 + cn : Nat) : Int))), (14, .v (.int .i64 ((k2 : Nat) : Int))), (17, .v (.slice A389 ((W (Fld.mk k266 y267 y268 y269 y270 y271 y272 l273) (Tree.at_ (Tree.mk n1 s2 b3 l4 u5) q)).length) c390)), (51, .v (.int .i64 (((knownI l).toNat : Nat) : Int))), (52, .v (.int .i64 ((k2 : Nat) : Int))), (55, .v (.slice A l.length c)), (56, .v (.int .i64 ((l.length : Nat) : Int))), (57, .v (.int .i64 ((q : Nat) : Int))), (81, .v (.slice A3_ ((tagsK W l (Tree.mk n1 s2 b3 l4 u5) k2 ++ dm).length) c3_)), (83, .v (.int .u64 ((k2 : Nat) : Int))), (84, .v (.slice A407 ((uv k2).length) c408)), (85, .v (.slice A414 ((tagsK W l (Tree.mk n1 s2 b3 l4 u5) k2 ++ dm ++ (uv k2)).length) c415))]) (by simp only [List.length_append, List.length_cons, List.length_nil, Nat.zero_add])
              clear hE420
              clear hE425
              refine go_rn [5, 6, 7] [8, 9, 10, 11, 12] [(0, .v (.slice A l.length c)), (1, .v (.int .i64 v)), (2, .v (.bool flex)), (7, .p 0 0), (9, .v (.slice A_ ((bodyB W l v (Tree.mk n1 s2 b3 l4 u5) 0).length) c_)), (11, .v (.int .i64 ((tagsN W l (Tree.mk n1 s2 b3 l4 u5) k2 + cn : Nat) : Int))), (14, .v (.int .i64 ((k2 : Nat) : Int))), (17, .v (.slice A389 ((W (Fld.mk k266 y267 y268 y269 y270 y271 y272 l273) (Tree.at_ (Tree.mk n1 s2 b3 l4 u5) q)).length) c390)), (51, .v (.int .i64 (((knownI l).toNat : Nat) : Int))), (52, .v (.int .i64 ((k2 : Nat) : Int))), (55, .v (.slice A l.length c)), (56, .v (.int .i64 ((l.length : Nat) : Int))), (57, .v (.int .i64 ((q : Nat) : Int))), (85, .v (.slice A414 ((tagsK W l (Tree.mk n1 s2 b3 l4 u5) k2 ++ dm ++ (uv k2)).length) c415)), (88, .v (.int .u64 (IntKind.u64.wrap (((W (Fld.mk k266 y267 y268 y269 y270 y271 y272 l273) (Tree.at_ (Tree.mk n1 s2 b3 l4 u5) q)).length : Nat) : Int))))] hW422 hE423 fun a426 hE427 => ?_
              clear hE423
              have he428 : IntKind.u64.wrap (((W (Fld.mk k266 y267 y268 y269 y270 y271 y272 l273) (Tree.at_ (Tree.mk n1 s2 b3 l4 u5) q)).length : Nat) : Int) = (((W (Fld.mk k266 y267 y268 y269 y270 y271 y272 l273) (Tree.at_ (Tree.mk n1 s2 b3 l4 u5) q)).length : Nat) : Int) := by simp only [wrap_u64, wrap_u32, wrap_u16, IntKind.wrap_i64, IntKind.wrap_i32]; omega
              have hE430 := EnvOk.pick hE427 (ks := [0, 1, 2, 7, 9, 11, 14, 17, 51, 52, 55, 56, 57, 85, 88]) (env' := [(0, .v (.slice A l.length c)), (1, .v (.int .i64 v)), (2, .v (.bool flex)), (7, .p 0 0), (9, .v (.slice A_ ((bodyB W l v (Tree.mk n1 s2 b3 l4 u5) 0).length) c_)), (11, .v (.int .i64 ((tagsN W l (Tree.mk n1 s2 b3 l4 u5) k2 + cn : Nat) : Int))), (14, .v (.int .i64 ((k2 : Nat) : Int))), (17, .v (.slice A389 ((W (Fld.mk k266 y267 y268 y269 y270 y271 y272 l273) (Tree.at_ (Tree.mk n1 s2 b3 l4 u5) q)).length) c390)), (51, .v (.int .i64 (((knownI l).toNat : Nat) : Int))), (52, .v (.int .i64 ((k2 : Nat) : Int))), (55, .v (.slice A l.length c)), (56, .v (.int .i64 ((l.length : Nat) : Int))), (57, .v (.int .i64 ((q : Nat) : Int))), (85, .v (.slice A414 ((tagsK W l (Tree.mk n1 s2 b3 l4 u5) k2 ++ dm ++ (uv k2)).length) c415)), (88, .v (.int .u64 (IntKind.u64.wrap (((W (Fld.mk k266 y267 y268 y269 y270 y271 y272 l273) (Tree.at_ (Tree.mk n1 s2 b3 l4 u5) q)).length : Nat) : Int))))]) (by kernel_rfl)
              have hE429 := hE430.cast (env' := [(0, .v (.slice A l.length c)), (1, .v (.int .i64 v)), (2, .v (.bool flex)), (7, .p 0 0), (9, .v (.slice A_ ((bodyB W l v (Tree.mk n1 s2 b3 l4 u5) 0).length) c_)), (11, .v (.int .i64 ((tagsN W l (Tree.mk n1 s2 b3 l4 u5) k2 + cn : Nat) : Int))), (14, .v (.int .i64 ((k2 : Nat) : Int))), (17, .v (.slice A389 ((W (Fld.mk k266 y267 y268 y269 y270 y271 y272 l273) (Tree.at_ (Tree.mk n1 s2 b3 l4 u5) q)).length) c390)), (51, .v (.int .i64 (((knownI l).toNat : Nat) : Int))), (52, .v (.int .i64 ((k2 : Nat) : Int))), (55, .v (.slice A l.length c)), (56, .v (.int .i64 ((l.length : Nat) : Int))), (57, .v (.int .i64 ((q : Nat) : Int))), (85, .v (.slice A414 ((tagsK W l (Tree.mk n1 s2 b3 l4 u5) k2 ++ dm ++ (uv k2)).length) c415)), (88, .v (.int .u64 (((W (Fld.mk k266 y267 y268 y269 y270 y271 y272 l273) (Tree.at_ (Tree.mk n1 s2 b3 l4 u5) q)).length : Nat) : Int)))]) (by rw [he428])
              clear hE427 hE430
              refine of_op (wpOp_call hE429 (f := 93) (vs := [.int .u64 (((W (Fld.mk k266 y267 y268 y269 y270 y271 y272 l273) (Tree.at_ (Tree.mk n1 s2 b3 l4 u5) q)).length : Nat) : Int)]) (d := 89) (by kernel_rfl) Tryz.call93 (sUvarint ((W (Fld.mk k266 y267 y268 y269 y270 y271 y272 l273) (Tree.at_ (Tree.mk n1 s2 b3 l4 u5) q)).length) (by omega) _) ?_)
              rintro e_ w435 ⟨A433, c434, rfl, ho432, hs431⟩
              refine ⟨_, rfl, fun a436 hE437 => ?_⟩
              obtain ⟨hW438, hF439⟩ := hW422.frFresh hs431 (brow A433 c434 5 (uv ((W (Fld.mk k266 y267 y268 y269 y270 y271 y272 l273) (Tree.at_ (Tree.mk n1 s2 b3 l4 u5) q)).length))) (Nat.le_refl _) ho432
              clear hE429 hW422
              refine of_op (wpOp_append hW438 hE437 (k := 1) (d := 90) (t := 22) (e := 5) (size := 1) (bytes := 1) (A := A414) (As := A433) (m0 := ((tagsK W l (Tree.mk n1 s2 b3 l4 u5) k2 ++ dm ++ (uv k2)).length)) (c := c415) (m := ((uv ((W (Fld.mk k266 y267 y268 y269 y270 y271 y272 l273) (Tree.at_ (Tree.mk n1 s2 b3 l4 u5) q)).length)).length)) (cs := c434) (xs := (bc (tagsK W l (Tree.mk n1 s2 b3 l4 u5) k2 ++ dm ++ (uv k2)))) (news := bc (uv ((W (Fld.mk k266 y267 y268 y269 y270 y271 y272 l273) (Tree.at_ (Tree.mk n1 s2 b3 l4 u5) q)).length))) (by kernel_rfl) (by kernel_rfl) rfl (own_src (hW438.own 4 _ rfl) (bc_one _)) (own_cap (hW438.own 4 _ rfl)) (by have h_ := congrArg List.length hB2; rw [tagB_pos he264 (by omega) (by simpa using hc349)] at h_; simp only [List.length_append] at h_ ⊢; omega) fun A440 c441 a442 w443 hF444 hW445 hE446 => ?_)
              clear hE437 hW438
              have er447 : (⟨A440, c441, 5, 1, (tagsK W l (Tree.mk n1 s2 b3 l4 u5) k2 ++ dm ++ (uv k2)).length + (uv ((W (Fld.mk k266 y267 y268 y269 y270 y271 y272 l273) (Tree.at_ (Tree.mk n1 s2 b3 l4 u5) q)).length)).length, bc (tagsK W l (Tree.mk n1 s2 b3 l4 u5) k2 ++ dm ++ (uv k2)) ++ bc (uv ((W (Fld.mk k266 y267 y268 y269 y270 y271 y272 l273) (Tree.at_ (Tree.mk n1 s2 b3 l4 u5) q)).length))⟩ : Rw) = brow A440 c441 5 (tagsK W l (Tree.mk n1 s2 b3 l4 u5) k2 ++ dm ++ (uv k2) ++ (uv ((W (Fld.mk k266 y267 y268 y269 y270 y271 y272 l273) (Tree.at_ (Tree.mk n1 s2 b3 l4 u5) q)).length))) := brow_eq (rfl) rfl
              obtain ⟨hW448, hF450⟩ := hW445.rowEq 1 [brow A_ c_ 5 (bodyB W l v (Tree.mk n1 s2 b3 l4 u5) 0), brow A440 c441 5 (tagsK W l (Tree.mk n1 s2 b3 l4 u5) k2 ++ dm ++ (uv k2) ++ (uv ((W (Fld.mk k266 y267 y268 y269 y270 y271 y272 l273) (Tree.at_ (Tree.mk n1 s2 b3 l4 u5) q)).length))), brow A389 c390 5 (W (Fld.mk k266 y267 y268 y269 y270 y271 y272 l273) (Tree.at_ (Tree.mk n1 s2 b3 l4 u5) q)), brow A407 c408 5 (uv k2), brow A433 c434 5 (uv ((W (Fld.mk k266 y267 y268 y269 y270 y271 y272 l273) (Tree.at_ (Tree.mk n1 s2 b3 l4 u5) q)).length))] er447
              clear hW445
              have hE451 := EnvOk.pick hE446 (ks := [0, 1, 2, 7, 9, 11, 14, 17, 51, 52, 55, 56, 57, 85, 88, 89, 90]) (env' := [(0, .v (.slice A l.length c)), (1, .v (.int .i64 v)), (2, .v (.bool flex)), (7, .p 0 0), (9, .v (.slice A_ ((bodyB W l v (Tree.mk n1 s2 b3 l4 u5) 0).length) c_)), (11, .v (.int .i64 ((tagsN W l (Tree.mk n1 s2 b3 l4 u5) k2 + cn : Nat) : Int))), (14, .v (.int .i64 ((k2 : Nat) : Int))), (17, .v (.slice A389 ((W (Fld.mk k266 y267 y268 y269 y270 y271 y272 l273) (Tree.at_ (Tree.mk n1 s2 b3 l4 u5) q)).length) c390)), (51, .v (.int .i64 (((knownI l).toNat : Nat) : Int))), (52, .v (.int .i64 ((k2 : Nat) : Int))), (55, .v (.slice A l.length c)), (56, .v (.int .i64 ((l.length : Nat) : Int))), (57, .v (.int .i64 ((q : Nat) : Int))), (85, .v (.slice A414 ((tagsK W l (Tree.mk n1 s2 b3 l4 u5) k2 ++ dm ++ (uv k2)).length) c415)), (88, .v (.int .u64 (((W (Fld.mk k266 y267 y268 y269 y270 y271 y272 l273) (Tree.at_ (Tree.mk n1 s2 b3 l4 u5) q)).length : Nat) : Int))), (89, .v (.slice A433 ((uv ((W (Fld.mk k266 y267 y268 y269 y270 y271 y272 l273) (Tree.at_ (Tree.mk n1 s2 b3 l4 u5) q)).length)).length) c434)), (90, .v (.slice A440 ((tagsK W l (Tree.mk n1 s2 b3 l4 u5) k2 ++ dm ++ (uv k2)).length + (uv ((W (Fld.mk k266 y267 y268 y269 y270 y271 y272 l273) (Tree.at_ (Tree.mk n1 s2 b3 l4 u5) q)).length)).length) c441))]) (by kernel_rfl)
              have hE449 := hE451.cast (env' := [(0, .v (.slice A l.length c)), (1, .v (.int .i64 v)), (2, .v (.bool flex)), (7, .p 0 0), (9, .v (.slice A_ ((bodyB W l v (Tree.mk n1 s2 b3 l4 u5) 0).length) c_)), (11, .v (.int .i64 ((tagsN W l (Tree.mk n1 s2 b3 l4 u5) k2 + cn : Nat) : Int))), (14, .v (.int .i64 ((k2 : Nat) : Int))), (17, .v (.slice A389 ((W (Fld.mk k266 y267 y268 y269 y270 y271 y272 l273) (Tree.at_ (Tree.mk n1 s2 b3 l4 u5) q)).length) c390)), (51, .v (.int .i64 (((knownI l).toNat : Nat) : Int))), (52, .v (.int .i64 ((k2 : Nat) : Int))), (55, .v (.slice A l.length c)), (56, .v (.int .i64 ((l.length : Nat) : Int))), (57, .v (.int .i64 ((q : Nat) : Int))), (85, .v (.slice A414 ((tagsK W l (Tree.mk n1 s2 b3 l4 u5) k2 ++ dm ++ (uv k2)).length) c415)), (88, .v (.int .u64 (((W (Fld.mk k266 y267 y268 y269 y270 y271 y272 l273) (Tree.at_ (Tree.mk n1 s2 b3 l4 u5) q)).length : Nat) : Int))), (89, .v (.slice A433 ((uv ((W (Fld.mk k266 y267 y268 y269 y270 y271 y272 l273) (Tree.at_ (Tree.mk n1 s2 b3 l4 u5) q)).length)).length) c434)), (90, .v (.slice A440 ((tagsK W l (Tree.mk n1 s2 b3 l4 u5) k2 ++ dm ++ (uv k2) ++ (uv ((W (Fld.mk k266 y267 y268 y269 y270 y271 y272 l273) (Tree.at_ (Tree.mk n1 s2 b3 l4 u5) q)).length))).length) c441))]) (by simp only [List.length_append, List.length_cons, List.length_nil, Nat.zero_add])
              clear hE446
              clear hE451
              refine go_rn [10] [11, 12] [(0, .v (.slice A l.length c)), (1, .v (.int .i64 v)), (2, .v (.bool flex)), (7, .p 0 0), (9, .v (.slice A_ ((bodyB W l v (Tree.mk n1 s2 b3 l4 u5) 0).length) c_)), (11, .v (.int .i64 ((tagsN W l (Tree.mk n1 s2 b3 l4 u5) k2 + cn : Nat) : Int))), (14, .v (.int .i64 ((k2 : Nat) : Int))), (51, .v (.int .i64 (((knownI l).toNat : Nat) : Int))), (52, .v (.int .i64 ((k2 : Nat) : Int))), (55, .v (.slice A l.length c)), (56, .v (.int .i64 ((l.length : Nat) : Int))), (57, .v (.int .i64 ((q : Nat) : Int))), (90, .v (.slice A440 ((tagsK W l (Tree.mk n1 s2 b3 l4 u5) k2 ++ dm ++ (uv k2) ++ (uv ((W (Fld.mk k266 y267 y268 y269 y270 y271 y272 l273) (Tree.at_ (Tree.mk n1 s2 b3 l4 u5) q)).length))).length) c441)), (91, .v (.slice A389 ((W (Fld.mk k266 y267 y268 y269 y270 y271 y272 l273) (Tree.at_ (Tree.mk n1 s2 b3 l4 u5) q)).length) c390))] hW448 hE449 fun a452 hE453 => ?_
              clear hE449
              refine of_op (wpOp_append hW448 hE453 (k := 1) (d := 92) (t := 22) (e := 5) (size := 1) (bytes := 1) (A := A440) (As := A389) (m0 := ((tagsK W l (Tree.mk n1 s2 b3 l4 u5) k2 ++ dm ++ (uv k2) ++ (uv ((W (Fld.mk k266 y267 y268 y269 y270 y271 y272 l273) (Tree.at_ (Tree.mk n1 s2 b3 l4 u5) q)).length))).length)) (c := c441) (m := ((W (Fld.mk k266 y267 y268 y269 y270 y271 y272 l273) (Tree.at_ (Tree.mk n1 s2 b3 l4 u5) q)).length)) (cs := c390) (xs := (bc (tagsK W l (Tree.mk n1 s2 b3 l4 u5) k2 ++ dm ++ (uv k2) ++ (uv ((W (Fld.mk k266 y267 y268 y269 y270 y271 y272 l273) (Tree.at_ (Tree.mk n1 s2 b3 l4 u5) q)).length))))) (news := bc (W (Fld.mk k266 y267 y268 y269 y270 y271 y272 l273) (Tree.at_ (Tree.mk n1 s2 b3 l4 u5) q))) (by kernel_rfl) (by kernel_rfl) rfl (own_src (hW448.own 2 _ rfl) (bc_one _)) (own_cap (hW448.own 2 _ rfl)) (by have h_ := congrArg List.length hB2; rw [tagB_pos he264 (by omega) (by simpa using hc349)] at h_; simp only [List.length_append] at h_ ⊢; omega) fun A454 c455 a456 w457 hF458 hW459 hE460 => ?_)
              clear hE453 hW448
              have er461 : (⟨A454, c455, 5, 1, (tagsK W l (Tree.mk n1 s2 b3 l4 u5) k2 ++ dm ++ (uv k2) ++ (uv ((W (Fld.mk k266 y267 y268 y269 y270 y271 y272 l273) (Tree.at_ (Tree.mk n1 s2 b3 l4 u5) q)).length))).length + (W (Fld.mk k266 y267 y268 y269 y270 y271 y272 l273) (Tree.at_ (Tree.mk n1 s2 b3 l4 u5) q)).length, bc (tagsK W l (Tree.mk n1 s2 b3 l4 u5) k2 ++ dm ++ (uv k2) ++ (uv ((W (Fld.mk k266 y267 y268 y269 y270 y271 y272 l273) (Tree.at_ (Tree.mk n1 s2 b3 l4 u5) q)).length))) ++ bc (W (Fld.mk k266 y267 y268 y269 y270 y271 y272 l273) (Tree.at_ (Tree.mk n1 s2 b3 l4 u5) q))⟩ : Rw) = brow A454 c455 5 (tagsK W l (Tree.mk n1 s2 b3 l4 u5) k2 ++ dm ++ (uv k2) ++ (uv ((W (Fld.mk k266 y267 y268 y269 y270 y271 y272 l273) (Tree.at_ (Tree.mk n1 s2 b3 l4 u5) q)).length)) ++ (W (Fld.mk k266 y267 y268 y269 y270 y271 y272 l273) (Tree.at_ (Tree.mk n1 s2 b3 l4 u5) q))) := brow_eq (rfl) rfl
              obtain ⟨hW462, hF464⟩ := hW459.rowEq 1 [brow A_ c_ 5 (bodyB W l v (Tree.mk n1 s2 b3 l4 u5) 0), brow A454 c455 5 (tagsK W l (Tree.mk n1 s2 b3 l4 u5) k2 ++ dm ++ (uv k2) ++ (uv ((W (Fld.mk k266 y267 y268 y269 y270 y271 y272 l273) (Tree.at_ (Tree.mk n1 s2 b3 l4 u5) q)).length)) ++ (W (Fld.mk k266 y267 y268 y269 y270 y271 y272 l273) (Tree.at_ (Tree.mk n1 s2 b3 l4 u5) q))), brow A389 c390 5 (W (Fld.mk k266 y267 y268 y269 y270 y271 y272 l273) (Tree.at_ (Tree.mk n1 s2 b3 l4 u5) q)), brow A407 c408 5 (uv k2), brow A433 c434 5 (uv ((W (Fld.mk k266 y267 y268 y269 y270 y271 y272 l273) (Tree.at_ (Tree.mk n1 s2 b3 l4 u5) q)).length))] er461
              clear hW459
              have hE465 := EnvOk.pick hE460 (ks := [0, 1, 2, 7, 9, 11, 14, 51, 52, 55, 56, 57, 90, 91, 92]) (env' := [(0, .v (.slice A l.length c)), (1, .v (.int .i64 v)), (2, .v (.bool flex)), (7, .p 0 0), (9, .v (.slice A_ ((bodyB W l v (Tree.mk n1 s2 b3 l4 u5) 0).length) c_)), (11, .v (.int .i64 ((tagsN W l (Tree.mk n1 s2 b3 l4 u5) k2 + cn : Nat) : Int))), (14, .v (.int .i64 ((k2 : Nat) : Int))), (51, .v (.int .i64 (((knownI l).toNat : Nat) : Int))), (52, .v (.int .i64 ((k2 : Nat) : Int))), (55, .v (.slice A l.length c)), (56, .v (.int .i64 ((l.length : Nat) : Int))), (57, .v (.int .i64 ((q : Nat) : Int))), (90, .v (.slice A440 ((tagsK W l (Tree.mk n1 s2 b3 l4 u5) k2 ++ dm ++ (uv k2) ++ (uv ((W (Fld.mk k266 y267 y268 y269 y270 y271 y272 l273) (Tree.at_ (Tree.mk n1 s2 b3 l4 u5) q)).length))).length) c441)), (91, .v (.slice A389 ((W (Fld.mk k266 y267 y268 y269 y270 y271 y272 l273) (Tree.at_ (Tree.mk n1 s2 b3 l4 u5) q)).length) c390)), (92, .v (.slice A454 ((tagsK W l (Tree.mk n1 s2 b3 l4 u5) k2 ++ dm ++ (uv k2) ++ (uv ((W (Fld.mk k266 y267 y268 y269 y270 y271 y272 l273) (Tree.at_ (Tree.mk n1 s2 b3 l4 u5) q)).length))).length + (W (Fld.mk k266 y267 y268 y269 y270 y271 y272 l273) (Tree.at_ (Tree.mk n1 s2 b3 l4 u5) q)).length) c455))]) (by kernel_rfl)
              have hE463 := hE465.cast (env' := [(0, .v (.slice A l.length c)), (1, .v (.int .i64 v)), (2, .v (.bool flex)), (7, .p 0 0), (9, .v (.slice A_ ((bodyB W l v (Tree.mk n1 s2 b3 l4 u5) 0).length) c_)), (11, .v (.int .i64 ((tagsN W l (Tree.mk n1 s2 b3 l4 u5) k2 + cn : Nat) : Int))), (14, .v (.int .i64 ((k2 : Nat) : Int))), (51, .v (.int .i64 (((knownI l).toNat : Nat) : Int))), (52, .v (.int .i64 ((k2 : Nat) : Int))), (55, .v (.slice A l.length c)), (56, .v (.int .i64 ((l.length : Nat) : Int))), (57, .v (.int .i64 ((q : Nat) : Int))), (90, .v (.slice A440 ((tagsK W l (Tree.mk n1 s2 b3 l4 u5) k2 ++ dm ++ (uv k2) ++ (uv ((W (Fld.mk k266 y267 y268 y269 y270 y271 y272 l273) (Tree.at_ (Tree.mk n1 s2 b3 l4 u5) q)).length))).length) c441)), (91, .v (.slice A389 ((W (Fld.mk k266 y267 y268 y269 y270 y271 y272 l273) (Tree.at_ (Tree.mk n1 s2 b3 l4 u5) q)).length) c390)), (92, .v (.slice A454 ((tagsK W l (Tree.mk n1 s2 b3 l4 u5) k2 ++ dm ++ (uv k2) ++ (uv ((W (Fld.mk k266 y267 y268 y269 y270 y271 y272 l273) (Tree.at_ (Tree.mk n1 s2 b3 l4 u5) q)).length)) ++ (W (Fld.mk k266 y267 y268 y269 y270 y271 y272 l273) (Tree.at_ (Tree.mk n1 s2 b3 l4 u5) q))).length) c455))]) (by simp only [List.length_append, List.length_cons, List.length_nil, Nat.zero_add])
              clear hE460
              clear hE465
              refine go_rn [12] [] [(0, .v (.slice A l.length c)), (1, .v (.int .i64 v)), (2, .v (.bool flex)), (7, .p 0 0), (9, .v (.slice A_ ((bodyB W l v (Tree.mk n1 s2 b3 l4 u5) 0).length) c_)), (10, .v (.slice A454 ((tagsK W l (Tree.mk n1 s2 b3 l4 u5) k2 ++ dm ++ (uv k2) ++ (uv ((W (Fld.mk k266 y267 y268 y269 y270 y271 y272 l273) (Tree.at_ (Tree.mk n1 s2 b3 l4 u5) q)).length)) ++ (W (Fld.mk k266 y267 y268 y269 y270 y271 y272 l273) (Tree.at_ (Tree.mk n1 s2 b3 l4 u5) q))).length) c455)), (11, .v (.int .i64 ((tagsN W l (Tree.mk n1 s2 b3 l4 u5) k2 + cn : Nat) : Int))), (14, .v (.int .i64 ((k2 : Nat) : Int))), (51, .v (.int .i64 (((knownI l).toNat : Nat) : Int))), (52, .v (.int .i64 ((k2 : Nat) : Int))), (55, .v (.slice A l.length c)), (56, .v (.int .i64 ((l.length : Nat) : Int))), (57, .v (.int .i64 ((q : Nat) : Int)))] hW462 hE463 fun a466 hE467 => ?_
              clear hE463
              refine wpOps_nil ?_
              refine then_normal ?_
              refine go_region [0, 1, 2] (by kernel_rfl) ?_
              refine go_rn [0, 1, 2] [] [(0, .v (.slice A l.length c)), (1, .v (.int .i64 v)), (2, .v (.bool flex)), (7, .p 0 0), (9, .v (.slice A_ ((bodyB W l v (Tree.mk n1 s2 b3 l4 u5) 0).length) c_)), (10, .v (.slice A454 ((tagsK W l (Tree.mk n1 s2 b3 l4 u5) k2 ++ dm ++ (uv k2) ++ (uv ((W (Fld.mk k266 y267 y268 y269 y270 y271 y272 l273) (Tree.at_ (Tree.mk n1 s2 b3 l4 u5) q)).length)) ++ (W (Fld.mk k266 y267 y268 y269 y270 y271 y272 l273) (Tree.at_ (Tree.mk n1 s2 b3 l4 u5) q))).length) c455)), (11, .v (.int .i64 (IntKind.i64.wrap (((tagsN W l (Tree.mk n1 s2 b3 l4 u5) k2 + cn : Nat) : Int) + 1)))), (14, .v (.int .i64 ((k2 : Nat) : Int))), (51, .v (.int .i64 (((knownI l).toNat : Nat) : Int))), (52, .v (.int .i64 ((k2 : Nat) : Int))), (55, .v (.slice A l.length c)), (56, .v (.int .i64 ((l.length : Nat) : Int))), (57, .v (.int .i64 ((q : Nat) : Int)))] hW462 hE467 fun a468 hE469 => ?_
              clear hE467
              refine wpOps_nil ?_
              refine block_normal ?_
              refine then_normal ?_
              refine go_region [0, 1] (by kernel_rfl) ?_
              refine go_rn [0, 1] [] [(0, .v (.slice A l.length c)), (1, .v (.int .i64 v)), (2, .v (.bool flex)), (7, .p 0 0), (9, .v (.slice A_ ((bodyB W l v (Tree.mk n1 s2 b3 l4 u5) 0).length) c_)), (10, .v (.slice A454 ((tagsK W l (Tree.mk n1 s2 b3 l4 u5) k2 ++ dm ++ (uv k2) ++ (uv ((W (Fld.mk k266 y267 y268 y269 y270 y271 y272 l273) (Tree.at_ (Tree.mk n1 s2 b3 l4 u5) q)).length)) ++ (W (Fld.mk k266 y267 y268 y269 y270 y271 y272 l273) (Tree.at_ (Tree.mk n1 s2 b3 l4 u5) q))).length) c455)), (11, .v (.int .i64 (IntKind.i64.wrap (((tagsN W l (Tree.mk n1 s2 b3 l4 u5) k2 + cn : Nat) : Int) + 1)))), (14, .v (.int .i64 ((k2 : Nat) : Int))), (51, .v (.int .i64 (((knownI l).toNat : Nat) : Int))), (52, .v (.int .i64 ((k2 : Nat) : Int))), (55, .v (.slice A l.length c)), (56, .v (.int .i64 ((l.length : Nat) : Int))), (57, .v (.int .i64 (IntKind.i64.wrap (((q : Nat) : Int) + 1))))] hW462 hE469 fun a470 hE471 => ?_
              clear hE469
              refine wpOps_nil ?_
              refine then_normal ?_
              obtain ⟨hE472, hW473, hF474⟩ := hW462.cutB hE471 1 [⟨b21, 0, [.int .i64 n1, .slice A6 s2.length c7, .bool b3, .slice A8 l4.length c9, .slice A10 u5.length c11], true⟩] [(0, .v (.slice A l.length c)), (1, .v (.int .i64 v)), (2, .v (.bool flex)), (7, .p 0 0), (9, .v (.slice A_ ((bodyB W l v (Tree.mk n1 s2 b3 l4 u5) 0).length) c_)), (10, .v (.slice A454 ((tagsK W l (Tree.mk n1 s2 b3 l4 u5) k2 ++ dm ++ (uv k2) ++ (uv ((W (Fld.mk k266 y267 y268 y269 y270 y271 y272 l273) (Tree.at_ (Tree.mk n1 s2 b3 l4 u5) q)).length)) ++ (W (Fld.mk k266 y267 y268 y269 y270 y271 y272 l273) (Tree.at_ (Tree.mk n1 s2 b3 l4 u5) q))).length) c455)), (11, .v (.int .i64 (IntKind.i64.wrap (((tagsN W l (Tree.mk n1 s2 b3 l4 u5) k2 + cn : Nat) : Int) + 1)))), (14, .v (.int .i64 ((k2 : Nat) : Int))), (51, .v (.int .i64 (((knownI l).toNat : Nat) : Int))), (52, .v (.int .i64 ((k2 : Nat) : Int))), (55, .v (.slice A l.length c)), (56, .v (.int .i64 ((l.length : Nat) : Int))), (57, .v (.int .i64 (IntKind.i64.wrap (((q : Nat) : Int) + 1))))]
              obtain ⟨hW475, hF476⟩ := hW473.cutR 2 [brow A_ c_ 5 (bodyB W l v (Tree.mk n1 s2 b3 l4 u5) 0), brow A454 c455 5 (tagsK W l (Tree.mk n1 s2 b3 l4 u5) k2 ++ dm ++ (uv k2) ++ (uv ((W (Fld.mk k266 y267 y268 y269 y270 y271 y272 l273) (Tree.at_ (Tree.mk n1 s2 b3 l4 u5) q)).length)) ++ (W (Fld.mk k266 y267 y268 y269 y270 y271 y272 l273) (Tree.at_ (Tree.mk n1 s2 b3 l4 u5) q)))]
              have er477 : (tagsK W l (Tree.mk n1 s2 b3 l4 u5) k2 ++ dm ++ (uv k2) ++ (uv ((W (Fld.mk k266 y267 y268 y269 y270 y271 y272 l273) (Tree.at_ (Tree.mk n1 s2 b3 l4 u5) q)).length)) ++ (W (Fld.mk k266 y267 y268 y269 y270 y271 y272 l273) (Tree.at_ (Tree.mk n1 s2 b3 l4 u5) q))) = (tagsK W l (Tree.mk n1 s2 b3 l4 u5) k2 ++ (dm ++ (uv k2 ++ uv (W (Fld.mk k266 y267 y268 y269 y270 y271 y272 l273) (Tree.at_ (Tree.mk n1 s2 b3 l4 u5) q)).length ++ W (Fld.mk k266 y267 y268 y269 y270 y271 y272 l273) (Tree.at_ (Tree.mk n1 s2 b3 l4 u5) q)))) := by simp only [List.append_assoc]
              have er478 := congrArg (brow A454 c455 5) er477
              obtain ⟨hW479, hF480⟩ := hW475.rowEq 1 [brow A_ c_ 5 (bodyB W l v (Tree.mk n1 s2 b3 l4 u5) 0), brow A454 c455 5 (tagsK W l (Tree.mk n1 s2 b3 l4 u5) k2 ++ (dm ++ (uv k2 ++ uv (W (Fld.mk k266 y267 y268 y269 y270 y271 y272 l273) (Tree.at_ (Tree.mk n1 s2 b3 l4 u5) q)).length ++ W (Fld.mk k266 y267 y268 y269 y270 y271 y272 l273) (Tree.at_ (Tree.mk n1 s2 b3 l4 u5) q))))] er478
              clear hW475
              rw [er477] at hE472
              have he481 : IntKind.i64.wrap (((q : Nat) : Int) + 1) = ((q + 1 : Nat) : Int) := wrap_succ (by omega)
              rw [he481] at hE472
              have he482 : IntKind.i64.wrap (((tagsN W l (Tree.mk n1 s2 b3 l4 u5) k2 + cn : Nat) : Int) + 1) = ((tagsN W l (Tree.mk n1 s2 b3 l4 u5) k2 + (cn + 1) : Nat) : Int) := by rw [wrap_i64 (by omega) (by omega)]; omega
              rw [he482] at hE472
              exact ⟨l.length - (q + 1), by omega, q + 1, A454, c455, (dm ++ (uv k2 ++ uv (W (Fld.mk k266 y267 y268 y269 y270 y271 y272 l273) (Tree.at_ (Tree.mk n1 s2 b3 l4 u5) q)).length ++ W (Fld.mk k266 y267 y268 y269 y270 y271 y272 l273) (Tree.at_ (Tree.mk n1 s2 b3 l4 u5) q))), (cn + 1), rfl, by omega, by rw [List.append_assoc, ← tagB_pos he264 (by omega) (by simpa using hc349)]; exact hB2, by rw [Nat.add_assoc, ← tagN_pos he264 (by omega) (by simpa using hc349)]; exact hN2, hE472.pk, hW479, (Fr.trans (Fr.trans (Fr.trans (Fr.trans (Fr.trans (Fr.trans (Fr.trans (Fr.trans (Fr.trans (Fr.trans (Fr.trans (Fr.trans (Fr.trans (Fr.trans (Fr.trans (Fr.trans (Fr.trans (Fr.trans (Fr.trans hF251 hF290) hF296) hF300) hF338) hF345) hF352) hF385) hF395) hF413) hF418) hF424) hF439) hF444) hF450) hF458) hF464) hF474) hF476) hF480)⟩
            ·
              refine wp_skip ?_
              refine block_normal ?_
              refine then_normal ?_
              refine go_region [0, 1] (by kernel_rfl) ?_
              refine go_rn [0, 1] [] [(0, .v (.slice A l.length c)), (1, .v (.int .i64 v)), (2, .v (.bool flex)), (7, .p 0 0), (9, .v (.slice A_ ((bodyB W l v (Tree.mk n1 s2 b3 l4 u5) 0).length) c_)), (10, .v (.slice A3_ ((tagsK W l (Tree.mk n1 s2 b3 l4 u5) k2 ++ dm).length) c3_)), (11, .v (.int .i64 ((tagsN W l (Tree.mk n1 s2 b3 l4 u5) k2 + cn : Nat) : Int))), (14, .v (.int .i64 ((k2 : Nat) : Int))), (51, .v (.int .i64 (((knownI l).toNat : Nat) : Int))), (52, .v (.int .i64 ((k2 : Nat) : Int))), (55, .v (.slice A l.length c)), (56, .v (.int .i64 ((l.length : Nat) : Int))), (57, .v (.int .i64 (IntKind.i64.wrap (((q : Nat) : Int) + 1))))] hW344 hE348 fun a484 hE485 => ?_
              clear hE348
              refine wpOps_nil ?_
              refine then_normal ?_
              obtain ⟨hE486, hW487, hF488⟩ := hW344.cutB hE485 1 [⟨b21, 0, [.int .i64 n1, .slice A6 s2.length c7, .bool b3, .slice A8 l4.length c9, .slice A10 u5.length c11], true⟩] [(0, .v (.slice A l.length c)), (1, .v (.int .i64 v)), (2, .v (.bool flex)), (7, .p 0 0), (9, .v (.slice A_ ((bodyB W l v (Tree.mk n1 s2 b3 l4 u5) 0).length) c_)), (10, .v (.slice A3_ ((tagsK W l (Tree.mk n1 s2 b3 l4 u5) k2 ++ dm).length) c3_)), (11, .v (.int .i64 ((tagsN W l (Tree.mk n1 s2 b3 l4 u5) k2 + cn : Nat) : Int))), (14, .v (.int .i64 ((k2 : Nat) : Int))), (51, .v (.int .i64 (((knownI l).toNat : Nat) : Int))), (52, .v (.int .i64 ((k2 : Nat) : Int))), (55, .v (.slice A l.length c)), (56, .v (.int .i64 ((l.length : Nat) : Int))), (57, .v (.int .i64 (IntKind.i64.wrap (((q : Nat) : Int) + 1))))]
              have he489 : IntKind.i64.wrap (((q : Nat) : Int) + 1) = ((q + 1 : Nat) : Int) := wrap_succ (by omega)
              rw [he489] at hE486
              exact ⟨l.length - (q + 1), by omega, q + 1, A3_, c3_, dm, cn, rfl, by omega, by rw [← tagB_neg2 he264 (by simpa using hc349)]; exact hB2, by rw [← tagN_neg2 he264 (by simpa using hc349)]; exact hN2, hE486.pk, hW487, (Fr.trans (Fr.trans (Fr.trans (Fr.trans (Fr.trans (Fr.trans hF251 hF290) hF296) hF300) hF338) hF345) hF488)⟩
          ·
            have hf490 : y270 ≠ ((k2 : Nat) : Int) := by simpa using hc305
            have hE491 := hE304.cast (env' := [(0, .v (.slice A l.length c)), (1, .v (.int .i64 v)), (2, .v (.bool flex)), (7, .p 0 0), (9, .v (.slice A_ ((bodyB W l v (Tree.mk n1 s2 b3 l4 u5) 0).length) c_)), (10, .v (.slice A3_ ((tagsK W l (Tree.mk n1 s2 b3 l4 u5) k2 ++ dm).length) c3_)), (11, .v (.int .i64 ((tagsN W l (Tree.mk n1 s2 b3 l4 u5) k2 + cn : Nat) : Int))), (14, .v (.int .i64 ((k2 : Nat) : Int))), (15, .v (.int .i64 ((q : Nat) : Int))), (16, .p 1 0), (51, .v (.int .i64 (((knownI l).toNat : Nat) : Int))), (52, .v (.int .i64 ((k2 : Nat) : Int))), (55, .v (.slice A l.length c)), (56, .v (.int .i64 ((l.length : Nat) : Int))), (57, .v (.int .i64 ((q : Nat) : Int))), (66, .v (.bool false))]) (by rw [hc305])
            clear hE304
            refine go_rnD [5, 6, 7, 8, 9, 10, 11] [(0, .v (.slice A l.length c)), (1, .v (.int .i64 v)), (2, .v (.bool flex)), (7, .p 0 0), (9, .v (.slice A_ ((bodyB W l v (Tree.mk n1 s2 b3 l4 u5) 0).length) c_)), (10, .v (.slice A3_ ((tagsK W l (Tree.mk n1 s2 b3 l4 u5) k2 ++ dm).length) c3_)), (11, .v (.int .i64 ((tagsN W l (Tree.mk n1 s2 b3 l4 u5) k2 + cn : Nat) : Int))), (14, .v (.int .i64 ((k2 : Nat) : Int))), (15, .v (.int .i64 ((q : Nat) : Int))), (16, .p 1 0), (51, .v (.int .i64 (((knownI l).toNat : Nat) : Int))), (52, .v (.int .i64 ((k2 : Nat) : Int))), (55, .v (.slice A l.length c)), (56, .v (.int .i64 ((l.length : Nat) : Int))), (57, .v (.int .i64 ((q : Nat) : Int))), (73, .v (.bool false))] 0 (panicFree_then (panicFree_block (panicFree_then (panicFree_then (panicFree_block (panicFree_block (panicFree_then (panicFree_then (panicFree_block (panicFree_then panicFree_body)))))))))) (fun _ h => h.cells) hT302 hE491 fun a492 hE493 => ?_
            clear hE491
            refine anyC_done (by kernel_rfl) ?_ _
            refine then_normal ?_
            refine cond_false hE493 (b := false) (by kernel_rfl) rfl ?_
            refine wp_skip ?_
            refine block_normal ?_
            refine then_normal ?_
            refine go_region [0, 1] (by kernel_rfl) ?_
            refine go_rn [0, 1] [] [(0, .v (.slice A l.length c)), (1, .v (.int .i64 v)), (2, .v (.bool flex)), (7, .p 0 0), (9, .v (.slice A_ ((bodyB W l v (Tree.mk n1 s2 b3 l4 u5) 0).length) c_)), (10, .v (.slice A3_ ((tagsK W l (Tree.mk n1 s2 b3 l4 u5) k2 ++ dm).length) c3_)), (11, .v (.int .i64 ((tagsN W l (Tree.mk n1 s2 b3 l4 u5) k2 + cn : Nat) : Int))), (14, .v (.int .i64 ((k2 : Nat) : Int))), (51, .v (.int .i64 (((knownI l).toNat : Nat) : Int))), (52, .v (.int .i64 ((k2 : Nat) : Int))), (55, .v (.slice A l.length c)), (56, .v (.int .i64 ((l.length : Nat) : Int))), (57, .v (.int .i64 (IntKind.i64.wrap (((q : Nat) : Int) + 1))))] hW301 hE493 fun a494 hE495 => ?_
            clear hE493
            refine wpOps_nil ?_
            refine then_normal ?_
            obtain ⟨hE496, hW497, hF498⟩ := hW301.cutB hE495 1 [⟨b21, 0, [.int .i64 n1, .slice A6 s2.length c7, .bool b3, .slice A8 l4.length c9, .slice A10 u5.length c11], true⟩] [(0, .v (.slice A l.length c)), (1, .v (.int .i64 v)), (2, .v (.bool flex)), (7, .p 0 0), (9, .v (.slice A_ ((bodyB W l v (Tree.mk n1 s2 b3 l4 u5) 0).length) c_)), (10, .v (.slice A3_ ((tagsK W l (Tree.mk n1 s2 b3 l4 u5) k2 ++ dm).length) c3_)), (11, .v (.int .i64 ((tagsN W l (Tree.mk n1 s2 b3 l4 u5) k2 + cn : Nat) : Int))), (14, .v (.int .i64 ((k2 : Nat) : Int))), (51, .v (.int .i64 (((knownI l).toNat : Nat) : Int))), (52, .v (.int .i64 ((k2 : Nat) : Int))), (55, .v (.slice A l.length c)), (56, .v (.int .i64 ((l.length : Nat) : Int))), (57, .v (.int .i64 (IntKind.i64.wrap (((q : Nat) : Int) + 1))))]
            have he499 : IntKind.i64.wrap (((q : Nat) : Int) + 1) = ((q + 1 : Nat) : Int) := wrap_succ (by omega)
            rw [he499] at hE496
            exact ⟨l.length - (q + 1), by omega, q + 1, A3_, c3_, dm, cn, rfl, by omega, by rw [← tagB_neg1 he264 (by omega)]; exact hB2, by rw [← tagN_neg1 he264 (by omega)]; exact hN2, hE496.pk, hW497, (Fr.trans (Fr.trans (Fr.trans (Fr.trans hF251 hF290) hF296) hF300) hF498)⟩
        ·
          have hf500 := of_decide_eq_false hc254
          refine wp_exit ?_
          refine then_exit ?_
          refine then_exit ?_
          refine block_exit ?_
          refine block_normal ?_
          refine then_normal ?_
          refine go_region [0, 1] (by kernel_rfl) ?_
          refine go_rn [0, 1] [] [(0, .v (.slice A l.length c)), (1, .v (.int .i64 v)), (2, .v (.bool flex)), (7, .p 0 0), (9, .v (.slice A_ ((bodyB W l v (Tree.mk n1 s2 b3 l4 u5) 0).length) c_)), (10, .v (.slice A3_ ((tagsK W l (Tree.mk n1 s2 b3 l4 u5) k2 ++ dm).length) c3_)), (11, .v (.int .i64 ((tagsN W l (Tree.mk n1 s2 b3 l4 u5) k2 + cn : Nat) : Int))), (51, .v (.int .i64 (((knownI l).toNat : Nat) : Int))), (52, .v (.int .i64 (IntKind.i64.wrap (((k2 : Nat) : Int) + 1))))] hW248 hE253 fun a501 hE502 => ?_
          clear hE253
          refine wpOps_nil ?_
          refine then_normal ?_
          have er503 : (tagsK W l (Tree.mk n1 s2 b3 l4 u5) k2 ++ dm) = (tagsK W l (Tree.mk n1 s2 b3 l4 u5) (k2 + 1)) := by rw [tagsK, ← hB2, tagB_end (by omega), List.append_nil]
          have er504 := congrArg (brow A3_ c3_ 5) er503
          obtain ⟨hW505, hF506⟩ := hW248.rowEq 1 [brow A_ c_ 5 (bodyB W l v (Tree.mk n1 s2 b3 l4 u5) 0), brow A3_ c3_ 5 (tagsK W l (Tree.mk n1 s2 b3 l4 u5) (k2 + 1))] er504
          clear hW248
          rw [er503] at hE502
          have he507 : IntKind.i64.wrap (((k2 : Nat) : Int) + 1) = ((k2 + 1 : Nat) : Int) := wrap_succ (by omega)
          rw [he507] at hE502
          have he508 : ((tagsN W l (Tree.mk n1 s2 b3 l4 u5) k2 + cn : Nat) : Int) = ((tagsN W l (Tree.mk n1 s2 b3 l4 u5) (k2 + 1) : Nat) : Int) := by rw [tagsN, ← hN2, tagN_end (by omega), Nat.add_zero]
          rw [he508] at hE502
          exact ⟨(knownI l).toNat - (k2 + 1), by omega, k2 + 1, A3_, c3_, rfl, by omega, hE502.pk, hW505, (Fr.trans (Fr.trans (Fr.trans hF231 hF243) hF251) hF506)⟩
      ·
        have hf509 := of_decide_eq_false hc234
        refine wp_exit ?_
        refine then_exit ?_
        refine then_exit ?_
        refine block_exit ?_
        refine then_normal ?_
        refine wp_seq ?_
        refine go_seq_region [0, 1, 2, 3, 4, 5] (by kernel_rfl) ?_
        refine go_rn [0, 1, 2] [3, 4, 5] [(9, .v (.slice A_ ((bodyB W l v (Tree.mk n1 s2 b3 l4 u5) 0).length) c_)), (10, .v (.slice A2_ ((tagsK W l (Tree.mk n1 s2 b3 l4 u5) k2).length) c2_)), (11, .v (.int .i64 ((tagsN W l (Tree.mk n1 s2 b3 l4 u5) k2 : Nat) : Int))), (97, .v (.slice A l.length c)), (99, .v (.slice A10 u5.length c11))] hW228 hE233 fun a510 hE511 => ?_
        clear hE233
        refine of_op (wpOp_call hE511 (f := 38) (vs := [.slice A l.length c, .slice A10 u5.length c11]) (d := 100) (by kernel_rfl) Tryz.call38 (sUnknown _ _ l _ _ u5 _ _ ⟨xfs, (h1.move hW228.step nilM hW228.imm), (fun i_ x_ h_ => ((h2 i_ x_ h_).move hW228.step nilM hW228.imm))⟩ (h17.move hW228.step nilM hW228.imm)) ?_)
        rintro e_ w516 ⟨A514, c515, rfl, hr513, hs512⟩
        have hr517 := hr513.move (Step.refl _ Nil) nilM (hW228.laid (G := F) hs512)
        refine ⟨_, rfl, fun a518 hE519 => ?_⟩
        have hW520 := hW228.next_nil hs512
        have hF521 := hW228.frN hs512
        clear hE511
        refine go_rn [4, 5] [] [(9, .v (.slice A_ ((bodyB W l v (Tree.mk n1 s2 b3 l4 u5) 0).length) c_)), (10, .v (.slice A2_ ((tagsK W l (Tree.mk n1 s2 b3 l4 u5) k2).length) c2_)), (11, .v (.int .i64 ((tagsN W l (Tree.mk n1 s2 b3 l4 u5) k2 : Nat) : Int))), (100, .v (.slice A514 ((unknownT l u5).length) c515)), (101, .v (.int .i64 (((unknownT l u5).length : Nat) : Int))), (102, .v (.int .i64 0))] hW520 hE519 fun a522 hE523 => ?_
        clear hE519
        refine wpOps_nil ?_
        refine then_normal ?_
        refine wp_block ?_
        obtain ⟨cs524, h525, h526⟩ := hr517.ex
        have hsm527 := h525.small
        have hkk2 : k2 = (knownI l).toNat := by omega
        have hc2 := hcnt k2
        have hm2 := hmono k2 (by omega)
        have er528 : (tagsK W l (Tree.mk n1 s2 b3 l4 u5) k2) = (tagsK W l (Tree.mk n1 s2 b3 l4 u5) k2 ++ tagsB ((unknownT l u5).take 0)) := (List.append_nil _).symm
        have er529 := congrArg (brow A2_ c2_ 5) er528
        obtain ⟨hW530, hF531⟩ := hW520.rowEq 1 [brow A_ c_ 5 (bodyB W l v (Tree.mk n1 s2 b3 l4 u5) 0), brow A2_ c2_ 5 (tagsK W l (Tree.mk n1 s2 b3 l4 u5) k2 ++ tagsB ((unknownT l u5).take 0))] er529
        clear hW520
        rw [er528] at hE523
        refine wp_loop_ghost (fun n_ a_ w_ => ∃ (k : Nat) (A4_ : Option Addr) (c4_ : Nat), n_ = (unknownT l u5).length - k ∧ k ≤ (unknownT l u5).length ∧ LInv hW530 132 [⟨b21, 0, [.int .i64 n1, .slice A6 s2.length c7, .bool b3, .slice A8 l4.length c9, .slice A10 u5.length c11], true⟩] [brow A_ c_ 5 (bodyB W l v (Tree.mk n1 s2 b3 l4 u5) 0), brow A4_ c4_ 5 (tagsK W l (Tree.mk n1 s2 b3 l4 u5) k2 ++ tagsB ((unknownT l u5).take k))] [(9, .v (.slice A_ ((bodyB W l v (Tree.mk n1 s2 b3 l4 u5) 0).length) c_)), (10, .v (.slice A4_ ((tagsK W l (Tree.mk n1 s2 b3 l4 u5) k2 ++ tagsB ((unknownT l u5).take k)).length) c4_)), (11, .v (.int .i64 ((tagsN W l (Tree.mk n1 s2 b3 l4 u5) k2 + k : Nat) : Int))), (100, .v (.slice A514 ((unknownT l u5).length) c515)), (101, .v (.int .i64 (((unknownT l u5).length : Nat) : Int))), (102, .v (.int .i64 ((k : Nat) : Int)))] a_ w_) ((unknownT l u5).length) ⟨0, A2_, c2_, by omega, by omega, hE523.pk, hW530, Fr.refl _ _ _⟩ ?_
        clear hE523
        rintro n532 a533 w534 ⟨k, A4_, c4_, hn537, hk538, hE535, hW536, hF539⟩
        refine go_sp [(9, .v (.slice A_ ((bodyB W l v (Tree.mk n1 s2 b3 l4 u5) 0).length) c_)), (10, .v (.slice A4_ ((tagsK W l (Tree.mk n1 s2 b3 l4 u5) k2 ++ tagsB ((unknownT l u5).take k)).length) c4_)), (11, .v (.int .i64 ((tagsN W l (Tree.mk n1 s2 b3 l4 u5) k2 + k : Nat) : Int))), (100, .v (.slice A514 ((unknownT l u5).length) c515)), (101, .v (.int .i64 (((unknownT l u5).length : Nat) : Int))), (102, .v (.int .i64 ((k : Nat) : Int))), (103, .v (.bool (decide (((k : Nat) : Int) < (((unknownT l u5).length : Nat) : Int)))))] hW536 hE535 fun a540 hE541 => ?_
        clear hE535
        refine wp_seq ?_
        refine cond_of hE541 (b := decide (((k : Nat) : Int) < (((unknownT l u5).length : Nat) : Int))) (by kernel_rfl) (fun hc542 => ?_) (fun hc542 => ?_)
        ·
          have hf543 := of_decide_eq_true hc542
          refine wp_skip ?_
          refine then_normal ?_
          refine wp_seq ?_
          refine wp_block ?_
          refine go_seq_region [0, 1, 2, 3] (by kernel_rfl) ?_
          obtain ⟨b544, o545, hA546, hl547, hat548⟩ := Slots.get h525 (i := k) (by omega)
          obtain ⟨⟨k549, s550⟩, he551⟩ : ∃ x, (unknownT l u5)[k]? = some x := ⟨_, List.getElem?_eq_getElem (by omega)⟩
          obtain ⟨⟨A552, c553, hcs554, hb555⟩, h556, h557⟩ := h526 k k549 s550 he551
          rw [hcs554] at hat548
          refine of_op (wpOp_index hE541 (t := 24) (A := A514) (m := ((unknownT l u5).length)) (q := ((k : Nat) : Int)) (d := 104) (by kernel_rfl) (e := 63) (size := 2) (bytes := 32) (by kernel_rfl) hA546 rfl (by omega) fun a558 hE559 => ?_)
          clear hE541
          refine of_op (wpOp_load hE559 (t := 63) (b := b544) (o := o545 + k * 2) (d := 105) (by kernel_rfl) (cs := [.int .u32 k549, .slice A552 s550.length c553]) (v := .agg #[.int .u32 k549, .slice A552 s550.length c553]) (by kernel_rfl) (AtF.move hat548 (Fr.trans hF531 hF539).step immM (Fr.trans hF531 hF539).to').at_ fun a560 hE561 => ?_)
          clear hE559
          refine of_op (wpOp_alloc hW536 hE561 (d := 19) (cs := [.int .u32 0, .slice none 0 0]) (by kernel_rfl) fun b562 a563 w564 hb565 hz566 hF567 hW568 hE569 => ?_)
          clear hE561 hW536
          refine of_op (wpOp_store hW568 hE569 (oi := 1) (cs := [.int .u32 k549, .slice A552 s550.length c553]) (by kernel_rfl) fun w570 hF571 hW572 hE573 => ?_)
          clear hE569 hW568
          refine wpOps_nil ?_
          refine then_normal ?_
          refine go_seq_region [0, 1, 2, 3] (by kernel_rfl) ?_
          refine go_rn [0, 1] [2, 3] [(9, .v (.slice A_ ((bodyB W l v (Tree.mk n1 s2 b3 l4 u5) 0).length) c_)), (10, .v (.slice A4_ ((tagsK W l (Tree.mk n1 s2 b3 l4 u5) k2 ++ tagsB ((unknownT l u5).take k)).length) c4_)), (11, .v (.int .i64 ((tagsN W l (Tree.mk n1 s2 b3 l4 u5) k2 + k : Nat) : Int))), (19, .p 1 0), (100, .v (.slice A514 ((unknownT l u5).length) c515)), (101, .v (.int .i64 (((unknownT l u5).length : Nat) : Int))), (102, .v (.int .i64 ((k : Nat) : Int))), (107, .v (.slice A552 s550.length c553))] hW572 hE573 fun a574 hE575 => ?_
          clear hE573
          have hwl577 := whole_le s550
          refine of_op (wpOp_call hE575 (f := 39) (vs := [.slice A552 s550.length c553]) (d := 108) (by kernel_rfl) Tryz.call39 (sWhole _ _ s550 (hb555.move (Fr.trans (Fr.trans (Fr.trans hF531 hF539) hF567) hF571).step immM (Fr.trans (Fr.trans (Fr.trans hF531 hF539) hF567) hF571).to').le _) ?_)
          rintro e_ w578 ⟨rfl, hs576⟩
          refine ⟨_, rfl, fun a579 hE580 => ?_⟩
          have hW581 := hW572.next_nil hs576
          have hF582 := hW572.frN hs576
          clear hE575 hW572
          refine go_rn [3] [] [(9, .v (.slice A_ ((bodyB W l v (Tree.mk n1 s2 b3 l4 u5) 0).length) c_)), (10, .v (.slice A4_ ((tagsK W l (Tree.mk n1 s2 b3 l4 u5) k2 ++ tagsB ((unknownT l u5).take k)).length) c4_)), (11, .v (.int .i64 ((tagsN W l (Tree.mk n1 s2 b3 l4 u5) k2 + k : Nat) : Int))), (19, .p 1 0), (20, .v (.slice A552 ((whole s550).length) c553)), (100, .v (.slice A514 ((unknownT l u5).length) c515)), (101, .v (.int .i64 (((unknownT l u5).length : Nat) : Int))), (102, .v (.int .i64 ((k : Nat) : Int)))] hW581 hE580 fun a583 hE584 => ?_
          clear hE580
          refine wpOps_nil ?_
          refine then_normal ?_
          refine go_seq_region [0, 1, 2, 3, 4, 5, 6, 7, 8, 9, 10, 11, 12, 13] (by kernel_rfl) ?_
          refine go_rn [0, 1, 2, 3] [4, 5, 6, 7, 8, 9, 10, 11, 12, 13] [(9, .v (.slice A_ ((bodyB W l v (Tree.mk n1 s2 b3 l4 u5) 0).length) c_)), (11, .v (.int .i64 ((tagsN W l (Tree.mk n1 s2 b3 l4 u5) k2 + k : Nat) : Int))), (20, .v (.slice A552 ((whole s550).length) c553)), (100, .v (.slice A514 ((unknownT l u5).length) c515)), (101, .v (.int .i64 (((unknownT l u5).length : Nat) : Int))), (102, .v (.int .i64 ((k : Nat) : Int))), (109, .v (.slice A4_ ((tagsK W l (Tree.mk n1 s2 b3 l4 u5) k2 ++ tagsB ((unknownT l u5).take k)).length) c4_)), (112, .v (.int .u64 (IntKind.u64.wrap k549)))] hW581 hE584 fun a585 hE586 => ?_
          clear hE584
          have he587 : IntKind.u64.wrap k549 = ((k549.toNat : Nat) : Int) := by simp only [wrap_u64, wrap_u32, wrap_u16, IntKind.wrap_i64, IntKind.wrap_i32]; omega
          have hE589 := EnvOk.pick hE586 (ks := [9, 11, 20, 100, 101, 102, 109, 112]) (env' := [(9, .v (.slice A_ ((bodyB W l v (Tree.mk n1 s2 b3 l4 u5) 0).length) c_)), (11, .v (.int .i64 ((tagsN W l (Tree.mk n1 s2 b3 l4 u5) k2 + k : Nat) : Int))), (20, .v (.slice A552 ((whole s550).length) c553)), (100, .v (.slice A514 ((unknownT l u5).length) c515)), (101, .v (.int .i64 (((unknownT l u5).length : Nat) : Int))), (102, .v (.int .i64 ((k : Nat) : Int))), (109, .v (.slice A4_ ((tagsK W l (Tree.mk n1 s2 b3 l4 u5) k2 ++ tagsB ((unknownT l u5).take k)).length) c4_)), (112, .v (.int .u64 (IntKind.u64.wrap k549)))]) (by kernel_rfl)
          have hE588 := hE589.cast (env' := [(9, .v (.slice A_ ((bodyB W l v (Tree.mk n1 s2 b3 l4 u5) 0).length) c_)), (11, .v (.int .i64 ((tagsN W l (Tree.mk n1 s2 b3 l4 u5) k2 + k : Nat) : Int))), (20, .v (.slice A552 ((whole s550).length) c553)), (100, .v (.slice A514 ((unknownT l u5).length) c515)), (101, .v (.int .i64 (((unknownT l u5).length : Nat) : Int))), (102, .v (.int .i64 ((k : Nat) : Int))), (109, .v (.slice A4_ ((tagsK W l (Tree.mk n1 s2 b3 l4 u5) k2 ++ tagsB ((unknownT l u5).take k)).length) c4_)), (112, .v (.int .u64 ((k549.toNat : Nat) : Int)))]) (by rw [he587])
          clear hE586 hE589
          refine of_op (wpOp_call hE588 (f := 93) (vs := [.int .u64 ((k549.toNat : Nat) : Int)]) (d := 113) (by kernel_rfl) Tryz.call93 (sUvarint k549.toNat (by omega) _) ?_)
          rintro e_ w594 ⟨A592, c593, rfl, ho591, hs590⟩
          refine ⟨_, rfl, fun a595 hE596 => ?_⟩
          obtain ⟨hW597, hF598⟩ := hW581.frFresh hs590 (brow A592 c593 5 (uv k549.toNat)) (Nat.le_refl _) ho591
          clear hE588 hW581
          refine of_op (wpOp_append hW597 hE596 (k := 1) (d := 114) (t := 22) (e := 5) (size := 1) (bytes := 1) (A := A4_) (As := A592) (m0 := ((tagsK W l (Tree.mk n1 s2 b3 l4 u5) k2 ++ tagsB ((unknownT l u5).take k)).length)) (c := c4_) (m := ((uv k549.toNat).length)) (cs := c593) (xs := (bc (tagsK W l (Tree.mk n1 s2 b3 l4 u5) k2 ++ tagsB ((unknownT l u5).take k)))) (news := bc (uv k549.toNat)) (by kernel_rfl) (by kernel_rfl) rfl (own_src (hW597.own 2 _ rfl) (bc_one _)) (own_cap (hW597.own 2 _ rfl)) (by have h_ := tagsB_le (l := (unknownT l u5)) (k + 1); rw [tagsB_succ he551] at h_; simp only [List.length_append] at h_ ⊢; omega) fun A599 c600 a601 w602 hF603 hW604 hE605 => ?_)
          clear hE596 hW597
          have er606 : (⟨A599, c600, 5, 1, (tagsK W l (Tree.mk n1 s2 b3 l4 u5) k2 ++ tagsB ((unknownT l u5).take k)).length + (uv k549.toNat).length, bc (tagsK W l (Tree.mk n1 s2 b3 l4 u5) k2 ++ tagsB ((unknownT l u5).take k)) ++ bc (uv k549.toNat)⟩ : Rw) = brow A599 c600 5 (tagsK W l (Tree.mk n1 s2 b3 l4 u5) k2 ++ tagsB ((unknownT l u5).take k) ++ (uv k549.toNat)) := brow_eq (rfl) rfl
          obtain ⟨hW607, hF609⟩ := hW604.rowEq 1 [brow A_ c_ 5 (bodyB W l v (Tree.mk n1 s2 b3 l4 u5) 0), brow A599 c600 5 (tagsK W l (Tree.mk n1 s2 b3 l4 u5) k2 ++ tagsB ((unknownT l u5).take k) ++ (uv k549.toNat)), brow A592 c593 5 (uv k549.toNat)] er606
          clear hW604
          have hE610 := EnvOk.pick hE605 (ks := [9, 11, 20, 100, 101, 102, 109, 112, 113, 114]) (env' := [(9, .v (.slice A_ ((bodyB W l v (Tree.mk n1 s2 b3 l4 u5) 0).length) c_)), (11, .v (.int .i64 ((tagsN W l (Tree.mk n1 s2 b3 l4 u5) k2 + k : Nat) : Int))), (20, .v (.slice A552 ((whole s550).length) c553)), (100, .v (.slice A514 ((unknownT l u5).length) c515)), (101, .v (.int .i64 (((unknownT l u5).length : Nat) : Int))), (102, .v (.int .i64 ((k : Nat) : Int))), (109, .v (.slice A4_ ((tagsK W l (Tree.mk n1 s2 b3 l4 u5) k2 ++ tagsB ((unknownT l u5).take k)).length) c4_)), (112, .v (.int .u64 ((k549.toNat : Nat) : Int))), (113, .v (.slice A592 ((uv k549.toNat).length) c593)), (114, .v (.slice A599 ((tagsK W l (Tree.mk n1 s2 b3 l4 u5) k2 ++ tagsB ((unknownT l u5).take k)).length + (uv k549.toNat).length) c600))]) (by kernel_rfl)
          have hE608 := hE610.cast (env' := [(9, .v (.slice A_ ((bodyB W l v (Tree.mk n1 s2 b3 l4 u5) 0).length) c_)), (11, .v (.int .i64 ((tagsN W l (Tree.mk n1 s2 b3 l4 u5) k2 + k : Nat) : Int))), (20, .v (.slice A552 ((whole s550).length) c553)), (100, .v (.slice A514 ((unknownT l u5).length) c515)), (101, .v (.int .i64 (((unknownT l u5).length : Nat) : Int))), (102, .v (.int .i64 ((k : Nat) : Int))), (109, .v (.slice A4_ ((tagsK W l (Tree.mk n1 s2 b3 l4 u5) k2 ++ tagsB ((unknownT l u5).take k)).length) c4_)), (112, .v (.int .u64 ((k549.toNat : Nat) : Int))), (113, .v (.slice A592 ((uv k549.toNat).length) c593)), (114, .v (.slice A599 ((tagsK W l (Tree.mk n1 s2 b3 l4 u5) k2 ++ tagsB ((unknownT l u5).take k) ++ (uv k549.toNat)).length) c600))]) (by simp only [List.length_append, List.length_cons, List.length_nil, Nat.zero_add])
          clear hE605
          clear hE610
          refine go_rn [6, 7, 8] [9, 10, 11, 12, 13] [(9, .v (.slice A_ ((bodyB W l v (Tree.mk n1 s2 b3 l4 u5) 0).length) c_)), (11, .v (.int .i64 ((tagsN W l (Tree.mk n1 s2 b3 l4 u5) k2 + k : Nat) : Int))), (20, .v (.slice A552 ((whole s550).length) c553)), (100, .v (.slice A514 ((unknownT l u5).length) c515)), (101, .v (.int .i64 (((unknownT l u5).length : Nat) : Int))), (102, .v (.int .i64 ((k : Nat) : Int))), (114, .v (.slice A599 ((tagsK W l (Tree.mk n1 s2 b3 l4 u5) k2 ++ tagsB ((unknownT l u5).take k) ++ (uv k549.toNat)).length) c600)), (117, .v (.int .u64 (IntKind.u64.wrap (((whole s550).length : Nat) : Int))))] hW607 hE608 fun a611 hE612 => ?_
          clear hE608
          have he613 : IntKind.u64.wrap (((whole s550).length : Nat) : Int) = (((whole s550).length : Nat) : Int) := by simp only [wrap_u64, wrap_u32, wrap_u16, IntKind.wrap_i64, IntKind.wrap_i32]; omega
          have hE615 := EnvOk.pick hE612 (ks := [9, 11, 20, 100, 101, 102, 114, 117]) (env' := [(9, .v (.slice A_ ((bodyB W l v (Tree.mk n1 s2 b3 l4 u5) 0).length) c_)), (11, .v (.int .i64 ((tagsN W l (Tree.mk n1 s2 b3 l4 u5) k2 + k : Nat) : Int))), (20, .v (.slice A552 ((whole s550).length) c553)), (100, .v (.slice A514 ((unknownT l u5).length) c515)), (101, .v (.int .i64 (((unknownT l u5).length : Nat) : Int))), (102, .v (.int .i64 ((k : Nat) : Int))), (114, .v (.slice A599 ((tagsK W l (Tree.mk n1 s2 b3 l4 u5) k2 ++ tagsB ((unknownT l u5).take k) ++ (uv k549.toNat)).length) c600)), (117, .v (.int .u64 (IntKind.u64.wrap (((whole s550).length : Nat) : Int))))]) (by kernel_rfl)
          have hE614 := hE615.cast (env' := [(9, .v (.slice A_ ((bodyB W l v (Tree.mk n1 s2 b3 l4 u5) 0).length) c_)), (11, .v (.int .i64 ((tagsN W l (Tree.mk n1 s2 b3 l4 u5) k2 + k : Nat) : Int))), (20, .v (.slice A552 ((whole s550).length) c553)), (100, .v (.slice A514 ((unknownT l u5).length) c515)), (101, .v (.int .i64 (((unknownT l u5).length : Nat) : Int))), (102, .v (.int .i64 ((k : Nat) : Int))), (114, .v (.slice A599 ((tagsK W l (Tree.mk n1 s2 b3 l4 u5) k2 ++ tagsB ((unknownT l u5).take k) ++ (uv k549.toNat)).length) c600)), (117, .v (.int .u64 (((whole s550).length : Nat) : Int)))]) (by rw [he613])
          clear hE612 hE615
          refine of_op (wpOp_call hE614 (f := 93) (vs := [.int .u64 (((whole s550).length : Nat) : Int)]) (d := 118) (by kernel_rfl) Tryz.call93 (sUvarint ((whole s550).length) (by omega) _) ?_)
          rintro e_ w620 ⟨A618, c619, rfl, ho617, hs616⟩
          refine ⟨_, rfl, fun a621 hE622 => ?_⟩
          obtain ⟨hW623, hF624⟩ := hW607.frFresh hs616 (brow A618 c619 5 (uv ((whole s550).length))) (Nat.le_refl _) ho617
          clear hE614 hW607
          refine of_op (wpOp_append hW623 hE622 (k := 1) (d := 119) (t := 22) (e := 5) (size := 1) (bytes := 1) (A := A599) (As := A618) (m0 := ((tagsK W l (Tree.mk n1 s2 b3 l4 u5) k2 ++ tagsB ((unknownT l u5).take k) ++ (uv k549.toNat)).length)) (c := c600) (m := ((uv ((whole s550).length)).length)) (cs := c619) (xs := (bc (tagsK W l (Tree.mk n1 s2 b3 l4 u5) k2 ++ tagsB ((unknownT l u5).take k) ++ (uv k549.toNat)))) (news := bc (uv ((whole s550).length))) (by kernel_rfl) (by kernel_rfl) rfl (own_src (hW623.own 3 _ rfl) (bc_one _)) (own_cap (hW623.own 3 _ rfl)) (by have h_ := tagsB_le (l := (unknownT l u5)) (k + 1); rw [tagsB_succ he551] at h_; simp only [List.length_append] at h_ ⊢; omega) fun A625 c626 a627 w628 hF629 hW630 hE631 => ?_)
          clear hE622 hW623
          have er632 : (⟨A625, c626, 5, 1, (tagsK W l (Tree.mk n1 s2 b3 l4 u5) k2 ++ tagsB ((unknownT l u5).take k) ++ (uv k549.toNat)).length + (uv ((whole s550).length)).length, bc (tagsK W l (Tree.mk n1 s2 b3 l4 u5) k2 ++ tagsB ((unknownT l u5).take k) ++ (uv k549.toNat)) ++ bc (uv ((whole s550).length))⟩ : Rw) = brow A625 c626 5 (tagsK W l (Tree.mk n1 s2 b3 l4 u5) k2 ++ tagsB ((unknownT l u5).take k) ++ (uv k549.toNat) ++ (uv ((whole s550).length))) := brow_eq (rfl) rfl
          obtain ⟨hW633, hF635⟩ := hW630.rowEq 1 [brow A_ c_ 5 (bodyB W l v (Tree.mk n1 s2 b3 l4 u5) 0), brow A625 c626 5 (tagsK W l (Tree.mk n1 s2 b3 l4 u5) k2 ++ tagsB ((unknownT l u5).take k) ++ (uv k549.toNat) ++ (uv ((whole s550).length))), brow A592 c593 5 (uv k549.toNat), brow A618 c619 5 (uv ((whole s550).length))] er632
          clear hW630
          have hE636 := EnvOk.pick hE631 (ks := [9, 11, 20, 100, 101, 102, 114, 117, 118, 119]) (env' := [(9, .v (.slice A_ ((bodyB W l v (Tree.mk n1 s2 b3 l4 u5) 0).length) c_)), (11, .v (.int .i64 ((tagsN W l (Tree.mk n1 s2 b3 l4 u5) k2 + k : Nat) : Int))), (20, .v (.slice A552 ((whole s550).length) c553)), (100, .v (.slice A514 ((unknownT l u5).length) c515)), (101, .v (.int .i64 (((unknownT l u5).length : Nat) : Int))), (102, .v (.int .i64 ((k : Nat) : Int))), (114, .v (.slice A599 ((tagsK W l (Tree.mk n1 s2 b3 l4 u5) k2 ++ tagsB ((unknownT l u5).take k) ++ (uv k549.toNat)).length) c600)), (117, .v (.int .u64 (((whole s550).length : Nat) : Int))), (118, .v (.slice A618 ((uv ((whole s550).length)).length) c619)), (119, .v (.slice A625 ((tagsK W l (Tree.mk n1 s2 b3 l4 u5) k2 ++ tagsB ((unknownT l u5).take k) ++ (uv k549.toNat)).length + (uv ((whole s550).length)).length) c626))]) (by kernel_rfl)
          have hE634 := hE636.cast (env' := [(9, .v (.slice A_ ((bodyB W l v (Tree.mk n1 s2 b3 l4 u5) 0).length) c_)), (11, .v (.int .i64 ((tagsN W l (Tree.mk n1 s2 b3 l4 u5) k2 + k : Nat) : Int))), (20, .v (.slice A552 ((whole s550).length) c553)), (100, .v (.slice A514 ((unknownT l u5).length) c515)), (101, .v (.int .i64 (((unknownT l u5).length : Nat) : Int))), (102, .v (.int .i64 ((k : Nat) : Int))), (114, .v (.slice A599 ((tagsK W l (Tree.mk n1 s2 b3 l4 u5) k2 ++ tagsB ((unknownT l u5).take k) ++ (uv k549.toNat)).length) c600)), (117, .v (.int .u64 (((whole s550).length : Nat) : Int))), (118, .v (.slice A618 ((uv ((whole s550).length)).length) c619)), (119, .v (.slice A625 ((tagsK W l (Tree.mk n1 s2 b3 l4 u5) k2 ++ tagsB ((unknownT l u5).take k) ++ (uv k549.toNat) ++ (uv ((whole s550).length))).length) c626))]) (by simp only [List.length_append, List.length_cons, List.length_nil, Nat.zero_add])
          clear hE631
          clear hE636
          refine go_rn [11] [12, 13] [(9, .v (.slice A_ ((bodyB W l v (Tree.mk n1 s2 b3 l4 u5) 0).length) c_)), (11, .v (.int .i64 ((tagsN W l (Tree.mk n1 s2 b3 l4 u5) k2 + k : Nat) : Int))), (100, .v (.slice A514 ((unknownT l u5).length) c515)), (101, .v (.int .i64 (((unknownT l u5).length : Nat) : Int))), (102, .v (.int .i64 ((k : Nat) : Int))), (119, .v (.slice A625 ((tagsK W l (Tree.mk n1 s2 b3 l4 u5) k2 ++ tagsB ((unknownT l u5).take k) ++ (uv k549.toNat) ++ (uv ((whole s550).length))).length) c626)), (120, .v (.slice A552 ((whole s550).length) c553))] hW633 hE634 fun a637 hE638 => ?_
          clear hE634
          refine of_op (wpOp_append hW633 hE638 (k := 1) (d := 121) (t := 22) (e := 5) (size := 1) (bytes := 1) (A := A625) (As := A552) (m0 := ((tagsK W l (Tree.mk n1 s2 b3 l4 u5) k2 ++ tagsB ((unknownT l u5).take k) ++ (uv k549.toNat) ++ (uv ((whole s550).length))).length)) (c := c626) (m := ((whole s550).length)) (cs := c553) (xs := (bc (tagsK W l (Tree.mk n1 s2 b3 l4 u5) k2 ++ tagsB ((unknownT l u5).take k) ++ (uv k549.toNat) ++ (uv ((whole s550).length))))) (news := bc (whole s550)) (by kernel_rfl) (by kernel_rfl) rfl ((hb555.take 32767).move (Fr.trans (Fr.trans (Fr.trans (Fr.trans (Fr.trans (Fr.trans (Fr.trans (Fr.trans (Fr.trans (Fr.trans hF531 hF539) hF567) hF571) hF582) hF598) hF603) hF609) hF624) hF629) hF635).step immM (Fr.trans (Fr.trans (Fr.trans (Fr.trans (Fr.trans (Fr.trans (Fr.trans (Fr.trans (Fr.trans (Fr.trans hF531 hF539) hF567) hF571) hF582) hF598) hF603) hF609) hF624) hF629) hF635).to').src ((hb555.take 32767).move (Fr.trans (Fr.trans (Fr.trans (Fr.trans (Fr.trans (Fr.trans (Fr.trans (Fr.trans (Fr.trans (Fr.trans hF531 hF539) hF567) hF571) hF582) hF598) hF603) hF609) hF624) hF629) hF635).step immM (Fr.trans (Fr.trans (Fr.trans (Fr.trans (Fr.trans (Fr.trans (Fr.trans (Fr.trans (Fr.trans (Fr.trans hF531 hF539) hF567) hF571) hF582) hF598) hF603) hF609) hF624) hF629) hF635).to').cap (by have h_ := tagsB_le (l := (unknownT l u5)) (k + 1); rw [tagsB_succ he551] at h_; simp only [List.length_append] at h_ ⊢; omega) fun A639 c640 a641 w642 hF643 hW644 hE645 => ?_)
          clear hE638 hW633
          have er646 : (⟨A639, c640, 5, 1, (tagsK W l (Tree.mk n1 s2 b3 l4 u5) k2 ++ tagsB ((unknownT l u5).take k) ++ (uv k549.toNat) ++ (uv ((whole s550).length))).length + (whole s550).length, bc (tagsK W l (Tree.mk n1 s2 b3 l4 u5) k2 ++ tagsB ((unknownT l u5).take k) ++ (uv k549.toNat) ++ (uv ((whole s550).length))) ++ bc (whole s550)⟩ : Rw) = brow A639 c640 5 (tagsK W l (Tree.mk n1 s2 b3 l4 u5) k2 ++ tagsB ((unknownT l u5).take k) ++ (uv k549.toNat) ++ (uv ((whole s550).length)) ++ (whole s550)) := brow_eq (rfl) rfl
          obtain ⟨hW647, hF649⟩ := hW644.rowEq 1 [brow A_ c_ 5 (bodyB W l v (Tree.mk n1 s2 b3 l4 u5) 0), brow A639 c640 5 (tagsK W l (Tree.mk n1 s2 b3 l4 u5) k2 ++ tagsB ((unknownT l u5).take k) ++ (uv k549.toNat) ++ (uv ((whole s550).length)) ++ (whole s550)), brow A592 c593 5 (uv k549.toNat), brow A618 c619 5 (uv ((whole s550).length))] er646
          clear hW644
          have hE650 := EnvOk.pick hE645 (ks := [9, 11, 100, 101, 102, 119, 120, 121]) (env' := [(9, .v (.slice A_ ((bodyB W l v (Tree.mk n1 s2 b3 l4 u5) 0).length) c_)), (11, .v (.int .i64 ((tagsN W l (Tree.mk n1 s2 b3 l4 u5) k2 + k : Nat) : Int))), (100, .v (.slice A514 ((unknownT l u5).length) c515)), (101, .v (.int .i64 (((unknownT l u5).length : Nat) : Int))), (102, .v (.int .i64 ((k : Nat) : Int))), (119, .v (.slice A625 ((tagsK W l (Tree.mk n1 s2 b3 l4 u5) k2 ++ tagsB ((unknownT l u5).take k) ++ (uv k549.toNat) ++ (uv ((whole s550).length))).length) c626)), (120, .v (.slice A552 ((whole s550).length) c553)), (121, .v (.slice A639 ((tagsK W l (Tree.mk n1 s2 b3 l4 u5) k2 ++ tagsB ((unknownT l u5).take k) ++ (uv k549.toNat) ++ (uv ((whole s550).length))).length + (whole s550).length) c640))]) (by kernel_rfl)
          have hE648 := hE650.cast (env' := [(9, .v (.slice A_ ((bodyB W l v (Tree.mk n1 s2 b3 l4 u5) 0).length) c_)), (11, .v (.int .i64 ((tagsN W l (Tree.mk n1 s2 b3 l4 u5) k2 + k : Nat) : Int))), (100, .v (.slice A514 ((unknownT l u5).length) c515)), (101, .v (.int .i64 (((unknownT l u5).length : Nat) : Int))), (102, .v (.int .i64 ((k : Nat) : Int))), (119, .v (.slice A625 ((tagsK W l (Tree.mk n1 s2 b3 l4 u5) k2 ++ tagsB ((unknownT l u5).take k) ++ (uv k549.toNat) ++ (uv ((whole s550).length))).length) c626)), (120, .v (.slice A552 ((whole s550).length) c553)), (121, .v (.slice A639 ((tagsK W l (Tree.mk n1 s2 b3 l4 u5) k2 ++ tagsB ((unknownT l u5).take k) ++ (uv k549.toNat) ++ (uv ((whole s550).length)) ++ (whole s550)).length) c640))]) (by simp only [List.length_append, List.length_cons, List.length_nil, Nat.zero_add])
          clear hE645
          clear hE650
          refine go_rn [13] [] [(9, .v (.slice A_ ((bodyB W l v (Tree.mk n1 s2 b3 l4 u5) 0).length) c_)), (10, .v (.slice A639 ((tagsK W l (Tree.mk n1 s2 b3 l4 u5) k2 ++ tagsB ((unknownT l u5).take k) ++ (uv k549.toNat) ++ (uv ((whole s550).length)) ++ (whole s550)).length) c640)), (11, .v (.int .i64 ((tagsN W l (Tree.mk n1 s2 b3 l4 u5) k2 + k : Nat) : Int))), (100, .v (.slice A514 ((unknownT l u5).length) c515)), (101, .v (.int .i64 (((unknownT l u5).length : Nat) : Int))), (102, .v (.int .i64 ((k : Nat) : Int)))] hW647 hE648 fun a651 hE652 => ?_
          clear hE648
          refine wpOps_nil ?_
          refine then_normal ?_
          refine go_region [0, 1, 2] (by kernel_rfl) ?_
          refine go_rn [0, 1, 2] [] [(9, .v (.slice A_ ((bodyB W l v (Tree.mk n1 s2 b3 l4 u5) 0).length) c_)), (10, .v (.slice A639 ((tagsK W l (Tree.mk n1 s2 b3 l4 u5) k2 ++ tagsB ((unknownT l u5).take k) ++ (uv k549.toNat) ++ (uv ((whole s550).length)) ++ (whole s550)).length) c640)), (11, .v (.int .i64 (IntKind.i64.wrap (((tagsN W l (Tree.mk n1 s2 b3 l4 u5) k2 + k : Nat) : Int) + 1)))), (100, .v (.slice A514 ((unknownT l u5).length) c515)), (101, .v (.int .i64 (((unknownT l u5).length : Nat) : Int))), (102, .v (.int .i64 ((k : Nat) : Int)))] hW647 hE652 fun a653 hE654 => ?_
          clear hE652
          refine wpOps_nil ?_
          refine block_normal ?_
          refine then_normal ?_
          refine go_region [0, 1] (by kernel_rfl) ?_
          refine go_rn [0, 1] [] [(9, .v (.slice A_ ((bodyB W l v (Tree.mk n1 s2 b3 l4 u5) 0).length) c_)), (10, .v (.slice A639 ((tagsK W l (Tree.mk n1 s2 b3 l4 u5) k2 ++ tagsB ((unknownT l u5).take k) ++ (uv k549.toNat) ++ (uv ((whole s550).length)) ++ (whole s550)).length) c640)), (11, .v (.int .i64 (IntKind.i64.wrap (((tagsN W l (Tree.mk n1 s2 b3 l4 u5) k2 + k : Nat) : Int) + 1)))), (100, .v (.slice A514 ((unknownT l u5).length) c515)), (101, .v (.int .i64 (((unknownT l u5).length : Nat) : Int))), (102, .v (.int .i64 (IntKind.i64.wrap (((k : Nat) : Int) + 1))))] hW647 hE654 fun a655 hE656 => ?_
          clear hE654
          refine wpOps_nil ?_
          refine then_normal ?_
          obtain ⟨hE657, hW658, hF659⟩ := hW647.cutB hE656 1 [⟨b21, 0, [.int .i64 n1, .slice A6 s2.length c7, .bool b3, .slice A8 l4.length c9, .slice A10 u5.length c11], true⟩] [(9, .v (.slice A_ ((bodyB W l v (Tree.mk n1 s2 b3 l4 u5) 0).length) c_)), (10, .v (.slice A639 ((tagsK W l (Tree.mk n1 s2 b3 l4 u5) k2 ++ tagsB ((unknownT l u5).take k) ++ (uv k549.toNat) ++ (uv ((whole s550).length)) ++ (whole s550)).length) c640)), (11, .v (.int .i64 (IntKind.i64.wrap (((tagsN W l (Tree.mk n1 s2 b3 l4 u5) k2 + k : Nat) : Int) + 1)))), (100, .v (.slice A514 ((unknownT l u5).length) c515)), (101, .v (.int .i64 (((unknownT l u5).length : Nat) : Int))), (102, .v (.int .i64 (IntKind.i64.wrap (((k : Nat) : Int) + 1))))]
          obtain ⟨hW660, hF661⟩ := hW658.cutR 2 [brow A_ c_ 5 (bodyB W l v (Tree.mk n1 s2 b3 l4 u5) 0), brow A639 c640 5 (tagsK W l (Tree.mk n1 s2 b3 l4 u5) k2 ++ tagsB ((unknownT l u5).take k) ++ (uv k549.toNat) ++ (uv ((whole s550).length)) ++ (whole s550))]
          have er662 : (tagsK W l (Tree.mk n1 s2 b3 l4 u5) k2 ++ tagsB ((unknownT l u5).take k) ++ (uv k549.toNat) ++ (uv ((whole s550).length)) ++ (whole s550)) = (tagsK W l (Tree.mk n1 s2 b3 l4 u5) k2 ++ tagsB ((unknownT l u5).take (k + 1))) := by rw [tagsB_succ he551]; simp only [List.append_assoc]
          have er663 := congrArg (brow A639 c640 5) er662
          obtain ⟨hW664, hF665⟩ := hW660.rowEq 1 [brow A_ c_ 5 (bodyB W l v (Tree.mk n1 s2 b3 l4 u5) 0), brow A639 c640 5 (tagsK W l (Tree.mk n1 s2 b3 l4 u5) k2 ++ tagsB ((unknownT l u5).take (k + 1)))] er663
          clear hW660
          rw [er662] at hE657
          have he666 : IntKind.i64.wrap (((k : Nat) : Int) + 1) = ((k + 1 : Nat) : Int) := wrap_succ (by omega)
          rw [he666] at hE657
          have he667 : IntKind.i64.wrap (((tagsN W l (Tree.mk n1 s2 b3 l4 u5) k2 + k : Nat) : Int) + 1) = ((tagsN W l (Tree.mk n1 s2 b3 l4 u5) k2 + (k + 1) : Nat) : Int) := by rw [wrap_i64 (by omega) (by omega)]; omega
          rw [he667] at hE657
          exact ⟨(unknownT l u5).length - (k + 1), by omega, k + 1, A639, c640, rfl, by omega, hE657.pk, hW664, (Fr.trans (Fr.trans (Fr.trans (Fr.trans (Fr.trans (Fr.trans (Fr.trans (Fr.trans (Fr.trans (Fr.trans (Fr.trans (Fr.trans (Fr.trans (Fr.trans hF539 hF567) hF571) hF582) hF598) hF603) hF609) hF624) hF629) hF635) hF643) hF649) hF659) hF661) hF665)⟩
        ·
          have hf668 := of_decide_eq_false hc542
          refine wp_exit ?_
          refine then_exit ?_
          refine then_exit ?_
          refine block_exit ?_
          refine then_normal ?_
          refine go_seq_region [0, 1, 2, 3, 4, 5, 6, 7] (by kernel_rfl) ?_
          refine go_rn [0, 1, 2] [3, 4, 5, 6, 7] [(10, .v (.slice A4_ ((tagsK W l (Tree.mk n1 s2 b3 l4 u5) k2 ++ tagsB ((unknownT l u5).take k)).length) c4_)), (125, .v (.slice A_ ((bodyB W l v (Tree.mk n1 s2 b3 l4 u5) 0).length) c_)), (127, .v (.int .u64 (IntKind.u64.wrap ((tagsN W l (Tree.mk n1 s2 b3 l4 u5) k2 + k : Nat) : Int))))] hW536 hE541 fun a669 hE670 => ?_
          clear hE541
          have he671 : IntKind.u64.wrap ((tagsN W l (Tree.mk n1 s2 b3 l4 u5) k2 + k : Nat) : Int) = ((tagsN W l (Tree.mk n1 s2 b3 l4 u5) k2 + k : Nat) : Int) := by simp only [wrap_u64, wrap_u32, wrap_u16, IntKind.wrap_i64, IntKind.wrap_i32]; omega
          have hE673 := EnvOk.pick hE670 (ks := [10, 125, 127]) (env' := [(10, .v (.slice A4_ ((tagsK W l (Tree.mk n1 s2 b3 l4 u5) k2 ++ tagsB ((unknownT l u5).take k)).length) c4_)), (125, .v (.slice A_ ((bodyB W l v (Tree.mk n1 s2 b3 l4 u5) 0).length) c_)), (127, .v (.int .u64 (IntKind.u64.wrap ((tagsN W l (Tree.mk n1 s2 b3 l4 u5) k2 + k : Nat) : Int))))]) (by kernel_rfl)
          have hE672 := hE673.cast (env' := [(10, .v (.slice A4_ ((tagsK W l (Tree.mk n1 s2 b3 l4 u5) k2 ++ tagsB ((unknownT l u5).take k)).length) c4_)), (125, .v (.slice A_ ((bodyB W l v (Tree.mk n1 s2 b3 l4 u5) 0).length) c_)), (127, .v (.int .u64 ((tagsN W l (Tree.mk n1 s2 b3 l4 u5) k2 + k : Nat) : Int)))]) (by rw [he671])
          clear hE670 hE673
          refine of_op (wpOp_call hE672 (f := 93) (vs := [.int .u64 ((tagsN W l (Tree.mk n1 s2 b3 l4 u5) k2 + k : Nat) : Int)]) (d := 128) (by kernel_rfl) Tryz.call93 (sUvarint (tagsN W l (Tree.mk n1 s2 b3 l4 u5) k2 + k) (by omega) _) ?_)
          rintro e_ w678 ⟨A676, c677, rfl, ho675, hs674⟩
          refine ⟨_, rfl, fun a679 hE680 => ?_⟩
          obtain ⟨hW681, hF682⟩ := hW536.frFresh hs674 (brow A676 c677 5 (uv (tagsN W l (Tree.mk n1 s2 b3 l4 u5) k2 + k))) (Nat.le_refl _) ho675
          clear hE672 hW536
          refine of_op (wpOp_append hW681 hE680 (k := 0) (d := 129) (t := 22) (e := 5) (size := 1) (bytes := 1) (A := A_) (As := A676) (m0 := ((bodyB W l v (Tree.mk n1 s2 b3 l4 u5) 0).length)) (c := c_) (m := ((uv (tagsN W l (Tree.mk n1 s2 b3 l4 u5) k2 + k)).length)) (cs := c677) (xs := (bc (bodyB W l v (Tree.mk n1 s2 b3 l4 u5) 0))) (news := bc (uv (tagsN W l (Tree.mk n1 s2 b3 l4 u5) k2 + k))) (by kernel_rfl) (by kernel_rfl) rfl (own_src (hW681.own 2 _ rfl) (bc_one _)) (own_cap (hW681.own 2 _ rfl)) (by have hkk3 : k = (unknownT l u5).length := (by omega); subst hkk3; subst hkk2; simp only [List.length_append, List.take_length] at *; omega) fun A683 c684 a685 w686 hF687 hW688 hE689 => ?_)
          clear hE680 hW681
          have er690 : (⟨A683, c684, 5, 1, (bodyB W l v (Tree.mk n1 s2 b3 l4 u5) 0).length + (uv (tagsN W l (Tree.mk n1 s2 b3 l4 u5) k2 + k)).length, bc (bodyB W l v (Tree.mk n1 s2 b3 l4 u5) 0) ++ bc (uv (tagsN W l (Tree.mk n1 s2 b3 l4 u5) k2 + k))⟩ : Rw) = brow A683 c684 5 (bodyB W l v (Tree.mk n1 s2 b3 l4 u5) 0 ++ (uv (tagsN W l (Tree.mk n1 s2 b3 l4 u5) k2 + k))) := brow_eq (rfl) rfl
          obtain ⟨hW691, hF693⟩ := hW688.rowEq 0 [brow A683 c684 5 (bodyB W l v (Tree.mk n1 s2 b3 l4 u5) 0 ++ (uv (tagsN W l (Tree.mk n1 s2 b3 l4 u5) k2 + k))), brow A4_ c4_ 5 (tagsK W l (Tree.mk n1 s2 b3 l4 u5) k2 ++ tagsB ((unknownT l u5).take k)), brow A676 c677 5 (uv (tagsN W l (Tree.mk n1 s2 b3 l4 u5) k2 + k))] er690
          clear hW688
          have hE694 := EnvOk.pick hE689 (ks := [10, 125, 127, 128, 129]) (env' := [(10, .v (.slice A4_ ((tagsK W l (Tree.mk n1 s2 b3 l4 u5) k2 ++ tagsB ((unknownT l u5).take k)).length) c4_)), (125, .v (.slice A_ ((bodyB W l v (Tree.mk n1 s2 b3 l4 u5) 0).length) c_)), (127, .v (.int .u64 ((tagsN W l (Tree.mk n1 s2 b3 l4 u5) k2 + k : Nat) : Int))), (128, .v (.slice A676 ((uv (tagsN W l (Tree.mk n1 s2 b3 l4 u5) k2 + k)).length) c677)), (129, .v (.slice A683 ((bodyB W l v (Tree.mk n1 s2 b3 l4 u5) 0).length + (uv (tagsN W l (Tree.mk n1 s2 b3 l4 u5) k2 + k)).length) c684))]) (by kernel_rfl)
          have hE692 := hE694.cast (env' := [(10, .v (.slice A4_ ((tagsK W l (Tree.mk n1 s2 b3 l4 u5) k2 ++ tagsB ((unknownT l u5).take k)).length) c4_)), (125, .v (.slice A_ ((bodyB W l v (Tree.mk n1 s2 b3 l4 u5) 0).length) c_)), (127, .v (.int .u64 ((tagsN W l (Tree.mk n1 s2 b3 l4 u5) k2 + k : Nat) : Int))), (128, .v (.slice A676 ((uv (tagsN W l (Tree.mk n1 s2 b3 l4 u5) k2 + k)).length) c677)), (129, .v (.slice A683 ((bodyB W l v (Tree.mk n1 s2 b3 l4 u5) 0 ++ (uv (tagsN W l (Tree.mk n1 s2 b3 l4 u5) k2 + k))).length) c684))]) (by simp only [List.length_append, List.length_cons, List.length_nil, Nat.zero_add])
          clear hE689
          clear hE694
          refine go_rn [5] [6, 7] [(129, .v (.slice A683 ((bodyB W l v (Tree.mk n1 s2 b3 l4 u5) 0 ++ (uv (tagsN W l (Tree.mk n1 s2 b3 l4 u5) k2 + k))).length) c684)), (130, .v (.slice A4_ ((tagsK W l (Tree.mk n1 s2 b3 l4 u5) k2 ++ tagsB ((unknownT l u5).take k)).length) c4_))] hW691 hE692 fun a695 hE696 => ?_
          clear hE692
          refine of_op (wpOp_append hW691 hE696 (k := 0) (d := 131) (t := 22) (e := 5) (size := 1) (bytes := 1) (A := A683) (As := A4_) (m0 := ((bodyB W l v (Tree.mk n1 s2 b3 l4 u5) 0 ++ (uv (tagsN W l (Tree.mk n1 s2 b3 l4 u5) k2 + k))).length)) (c := c684) (m := ((tagsK W l (Tree.mk n1 s2 b3 l4 u5) k2 ++ tagsB ((unknownT l u5).take k)).length)) (cs := c4_) (xs := (bc (bodyB W l v (Tree.mk n1 s2 b3 l4 u5) 0 ++ (uv (tagsN W l (Tree.mk n1 s2 b3 l4 u5) k2 + k))))) (news := bc (tagsK W l (Tree.mk n1 s2 b3 l4 u5) k2 ++ tagsB ((unknownT l u5).take k))) (by kernel_rfl) (by kernel_rfl) rfl (own_src (hW691.own 1 _ rfl) (bc_one _)) (own_cap (hW691.own 1 _ rfl)) (by have hkk3 : k = (unknownT l u5).length := (by omega); subst hkk3; subst hkk2; simp only [List.length_append, List.take_length] at *; omega) fun A697 c698 a699 w700 hF701 hW702 hE703 => ?_)
          clear hE696 hW691
          have er704 : (⟨A697, c698, 5, 1, (bodyB W l v (Tree.mk n1 s2 b3 l4 u5) 0 ++ (uv (tagsN W l (Tree.mk n1 s2 b3 l4 u5) k2 + k))).length + (tagsK W l (Tree.mk n1 s2 b3 l4 u5) k2 ++ tagsB ((unknownT l u5).take k)).length, bc (bodyB W l v (Tree.mk n1 s2 b3 l4 u5) 0 ++ (uv (tagsN W l (Tree.mk n1 s2 b3 l4 u5) k2 + k))) ++ bc (tagsK W l (Tree.mk n1 s2 b3 l4 u5) k2 ++ tagsB ((unknownT l u5).take k))⟩ : Rw) = brow A697 c698 5 (bodyB W l v (Tree.mk n1 s2 b3 l4 u5) 0 ++ (uv (tagsN W l (Tree.mk n1 s2 b3 l4 u5) k2 + k)) ++ (tagsK W l (Tree.mk n1 s2 b3 l4 u5) k2 ++ tagsB ((unknownT l u5).take k))) := brow_eq (rfl) rfl
          obtain ⟨hW705, hF707⟩ := hW702.rowEq 0 [brow A697 c698 5 (bodyB W l v (Tree.mk n1 s2 b3 l4 u5) 0 ++ (uv (tagsN W l (Tree.mk n1 s2 b3 l4 u5) k2 + k)) ++ (tagsK W l (Tree.mk n1 s2 b3 l4 u5) k2 ++ tagsB ((unknownT l u5).take k))), brow A4_ c4_ 5 (tagsK W l (Tree.mk n1 s2 b3 l4 u5) k2 ++ tagsB ((unknownT l u5).take k)), brow A676 c677 5 (uv (tagsN W l (Tree.mk n1 s2 b3 l4 u5) k2 + k))] er704
          clear hW702
          have hE708 := EnvOk.pick hE703 (ks := [129, 130, 131]) (env' := [(129, .v (.slice A683 ((bodyB W l v (Tree.mk n1 s2 b3 l4 u5) 0 ++ (uv (tagsN W l (Tree.mk n1 s2 b3 l4 u5) k2 + k))).length) c684)), (130, .v (.slice A4_ ((tagsK W l (Tree.mk n1 s2 b3 l4 u5) k2 ++ tagsB ((unknownT l u5).take k)).length) c4_)), (131, .v (.slice A697 ((bodyB W l v (Tree.mk n1 s2 b3 l4 u5) 0 ++ (uv (tagsN W l (Tree.mk n1 s2 b3 l4 u5) k2 + k))).length + (tagsK W l (Tree.mk n1 s2 b3 l4 u5) k2 ++ tagsB ((unknownT l u5).take k)).length) c698))]) (by kernel_rfl)
          have hE706 := hE708.cast (env' := [(129, .v (.slice A683 ((bodyB W l v (Tree.mk n1 s2 b3 l4 u5) 0 ++ (uv (tagsN W l (Tree.mk n1 s2 b3 l4 u5) k2 + k))).length) c684)), (130, .v (.slice A4_ ((tagsK W l (Tree.mk n1 s2 b3 l4 u5) k2 ++ tagsB ((unknownT l u5).take k)).length) c4_)), (131, .v (.slice A697 ((bodyB W l v (Tree.mk n1 s2 b3 l4 u5) 0 ++ (uv (tagsN W l (Tree.mk n1 s2 b3 l4 u5) k2 + k)) ++ (tagsK W l (Tree.mk n1 s2 b3 l4 u5) k2 ++ tagsB ((unknownT l u5).take k))).length) c698))]) (by simp only [List.length_append, List.length_cons, List.length_nil, Nat.zero_add])
          clear hE703
          clear hE708
          refine go_rn [7] [] [(8, .v (.slice A697 ((bodyB W l v (Tree.mk n1 s2 b3 l4 u5) 0 ++ (uv (tagsN W l (Tree.mk n1 s2 b3 l4 u5) k2 + k)) ++ (tagsK W l (Tree.mk n1 s2 b3 l4 u5) k2 ++ tagsB ((unknownT l u5).take k))).length) c698))] hW705 hE706 fun a709 hE710 => ?_
          clear hE706
          refine wpOps_nil ?_
          refine then_normal ?_
          refine wp_ret ?_
          refine leave hE710 hW705.cells (v := .slice A697 ((bodyB W l v (Tree.mk n1 s2 b3 l4 u5) 0 ++ (uv (tagsN W l (Tree.mk n1 s2 b3 l4 u5) k2 + k)) ++ (tagsK W l (Tree.mk n1 s2 b3 l4 u5) k2 ++ tagsB ((unknownT l u5).take k))).length) c698) (by kernel_rfl) ?_
          have hkk3 : k = (unknownT l u5).length := by omega
          exact fresh_end hW705 (k := 0) rfl (by rw [show flex = true by simpa using hc201, partW_flex, hkk3, hkk2, List.take_length])

end Go.Proofs.YtbjopfcbpobnpaaGreat.ME

/- Contracts: printed by tools/sp.py. Own work. -/
namespace Go.Proofs.YtbjopfcbpobnpaaGreat.ME
open Go
set_option linter.unusedVariables false
set_option linter.unusedSimpArgs false
set_option maxRecDepth 20000

theorem sPartOK : ∀ d, PartOK d
  | 0 => fun A c l v flex ct t w F hl hd ht hr => sPart (fun _ _ => []) A c l v flex ct t w F (fun cf f ct t w F hm hf ht hr => by
      obtain ⟨i, hi⟩ := List.mem_iff_getElem?.1 hm
      have h := depths_get hi
      obtain ⟨k, x1, x2, x3, x4, x5, x6, l, A, c, xs, rfl, _⟩ := hf.open_
      rw [depth_mk] at h; omega) hl ht hr
  | d + 1 => fun A c l v flex ct t w F hl hd ht hr => sPart (fun f t => fieldD d f v flex t) A c l v flex ct t w F (fun cf f ct t w F hm hf ht hr => sField (sPartOK d) cf f v flex ct t w F hf (by
      obtain ⟨i, hi⟩ := List.mem_iff_getElem?.1 hm
      have h := depths_get hi
      obtain ⟨k, x1, x2, x3, x4, x5, x6, l, A, c, xs, rfl, _⟩ := hf.open_
      rw [depth_mk] at h
      show depths l ≤ d
      omega) ht hr) hl ht hr

theorem sWrite {d : Nat} (A : Option Addr) (c : Nat) (l : List Fld) (x v : Int) (ct : List Value) (t : Tree) (w : World) (F : Nat → Nat → Prop) (hl : FldsR w F A c l) (hd : depths l ≤ d) (ht : TreeR w F ct t) (hroom : (writeB d l x v t).length ≤ 1099511627776) :
    Calls Tryz.prog 16 #[.agg #[.slice A l.length c, .int .i64 x], .int .i64 v, .agg ct.toArray] w (FreshB w 5 (writeB d l x v t)) := by
  obtain ⟨xfs, h1, h2⟩ := hl.ex
  have hsm := h1.small
  obtain ⟨n1, s2, b3, l4, u5, A6, c7, A8, c9, A10, c11, xs12, rfl, rfl, h14, h15, h16, h17⟩ := ht.open_
  have hsm19 := h14.small
  have hsm20 := h15.small
  refine enter (n := 21) Tryz.func16 rfl Tryz.ntmps16 (by kernel_rfl) fun a hE => ?_
  have hW := WOk.start w Nil
  refine go_seq_region [0, 1, 2] (by kernel_rfl) ?_
  refine of_op (wpOp_box hW hE (d := 3) (cs := [.slice A l.length c, .int .i64 x]) (by kernel_rfl) fun b21 a22 w23 hb24 hz25 hF26 hW27 hE28 => ?_)
  clear hE hW
  refine of_op (wpOp_box hW27 hE28 (d := 5) (cs := [.int .i64 n1, .slice A6 s2.length c7, .bool b3, .slice A8 l4.length c9, .slice A10 u5.length c11]) (by kernel_rfl) fun b29 a30 w31 hb32 hz33 hF34 hW35 hE36 => ?_)
  clear hE28 hW27
  refine go_rn [2] [] [(1, .v (.int .i64 v)), (3, .p 0 0), (5, .p 1 0)] hW35 hE36 fun a37 hE38 => ?_
  clear hE36
  refine wpOps_nil ?_
  refine then_normal ?_
  refine go_seq_region [0, 1, 2, 3, 4, 5, 6, 7, 8, 9, 10, 11, 12, 13, 14] (by kernel_rfl) ?_
  refine go_rn [0, 1, 2, 3, 4, 5, 6] [7, 8, 9, 10, 11, 12, 13, 14] [(1, .v (.int .i64 v)), (3, .p 0 0), (5, .p 1 0), (8, .v (.slice A l.length c)), (9, .v (.int .i64 v)), (13, .v (.bool (decide (x ≥ 0))))] hW35 hE38 fun a39 hE40 => ?_
  clear hE38
  refine (Bool.eq_false_or_eq_true (decide (x ≥ 0))).elim (fun hc41 => ?_) (fun hc41 => ?_)
  ·
    have hf42 := of_decide_eq_true hc41
    have hE43 := hE40.cast (env' := [(1, .v (.int .i64 v)), (3, .p 0 0), (5, .p 1 0), (8, .v (.slice A l.length c)), (9, .v (.int .i64 v)), (13, .v (.bool true))]) (by rw [hc41])
    clear hE40
    refine go_rn [7, 8, 9, 10, 11, 12] [13, 14] [(8, .v (.slice A l.length c)), (9, .v (.int .i64 v)), (18, .v (.bool (decide (v ≥ x)))), (19, .v (.agg #[.int .i64 n1, .slice A6 s2.length c7, .bool b3, .slice A8 l4.length c9, .slice A10 u5.length c11]))] hW35 hE43 fun a44 hE45 => ?_
    clear hE43
    refine of_op (wpOp_call hE45 (f := 40) (vs := [.slice A l.length c, .int .i64 v, .bool (decide (v ≥ x)), .agg #[.int .i64 n1, .slice A6 s2.length c7, .bool b3, .slice A8 l4.length c9, .slice A10 u5.length c11]]) (d := 20) (by kernel_rfl) Tryz.call40 (sPartOK _ _ _ l v (decide (v ≥ x)) _ (Tree.mk n1 s2 b3 l4 u5) _ _ ⟨xfs, (h1.move hW35.step nilM hW35.imm), (fun i_ x_ h_ => ((h2 i_ x_ h_).move hW35.step nilM hW35.imm))⟩ hd (ht.move hW35.step nilM hW35.imm) (by simpa [writeB, hc41] using hroom)) ?_)
    rintro e_ w50 ⟨A48, c49, rfl, ho47, hs46⟩
    refine ⟨_, rfl, fun a51 hE52 => ?_⟩
    obtain ⟨hW53, hF54⟩ := hW35.frFresh hs46 (brow A48 c49 5 (partB d l v (decide (v ≥ x)) (Tree.mk n1 s2 b3 l4 u5))) (Nat.le_refl _) ho47
    clear hE45 hW35
    refine go_rn [14] [] [(6, .v (.slice A48 ((partB d l v (decide (v ≥ x)) (Tree.mk n1 s2 b3 l4 u5)).length) c49))] hW53 hE52 fun a55 hE56 => ?_
    clear hE52
    refine wpOps_nil ?_
    refine then_normal ?_
    refine wp_ret ?_
    refine leave hE56 hW53.cells (v := .slice A48 ((partB d l v (decide (v ≥ x)) (Tree.mk n1 s2 b3 l4 u5)).length) c49) (by kernel_rfl) ?_
    exact fresh_end hW53 (k := 0) rfl (by simp [writeB, hc41])
  ·
    have hf57 := of_decide_eq_false hc41
    have hE58 := hE40.cast (env' := [(1, .v (.int .i64 v)), (3, .p 0 0), (5, .p 1 0), (8, .v (.slice A l.length c)), (9, .v (.int .i64 v)), (13, .v (.bool false))]) (by rw [hc41])
    clear hE40
    refine go_rn [7, 8, 9, 10, 11, 12] [13, 14] [(8, .v (.slice A l.length c)), (9, .v (.int .i64 v)), (18, .v (.bool false)), (19, .v (.agg #[.int .i64 n1, .slice A6 s2.length c7, .bool b3, .slice A8 l4.length c9, .slice A10 u5.length c11]))] hW35 hE58 fun a59 hE60 => ?_
    clear hE58
    refine of_op (wpOp_call hE60 (f := 40) (vs := [.slice A l.length c, .int .i64 v, .bool false, .agg #[.int .i64 n1, .slice A6 s2.length c7, .bool b3, .slice A8 l4.length c9, .slice A10 u5.length c11]]) (d := 20) (by kernel_rfl) Tryz.call40 (sPartOK _ _ _ l v false _ (Tree.mk n1 s2 b3 l4 u5) _ _ ⟨xfs, (h1.move hW35.step nilM hW35.imm), (fun i_ x_ h_ => ((h2 i_ x_ h_).move hW35.step nilM hW35.imm))⟩ hd (ht.move hW35.step nilM hW35.imm) (by simpa [writeB, hc41] using hroom)) ?_)
    rintro e_ w65 ⟨A63, c64, rfl, ho62, hs61⟩
    refine ⟨_, rfl, fun a66 hE67 => ?_⟩
    obtain ⟨hW68, hF69⟩ := hW35.frFresh hs61 (brow A63 c64 5 (partB d l v false (Tree.mk n1 s2 b3 l4 u5))) (Nat.le_refl _) ho62
    clear hE60 hW35
    refine go_rn [14] [] [(6, .v (.slice A63 ((partB d l v false (Tree.mk n1 s2 b3 l4 u5)).length) c64))] hW68 hE67 fun a70 hE71 => ?_
    clear hE67
    refine wpOps_nil ?_
    refine then_normal ?_
    refine wp_ret ?_
    refine leave hE71 hW68.cells (v := .slice A63 ((partB d l v false (Tree.mk n1 s2 b3 l4 u5)).length) c64) (by kernel_rfl) ?_
    exact fresh_end hW68 (k := 0) rfl (by simp [writeB, hc41])

end Go.Proofs.YtbjopfcbpobnpaaGreat.ME

/- Contracts: printed by tools/sp.py. Own work. -/
namespace Go.Proofs.YtbjopfcbpobnpaaGreat.ME
open Go
set_option linter.unusedVariables false
set_option linter.unusedSimpArgs false
set_option maxRecDepth 20000

/-- a tree, given over: a tree at most m deep -/
def GivenOK (m : Nat) : Prop := ∀ (ct : List Value) (t : Tree) (w : World) (F : Nat → Nat → Prop), TreeR w F ct t → t.depth ≤ m →
    Calls Tryz.prog 14 #[.agg ct.toArray] w (GivesT w F t)

theorem lGiven_step {m : Nat} (hg : GivenOK m) (ct : List Value) (t : Tree) (w : World) (F : Nat → Nat → Prop) (ht : TreeR w F ct t) (hd : t.depth ≤ m + 1) :
    Calls Tryz.prog 14 #[.agg ct.toArray] w (GivesT w F t) := by
  obtain ⟨n1, s2, b3, l4, u5, A6, c7, A8, c9, A10, c11, xs12, rfl, rfl, h14, h15, h16, h17⟩ := ht.open_
  have hsm19 := h14.small
  have hsm20 := h15.small
  obtain ⟨cs21, h22, h23⟩ := h17.ex
  have hsm24 := h22.small
  refine enter (n := 49) Tryz.func14 rfl Tryz.ntmps14 (by kernel_rfl) fun a hE => ?_
  have hW := WOk.start w Nil
  refine go_seq_region [0, 1] (by kernel_rfl) ?_
  refine of_op (wpOp_box hW hE (d := 1) (cs := [.int .i64 n1, .slice A6 s2.length c7, .bool b3, .slice A8 l4.length c9, .slice A10 u5.length c11]) (by kernel_rfl) fun b25 a26 w27 hb28 hz29 hF30 hW31 hE32 => ?_)
  clear hE hW
  refine of_op (wpOp_alloc hW31 hE32 (d := 2) (cs := [.int .i64 0, .slice none 0 0, .bool false, .slice none 0 0, .slice none 0 0]) (by kernel_rfl) fun b33 a34 w35 hb36 hz37 hF38 hW39 hE40 => ?_)
  clear hE32 hW31
  refine wpOps_nil ?_
  refine then_normal ?_
  refine go_seq_region [0, 1, 2, 3, 4, 5, 6, 7, 8] (by kernel_rfl) ?_
  refine go_rn [0, 1, 2, 3, 4, 5, 6] [7, 8] [(1, .p 0 0), (2, .p 1 0), (14, .v (.agg #[.int .i64 n1, .slice A6 s2.length c7, .bool b3, .slice none 0 0, .slice none 0 0]))] hW39 hE40 fun a41 hE42 => ?_
  clear hE40
  refine of_op (wpOp_alloc hW39 hE42 (d := 3) (cs := [.int .i64 0, .slice none 0 0, .bool false, .slice none 0 0, .slice none 0 0]) (by kernel_rfl) fun b43 a44 w45 hb46 hz47 hF48 hW49 hE50 => ?_)
  clear hE42 hW39
  refine of_op (wpOp_store hW49 hE50 (oi := 2) (cs := [.int .i64 n1, .slice A6 s2.length c7, .bool b3, .slice none 0 0, .slice none 0 0]) (by kernel_rfl) fun w51 hF52 hW53 hE54 => ?_)
  clear hE50 hW49
  refine wpOps_nil ?_
  refine then_normal ?_
  refine wp_seq ?_
  refine go_sp [(1, .p 0 0), (2, .p 1 0), (3, .p 2 0), (16, .v (.slice A8 l4.length c9)), (17, .v (.int .i64 ((l4.length : Nat) : Int))), (18, .v (.int .i64 0))] hW53 hE54 fun a55 hE56 => ?_
  clear hE54
  refine wp_block ?_
  have hW57 := hW53.addNil 39 5
  have hF58 := hW53.frNil 39 5
  clear hW53
  refine wp_loop_ghost (fun n_ a_ w_ => ∃ (k : Nat) (A_ : Option Addr) (c_ : Nat) (xs : List Value) (css : List (List Value)), n_ = l4.length - k ∧ k ≤ l4.length ∧ (Trees w_ (Imm F w w_ [⟨b25, 0, [.int .i64 n1, .slice A6 s2.length c7, .bool b3, .slice A8 l4.length c9, .slice A10 u5.length c11], true⟩, ⟨b33, 0, [.int .i64 0, .slice none 0 0, .bool false, .slice none 0 0, .slice none 0 0], true⟩, ⟨b43, 0, [.int .i64 n1, .slice A6 s2.length c7, .bool b3, .slice A_ k c_, .slice none 0 0], true⟩] [⟨A_, c_, 39, 5, k, xs⟩]) xs (l4.take k) css) ∧ LInv hW57 49 [⟨b25, 0, [.int .i64 n1, .slice A6 s2.length c7, .bool b3, .slice A8 l4.length c9, .slice A10 u5.length c11], true⟩, ⟨b33, 0, [.int .i64 0, .slice none 0 0, .bool false, .slice none 0 0, .slice none 0 0], true⟩, ⟨b43, 0, [.int .i64 n1, .slice A6 s2.length c7, .bool b3, .slice A_ k c_, .slice none 0 0], true⟩] [⟨A_, c_, 39, 5, k, xs⟩] [(1, .p 0 0), (2, .p 1 0), (3, .p 2 0), (16, .v (.slice A8 l4.length c9)), (17, .v (.int .i64 ((l4.length : Nat) : Int))), (18, .v (.int .i64 ((k : Nat) : Int)))] a_ w_) (l4.length) ⟨0, none, 0, [], [], by omega, by omega, Trees.nil _ _, hE56.pk, hW57, Fr.refl _ _ _⟩ ?_
  clear hE56
  rintro n59 a60 w61 ⟨k, A_, c_, xs, css, hn64, hk65, hT, hE62, hW63, hF66⟩
  refine go_sp [(1, .p 0 0), (2, .p 1 0), (3, .p 2 0), (16, .v (.slice A8 l4.length c9)), (17, .v (.int .i64 ((l4.length : Nat) : Int))), (18, .v (.int .i64 ((k : Nat) : Int))), (19, .v (.bool (decide (((k : Nat) : Int) < ((l4.length : Nat) : Int)))))] hW63 hE62 fun a67 hE68 => ?_
  clear hE62
  refine wp_seq ?_
  refine cond_of hE68 (b := decide (((k : Nat) : Int) < ((l4.length : Nat) : Int))) (by kernel_rfl) (fun hc69 => ?_) (fun hc69 => ?_)
  ·
    have hf70 := of_decide_eq_true hc69
    refine wp_skip ?_
    refine then_normal ?_
    refine wp_seq ?_
    refine wp_block ?_
    refine go_seq_region [0, 1, 2, 3] (by kernel_rfl) ?_
    obtain ⟨b71, o72, hA73, hl74, hat75⟩ := Slots.get h15 (i := k) (by omega)
    obtain ⟨x76, he77⟩ : ∃ x, l4[k]? = some x := ⟨_, List.getElem?_eq_getElem (by omega)⟩
    have hr78 := h16 k x76 he77
    obtain ⟨n79, s80, b81, l82, u83, A84, c85, A86, c87, A88, c89, xs90, rfl, hcs91, h92, h93, h94, h95⟩ := hr78.open_
    rw [hcs91] at hr78
    have hsm97 := h92.small
    have hsm98 := h93.small
    rw [hcs91] at hat75
    refine of_op (wpOp_index hE68 (t := 23) (A := A8) (m := l4.length) (q := ((k : Nat) : Int)) (d := 20) (by kernel_rfl) (e := 26) (size := 5) (bytes := 88) (by kernel_rfl) hA73 rfl (by omega) fun a99 hE100 => ?_)
    clear hE68
    refine of_op (wpOp_load hE100 (t := 26) (b := b71) (o := o72 + k * 5) (d := 21) (by kernel_rfl) (cs := [.int .i64 n79, .slice A84 s80.length c85, .bool b81, .slice A86 l82.length c87, .slice A88 u83.length c89]) (v := .agg #[.int .i64 n79, .slice A84 s80.length c85, .bool b81, .slice A86 l82.length c87, .slice A88 u83.length c89]) (by kernel_rfl) (AtF.move hat75 hW63.step nilM keepF).at_ fun a101 hE102 => ?_)
    clear hE100
    refine of_op (wpOp_alloc hW63 hE102 (d := 5) (cs := [.int .i64 0, .slice none 0 0, .bool false, .slice none 0 0, .slice none 0 0]) (by kernel_rfl) fun b103 a104 w105 hb106 hz107 hF108 hW109 hE110 => ?_)
    clear hE102 hW63
    refine of_op (wpOp_store hW109 hE110 (oi := 3) (cs := [.int .i64 n79, .slice A84 s80.length c85, .bool b81, .slice A86 l82.length c87, .slice A88 u83.length c89]) (by kernel_rfl) fun w111 hF112 hW113 hE114 => ?_)
    clear hE110 hW109
    refine wpOps_nil ?_
    refine then_normal ?_
    refine go_drawK 7 (by kernel_rfl) hW113 fun w115 hF116 hW117 hT118 => ?_
    clear hW113
    refine go_rnD [0, 1, 2] [(1, .p 0 0), (2, .p 1 0), (3, .p 2 0), (16, .v (.slice A8 l4.length c9)), (17, .v (.int .i64 ((l4.length : Nat) : Int))), (18, .v (.int .i64 ((k : Nat) : Int))), (23, .v (.slice A_ k c_)), (24, .v (.agg #[.int .i64 n79, .slice A84 s80.length c85, .bool b81, .slice A86 l82.length c87, .slice A88 u83.length c89]))] 5 (panicFree_block (panicFree_then (panicFree_then (panicFree_block (panicFree_then panicFree_body))))) (fun _ h => h.cells) hT118 hE114 fun a119 hE120 => ?_
    clear hE114
    refine anyC_op (i := 3) (by kernel_rfl) (wpOp_call hE120 (f := 14) (vs := [.agg #[.int .i64 n79, .slice A84 s80.length c85, .bool b81, .slice A86 l82.length c87, .slice A88 u83.length c89]]) (d := 25) (by kernel_rfl) Tryz.call14 ( hg _ _ _ _ (hr78.move hW117.step nilM hW117.imm) (by have h_ := deep_get he77; rw [tdepth_mk] at hd; omega)) ?_)
    rintro e_ w124 ⟨cs123, rfl, hr122, hs121⟩
    have hr125 := hr122.move (Step.refl _ Nil) nilM (hW117.laid (G := F) hs121)
    obtain ⟨n126, s127, b128, l129, u130, A131, c132, A133, c134, A135, c136, xs137, ht143, hcs138, h139, h140, h141, h142⟩ := hr125.open_
    rw [hcs138] at hr125
    have hsm144 := h139.small
    have hsm145 := h140.small
    rw [hcs138]
    refine ⟨_, rfl, fun a146 hE147 => ?_⟩
    have hW148 := hW117.next_nil hs121
    have hF149 := hW117.frN hs121
    clear hE120
    have hT150 := TT.ofW hF149 hW148
    refine ⟨fun _ => hT150, ?_⟩
    refine anyC_op (i := 4) (by kernel_rfl) (wpOp_lit hW148 hE147 (e := 39) (size := 5) (len := 1) (cs := [.int .i64 n126, .slice A131 s127.length c132, .bool b128, .slice A133 l129.length c134, .slice A135 u130.length c136]) (d := 26) (by kernel_rfl) (by kernel_rfl) fun b151 a152 w153 hb154 hz155 hF156 hW157 hE158 => ?_)
    clear hE147 hW148
    have hT159 := TT.ofW (Fr.trans hF149 hF156) hW157
    refine ⟨fun _ => hT159, ?_⟩
    refine anyC_op (i := 5) (by kernel_rfl) (wpOp_append hW157 hE158 (k := 0) (d := 27) (t := 36) (e := 39) (size := 5) (bytes := 88) (A := A_) (As := (some ⟨b151, 0, none⟩)) (m0 := k) (c := c_) (m := 1) (cs := 1) (xs := xs) (news := [.int .i64 n126, .slice A131 s127.length c132, .bool b128, .slice A133 l129.length c134, .slice A135 u130.length c136]) (by kernel_rfl) (by kernel_rfl) rfl (own_src (hW157.own 1 _ rfl) (allOne_ok (by kernel_rfl))) (own_cap (hW157.own 1 _ rfl)) (by omega) fun A160 c161 a162 w163 hF164 hW165 hE166 => ?_)
    clear hE158 hW157
    have hT167 := TT.ofW (Fr.trans (Fr.trans hF149 hF156) hF164) hW165
    refine ⟨fun _ => hT167, ?_⟩
    refine go_rnD [6] [(1, .p 0 0), (2, .p 1 0), (3, .p 2 0), (16, .v (.slice A8 l4.length c9)), (17, .v (.int .i64 ((l4.length : Nat) : Int))), (18, .v (.int .i64 ((k : Nat) : Int))), (27, .v (.slice A160 (k + 1) c161)), (28, .p 2 3)] 1 (panicFree_block (panicFree_then (panicFree_then (panicFree_block (panicFree_then panicFree_body))))) (fun _ h => h.cells) hT167 hE166 fun a168 hE169 => ?_
    clear hE166
    refine anyC_op (i := 7) (by kernel_rfl) (wpOp_store hW165 hE169 (oi := 2) (cs := [.int .i64 n1, .slice A6 s2.length c7, .bool b3, .slice A160 (k + 1) c161, .slice none 0 0]) (by kernel_rfl) fun w170 hF171 hW172 hE173 => ?_)
    clear hE169 hW165
    refine ⟨fun h => absurd rfl h, ?_⟩
    refine anyC_done (by kernel_rfl) ?_ _
    refine block_normal ?_
    refine then_normal ?_
    refine go_region [0, 1] (by kernel_rfl) ?_
    refine go_rn [0, 1] [] [(1, .p 0 0), (2, .p 1 0), (3, .p 2 0), (16, .v (.slice A8 l4.length c9)), (17, .v (.int .i64 ((l4.length : Nat) : Int))), (18, .v (.int .i64 (IntKind.i64.wrap (((k : Nat) : Int) + 1))))] hW172 hE173 fun a174 hE175 => ?_
    clear hE173
    refine wpOps_nil ?_
    refine then_normal ?_
    obtain ⟨hE176, hW177, hF178⟩ := hW172.cutB hE175 3 [⟨b25, 0, [.int .i64 n1, .slice A6 s2.length c7, .bool b3, .slice A8 l4.length c9, .slice A10 u5.length c11], true⟩, ⟨b33, 0, [.int .i64 0, .slice none 0 0, .bool false, .slice none 0 0, .slice none 0 0], true⟩, ⟨b43, 0, [.int .i64 n1, .slice A6 s2.length c7, .bool b3, .slice A160 (k + 1) c161, .slice none 0 0], true⟩] [(1, .p 0 0), (2, .p 1 0), (3, .p 2 0), (16, .v (.slice A8 l4.length c9)), (17, .v (.int .i64 ((l4.length : Nat) : Int))), (18, .v (.int .i64 (IntKind.i64.wrap (((k : Nat) : Int) + 1))))]
    obtain ⟨hW179, hF180⟩ := hW177.cutR 1 [⟨A160, c161, 39, 5, k + 1, xs ++ [.int .i64 n126, .slice A131 s127.length c132, .bool b128, .slice A133 l129.length c134, .slice A135 u130.length c136]⟩]
    have he181 : IntKind.i64.wrap (((k : Nat) : Int) + 1) = ((k + 1 : Nat) : Int) := wrap_succ (by omega)
    rw [he181] at hE176
    exact ⟨l4.length - (k + 1), by omega, k + 1, A160, c161, xs ++ [Value.int .i64 n126, .slice A131 s127.length c132, .bool b128, .slice A133 l129.length c134, .slice A135 u130.length c136], (css ++ [[Value.int .i64 n126, .slice A131 s127.length c132, .bool b128, .slice A133 l129.length c134, .slice A135 u130.length c136]]), rfl, by omega, by rw [take_succ_of he77]; exact (hT.move (Fr.trans (Fr.trans (Fr.trans (Fr.trans (Fr.trans (Fr.trans (Fr.trans (Fr.trans hF108 hF112) hF116) hF149) hF156) hF164) hF171) hF178) hF180).step immM (Fr.trans (Fr.trans (Fr.trans (Fr.trans (Fr.trans (Fr.trans (Fr.trans (Fr.trans hF108 hF112) hF116) hF149) hF156) hF164) hF171) hF178) hF180).to').snoc (hr125.move (Fr.trans (Fr.trans (Fr.trans (Fr.trans hF156 hF164) hF171) hF178) hF180).step immM (Fr.trans (Fr.trans (Fr.trans (Fr.trans hF156 hF164) hF171) hF178) hF180).to'), hE176.pk, hW179, (Fr.trans (Fr.trans (Fr.trans (Fr.trans (Fr.trans (Fr.trans (Fr.trans (Fr.trans (Fr.trans hF66 hF108) hF112) hF116) hF149) hF156) hF164) hF171) hF178) hF180)⟩
  ·
    have hf182 := of_decide_eq_false hc69
    refine wp_exit ?_
    refine then_exit ?_
    refine then_exit ?_
    refine block_exit ?_
    refine then_normal ?_
    refine wp_seq ?_
    refine go_sp [(2, .p 1 0), (3, .p 2 0), (31, .v (.slice A10 u5.length c11)), (32, .v (.int .i64 ((u5.length : Nat) : Int))), (33, .v (.int .i64 0))] hW63 hE68 fun a183 hE184 => ?_
    clear hE68
    refine wp_block ?_
    have hk0 : k = l4.length := by omega
    have hW185 := hW63.addNil 64 2
    have hF186 := hW63.frNil 64 2
    clear hW63
    refine wp_loop_ghost (fun n_ a_ w_ => ∃ (q : Nat) (A5_ : Option Addr) (c5_ : Nat) (ys : List Value) (dss : List (List Value)), n_ = u5.length - q ∧ q ≤ u5.length ∧ (Tags w_ (Imm F w w_ [⟨b25, 0, [.int .i64 n1, .slice A6 s2.length c7, .bool b3, .slice A8 l4.length c9, .slice A10 u5.length c11], true⟩, ⟨b33, 0, [.int .i64 0, .slice none 0 0, .bool false, .slice none 0 0, .slice none 0 0], true⟩, ⟨b43, 0, [.int .i64 n1, .slice A6 s2.length c7, .bool b3, .slice A_ k c_, .slice A5_ q c5_], true⟩] [⟨A_, c_, 39, 5, k, xs⟩, ⟨A5_, c5_, 64, 2, q, ys⟩]) ys (u5.take q) dss) ∧ LInv hW185 49 [⟨b25, 0, [.int .i64 n1, .slice A6 s2.length c7, .bool b3, .slice A8 l4.length c9, .slice A10 u5.length c11], true⟩, ⟨b33, 0, [.int .i64 0, .slice none 0 0, .bool false, .slice none 0 0, .slice none 0 0], true⟩, ⟨b43, 0, [.int .i64 n1, .slice A6 s2.length c7, .bool b3, .slice A_ k c_, .slice A5_ q c5_], true⟩] [⟨A_, c_, 39, 5, k, xs⟩, ⟨A5_, c5_, 64, 2, q, ys⟩] [(2, .p 1 0), (3, .p 2 0), (31, .v (.slice A10 u5.length c11)), (32, .v (.int .i64 ((u5.length : Nat) : Int))), (33, .v (.int .i64 ((q : Nat) : Int)))] a_ w_) (u5.length) ⟨0, none, 0, [], [], by omega, by omega, Tags.nil _ _, hE184.pk, hW185, Fr.refl _ _ _⟩ ?_
    clear hE184
    rintro n187 a188 w189 ⟨q, A5_, c5_, ys, dss, hn192, hk193, hU, hE190, hW191, hF194⟩
    refine go_sp [(2, .p 1 0), (3, .p 2 0), (31, .v (.slice A10 u5.length c11)), (32, .v (.int .i64 ((u5.length : Nat) : Int))), (33, .v (.int .i64 ((q : Nat) : Int))), (34, .v (.bool (decide (((q : Nat) : Int) < ((u5.length : Nat) : Int)))))] hW191 hE190 fun a195 hE196 => ?_
    clear hE190
    refine wp_seq ?_
    refine cond_of hE196 (b := decide (((q : Nat) : Int) < ((u5.length : Nat) : Int))) (by kernel_rfl) (fun hc197 => ?_) (fun hc197 => ?_)
    ·
      have hf198 := of_decide_eq_true hc197
      refine wp_skip ?_
      refine then_normal ?_
      refine wp_seq ?_
      refine wp_block ?_
      refine go_seq_region [0, 1, 2, 3] (by kernel_rfl) ?_
      obtain ⟨b199, o200, hA201, hl202, hat203⟩ := Slots.get h22 (i := q) (by omega)
      obtain ⟨⟨k204, s205⟩, he206⟩ : ∃ x, u5[q]? = some x := ⟨_, List.getElem?_eq_getElem (by omega)⟩
      obtain ⟨⟨A207, c208, hcs209, hb210⟩, h211, h212⟩ := h23 q k204 s205 he206
      rw [hcs209] at hat203
      refine of_op (wpOp_index hE196 (t := 24) (A := A10) (m := u5.length) (q := ((q : Nat) : Int)) (d := 35) (by kernel_rfl) (e := 63) (size := 2) (bytes := 32) (by kernel_rfl) hA201 rfl (by omega) fun a213 hE214 => ?_)
      clear hE196
      refine of_op (wpOp_load hE214 (t := 63) (b := b199) (o := o200 + q * 2) (d := 36) (by kernel_rfl) (cs := [.int .u32 k204, .slice A207 s205.length c208]) (v := .agg #[.int .u32 k204, .slice A207 s205.length c208]) (by kernel_rfl) (AtF.move hat203 hW191.step nilM keepF).at_ fun a215 hE216 => ?_)
      clear hE214
      refine of_op (wpOp_alloc hW191 hE216 (d := 7) (cs := [.int .u32 0, .slice none 0 0]) (by kernel_rfl) fun b217 a218 w219 hb220 hz221 hF222 hW223 hE224 => ?_)
      clear hE216 hW191
      refine of_op (wpOp_store hW223 hE224 (oi := 3) (cs := [.int .u32 k204, .slice A207 s205.length c208]) (by kernel_rfl) fun w225 hF226 hW227 hE228 => ?_)
      clear hE224 hW223
      refine wpOps_nil ?_
      refine then_normal ?_
      refine go_region [0, 1, 2, 3, 4, 5, 6, 7, 8, 9, 10] (by kernel_rfl) ?_
      refine go_rn [0, 1, 2, 3, 4, 5, 6] [7, 8, 9, 10] [(2, .p 1 0), (3, .p 2 0), (31, .v (.slice A10 u5.length c11)), (32, .v (.int .i64 ((u5.length : Nat) : Int))), (33, .v (.int .i64 ((q : Nat) : Int))), (38, .v (.slice A5_ q c5_)), (43, .v (.agg #[.int .u32 k204, .slice A207 s205.length c208]))] hW227 hE228 fun a229 hE230 => ?_
      clear hE228
      refine wpOps_push hW227 hE230 (k := 1) (e := 64) (size := 2) (len := 1) (cs := [.int .u32 k204, .slice A207 s205.length c208]) (d1 := 44) (d := 45) (by kernel_rfl) (t := 37) (bytes := 32) (by kernel_rfl) (fun _ => by kernel_rfl) rfl (by kernel_rfl) (by omega) fun A231 c232 a233 w234 hF235 hW236 ⟨_, hE237⟩ => ?_
      clear hE230 hW227
      refine go_rn [9] [10] [(2, .p 1 0), (3, .p 2 0), (31, .v (.slice A10 u5.length c11)), (32, .v (.int .i64 ((u5.length : Nat) : Int))), (33, .v (.int .i64 ((q : Nat) : Int))), (45, .v (.slice A231 (q + 1) c232)), (46, .p 2 4)] hW236 hE237 fun a238 hE239 => ?_
      clear hE237
      refine of_op (wpOp_store hW236 hE239 (oi := 2) (cs := [.int .i64 n1, .slice A6 s2.length c7, .bool b3, .slice A_ k c_, .slice A231 (q + 1) c232]) (by kernel_rfl) fun w240 hF241 hW242 hE243 => ?_)
      clear hE239 hW236
      refine wpOps_nil ?_
      refine block_normal ?_
      refine then_normal ?_
      refine go_region [0, 1] (by kernel_rfl) ?_
      refine go_rn [0, 1] [] [(2, .p 1 0), (3, .p 2 0), (31, .v (.slice A10 u5.length c11)), (32, .v (.int .i64 ((u5.length : Nat) : Int))), (33, .v (.int .i64 (IntKind.i64.wrap (((q : Nat) : Int) + 1))))] hW242 hE243 fun a244 hE245 => ?_
      clear hE243
      refine wpOps_nil ?_
      refine then_normal ?_
      obtain ⟨hE246, hW247, hF248⟩ := hW242.cutB hE245 3 [⟨b25, 0, [.int .i64 n1, .slice A6 s2.length c7, .bool b3, .slice A8 l4.length c9, .slice A10 u5.length c11], true⟩, ⟨b33, 0, [.int .i64 0, .slice none 0 0, .bool false, .slice none 0 0, .slice none 0 0], true⟩, ⟨b43, 0, [.int .i64 n1, .slice A6 s2.length c7, .bool b3, .slice A_ k c_, .slice A231 (q + 1) c232], true⟩] [(2, .p 1 0), (3, .p 2 0), (31, .v (.slice A10 u5.length c11)), (32, .v (.int .i64 ((u5.length : Nat) : Int))), (33, .v (.int .i64 (IntKind.i64.wrap (((q : Nat) : Int) + 1))))]
      have he249 : IntKind.i64.wrap (((q : Nat) : Int) + 1) = ((q + 1 : Nat) : Int) := wrap_succ (by omega)
      rw [he249] at hE246
      exact ⟨u5.length - (q + 1), by omega, q + 1, A231, c232, ys ++ [Value.int .u32 k204, .slice A207 s205.length c208], (dss ++ [[Value.int .u32 k204, .slice A207 s205.length c208]]), rfl, by omega, by rw [take_succ_of he206]; exact (hU.move (Fr.trans (Fr.trans (Fr.trans (Fr.trans hF222 hF226) hF235) hF241) hF248).step immM (Fr.trans (Fr.trans (Fr.trans (Fr.trans hF222 hF226) hF235) hF241) hF248).to').snoc (c := [.int .u32 k204, .slice A207 s205.length c208]) (x := (k204, s205)) ⟨⟨_, _, rfl, (hb210.move hW247.step nilM hW247.imm)⟩, h211, h212⟩, hE246.pk, hW247, (Fr.trans (Fr.trans (Fr.trans (Fr.trans (Fr.trans hF194 hF222) hF226) hF235) hF241) hF248)⟩
    ·
      have hf250 := of_decide_eq_false hc197
      refine wp_exit ?_
      refine then_exit ?_
      refine then_exit ?_
      refine block_exit ?_
      refine then_normal ?_
      refine go_seq_region [0, 1] (by kernel_rfl) ?_
      refine go_rn [0] [1] [(2, .p 1 0), (48, .v (.agg #[.int .i64 n1, .slice A6 s2.length c7, .bool b3, .slice A_ k c_, .slice A5_ q c5_]))] hW191 hE196 fun a251 hE252 => ?_
      clear hE196
      refine of_op (wpOp_store hW191 hE252 (oi := 1) (cs := [.int .i64 n1, .slice A6 s2.length c7, .bool b3, .slice A_ k c_, .slice A5_ q c5_]) (by kernel_rfl) fun w253 hF254 hW255 hE256 => ?_)
      clear hE252 hW191
      refine wpOps_nil ?_
      refine then_normal ?_
      refine wp_ret ?_
      refine leave hE256 hW255.cells (v := .agg #[.int .i64 n1, .slice A6 s2.length c7, .bool b3, .slice A_ k c_, .slice A5_ q c5_]) (by kernel_rfl) ?_
      have hq0 : q = u5.length := by omega
      have hT' := (hT.move (Fr.trans (Fr.trans hF186 hF194) hF254).step immM (Fr.trans (Fr.trans hF186 hF194) hF254).to')
      have hU' := (hU.move hF254.step immM hF254.to')
      rw [show l4.take k = l4 by rw [hk0, List.take_length]] at hT'
      rw [show u5.take q = u5 by rw [hq0, List.take_length]] at hU'
      exact tree_end hW255 rfl (h14.move hW255.step nilM startFp) hk0 (trees_fp hW255 (k := 0) rfl hT' hk0 (by omega)) hq0 (tags_fp hW255 (k := 1) rfl hU' hq0 (by omega)) rfl

theorem lGiven : ∀ m, GivenOK m
  | 0 => fun ct t w F ht hd => by
    obtain ⟨n, s, b, l, u, A1, c1, A2, c2, A3, c3, xs, rfl, _⟩ := ht.open_
    rw [tdepth_mk] at hd; omega
  | m + 1 => lGiven_step (lGiven m)

end Go.Proofs.YtbjopfcbpobnpaaGreat.ME

/- Contracts: printed by tools/sp.py. Own work. -/
namespace Go.Proofs.YtbjopfcbpobnpaaGreat.ME
open Go
set_option linter.unusedVariables false
set_option linter.unusedSimpArgs false
set_option maxRecDepth 20000

/-- the fitting of a part whose fields are at most d deep -/
def FitOK (d : Nat) : Prop := ∀ (A : Option Addr) (c : Nat) (l : List Fld) (v : Int) (ct : List Value) (t : Tree) (w : World) (F : Nat → Nat → Prop), FldsR w F A c l → plains l → depths l ≤ d → TreeR w F ct t →
    Calls Tryz.prog 15 #[.slice A l.length c, .int .i64 v, .agg ct.toArray] w (GivesT w F (fitT v d l t))

theorem sFitted0 {d : Nat} (hfit : FitOK d) (cf : List Value) (f : Fld) (v : Int) (ct : List Value) (t : Tree) (w : World) (F : Nat → Nat → Prop) (hf : FldR w F cf f) (hpl : plains f.sub) (hd : depths f.sub ≤ d) (hk11 : f.kind ≠ 11) (ht : TreeR w F ct t) :
    Calls Tryz.prog 36 #[.agg cf.toArray, .int .i64 v, .agg ct.toArray] w (GivesT w F (fitted0 (fitT v d) f (f.nul v t) t)) := by
  obtain ⟨n1, s2, b3, l4, u5, A6, c7, A8, c9, A10, c11, xs12, rfl, rfl, h14, h15, h16, h17⟩ := ht.open_
  have hsm19 := h14.small
  have hsm20 := h15.small
  obtain ⟨k21, y22, y23, y24, y25, y26, y27, l28, A29, c30, xs31, rfl, rfl, h33, h34⟩ := hf.open_
  have hsm35 := h33.small
  have hk11 : k21 ≠ 11 := hk11
  refine enter (n := 82) Tryz.func36 rfl Tryz.ntmps36 (by kernel_rfl) fun a hE => ?_
  have hW := WOk.start w Nil
  refine go_seq_region [0, 1, 2] (by kernel_rfl) ?_
  refine of_op (wpOp_box hW hE (d := 3) (cs := [.int .i64 k21, .int .i64 y22, .int .i64 y23, .int .i64 y24, .int .i64 y25, .int .i64 y26, .int .i64 y27, .slice A29 l28.length c30]) (by kernel_rfl) fun b36 a37 w38 hb39 hz40 hF41 hW42 hE43 => ?_)
  clear hE hW
  refine of_op (wpOp_box hW42 hE43 (d := 5) (cs := [.int .i64 n1, .slice A6 s2.length c7, .bool b3, .slice A8 l4.length c9, .slice A10 u5.length c11]) (by kernel_rfl) fun b44 a45 w46 hb47 hz48 hF49 hW50 hE51 => ?_)
  clear hE43 hW42
  refine of_op (wpOp_alloc hW50 hE51 (d := 6) (cs := [.int .i64 0, .slice none 0 0, .bool false, .slice none 0 0, .slice none 0 0]) (by kernel_rfl) fun b52 a53 w54 hb55 hz56 hF57 hW58 hE59 => ?_)
  clear hE51 hW50
  refine wpOps_nil ?_
  refine then_normal ?_
  refine go_seq_region [0, 1, 2, 3, 4] (by kernel_rfl) ?_
  refine go_rn [0, 1, 2] [3, 4] [(1, .v (.int .i64 v)), (3, .p 0 0), (5, .p 1 0), (6, .p 2 0), (13, .v (.agg #[.int .i64 k21, .int .i64 y22, .int .i64 y23, .int .i64 y24, .int .i64 y25, .int .i64 y26, .int .i64 y27, .slice A29 l28.length c30])), (14, .v (.int .i64 v)), (15, .v (.agg #[.int .i64 n1, .slice A6 s2.length c7, .bool b3, .slice A8 l4.length c9, .slice A10 u5.length c11]))] hW58 hE59 fun a60 hE61 => ?_
  clear hE59
  refine of_op (wpOp_call hE61 (f := 87) (vs := [.agg #[.int .i64 k21, .int .i64 y22, .int .i64 y23, .int .i64 y24, .int .i64 y25, .int .i64 y26, .int .i64 y27, .slice A29 l28.length c30], .int .i64 v, .agg #[.int .i64 n1, .slice A6 s2.length c7, .bool b3, .slice A8 l4.length c9, .slice A10 u5.length c11]]) (d := 16) (by kernel_rfl) Tryz.call87 (sNull k21 y22 y23 y24 y25 y26 y27 l28 _ _ v n1 s2 b3 l4 u5 _ _ _ _ _ _ _) ?_)
  rintro e_ w63 ⟨rfl, hs62⟩
  refine ⟨_, rfl, fun a64 hE65 => ?_⟩
  have hW66 := hW58.next_nil hs62
  have hF67 := hW58.frN hs62
  clear hE61 hW58
  refine go_rn [4] [] [(1, .v (.int .i64 v)), (3, .p 0 0), (5, .p 1 0), (6, .p 2 0), (7, .v (.bool (Fld.nul (Fld.mk k21 y22 y23 y24 y25 y26 y27 l28) v (Tree.mk n1 s2 b3 l4 u5))))] hW66 hE65 fun a68 hE69 => ?_
  clear hE65
  refine wpOps_nil ?_
  refine then_normal ?_
  refine wp_seq ?_
  refine go_sp [(1, .v (.int .i64 v)), (3, .p 0 0), (5, .p 1 0), (6, .p 2 0), (7, .v (.bool (Fld.nul (Fld.mk k21 y22 y23 y24 y25 y26 y27 l28) v (Tree.mk n1 s2 b3 l4 u5)))), (18, .v (.int .i64 k21))] hW66 hE69 fun a70 hE71 => ?_
  clear hE69
  refine wp_block ?_
  refine wp_seq ?_
  refine go_sp [(1, .v (.int .i64 v)), (3, .p 0 0), (5, .p 1 0), (6, .p 2 0), (7, .v (.bool (Fld.nul (Fld.mk k21 y22 y23 y24 y25 y26 y27 l28) v (Tree.mk n1 s2 b3 l4 u5)))), (18, .v (.int .i64 k21)), (19, .v (.bool (k21 == 8)))] hW66 hE71 fun a72 hE73 => ?_
  clear hE71
  refine cond_of hE73 (b := k21 == 8) (by kernel_rfl) (fun hc74 => ?_) (fun hc74 => ?_)
  ·
    have hf75 : k21 = 8 := by simpa using hc74
    refine wp_skip ?_
    refine then_normal ?_
    refine cond_true hE73 (b := k21 == 8) (by kernel_rfl) (hc74) ?_
    refine go_seq_region [0, 1, 2, 3, 4, 5] (by kernel_rfl) ?_
    refine go_rn [0, 1] [2, 3, 4, 5] [(6, .p 2 0), (7, .v (.bool (Fld.nul (Fld.mk k21 y22 y23 y24 y25 y26 y27 l28) v (Tree.mk n1 s2 b3 l4 u5)))), (23, .v (.slice A6 s2.length c7))] hW66 hE73 fun a76 hE77 => ?_
    clear hE73
    have hwl79 := whole_le s2
    refine of_op (wpOp_call hE77 (f := 39) (vs := [.slice A6 s2.length c7]) (d := 24) (by kernel_rfl) Tryz.call39 (sWhole _ _ s2 (h14.move hW66.step nilM hW66.imm).le _) ?_)
    rintro e_ w80 ⟨rfl, hs78⟩
    refine ⟨_, rfl, fun a81 hE82 => ?_⟩
    have hW83 := hW66.next_nil hs78
    have hF84 := hW66.frN hs78
    clear hE77 hW66
    refine go_rn [3, 4] [5] [(6, .p 2 0), (26, .v (.agg #[.int .i64 0, .slice A6 ((whole s2).length) c7, .bool (Fld.nul (Fld.mk k21 y22 y23 y24 y25 y26 y27 l28) v (Tree.mk n1 s2 b3 l4 u5)), .slice none 0 0, .slice none 0 0]))] hW83 hE82 fun a85 hE86 => ?_
    clear hE82
    refine of_op (wpOp_store hW83 hE86 (oi := 2) (cs := [.int .i64 0, .slice A6 ((whole s2).length) c7, .bool (Fld.nul (Fld.mk k21 y22 y23 y24 y25 y26 y27 l28) v (Tree.mk n1 s2 b3 l4 u5)), .slice none 0 0, .slice none 0 0]) (by kernel_rfl) fun w87 hF88 hW89 hE90 => ?_)
    clear hE86 hW83
    refine wpOps_nil ?_
    refine then_normal ?_
    refine wp_ret ?_
    refine block_ret ?_
    refine then_ret ?_
    refine leave hE90 hW89.cells (v := .agg #[.int .i64 0, .slice A6 ((whole s2).length) c7, .bool (Fld.nul (Fld.mk k21 y22 y23 y24 y25 y26 y27 l28) v (Tree.mk n1 s2 b3 l4 u5)), .slice none 0 0, .slice none 0 0]) (by kernel_rfl) ?_
    exact tree_end hW89 rfl (((h14.take 32767).move hW89.step nilM hW89.imm).move (Step.refl _ Nil) nilM immOut) rfl (noTrees _ _) rfl (TagsR.nil _ _) (fitted_8 (by omega))
  ·
    have hf91 : k21 ≠ 8 := by simpa using hc74
    refine go_region [0, 1] (by kernel_rfl) ?_
    refine go_rn [0, 1] [] [(1, .v (.int .i64 v)), (3, .p 0 0), (5, .p 1 0), (6, .p 2 0), (7, .v (.bool (Fld.nul (Fld.mk k21 y22 y23 y24 y25 y26 y27 l28) v (Tree.mk n1 s2 b3 l4 u5)))), (18, .v (.int .i64 k21)), (19, .v (.bool (k21 == 9)))] hW66 hE73 fun a92 hE93 => ?_
    clear hE73
    refine wpOps_nil ?_
    refine then_normal ?_
    refine cond_of hE93 (b := k21 == 9) (by kernel_rfl) (fun hc94 => ?_) (fun hc94 => ?_)
    ·
      have hf95 : k21 = 9 := by simpa using hc94
      refine go_seq_region [0, 1, 2, 3, 4, 5] (by kernel_rfl) ?_
      refine go_rn [0, 1] [2, 3, 4, 5] [(6, .p 2 0), (7, .v (.bool (Fld.nul (Fld.mk k21 y22 y23 y24 y25 y26 y27 l28) v (Tree.mk n1 s2 b3 l4 u5)))), (23, .v (.slice A6 s2.length c7))] hW66 hE93 fun a96 hE97 => ?_
      clear hE93
      have hwl99 := whole_le s2
      refine of_op (wpOp_call hE97 (f := 39) (vs := [.slice A6 s2.length c7]) (d := 24) (by kernel_rfl) Tryz.call39 (sWhole _ _ s2 (h14.move hW66.step nilM hW66.imm).le _) ?_)
      rintro e_ w100 ⟨rfl, hs98⟩
      refine ⟨_, rfl, fun a101 hE102 => ?_⟩
      have hW103 := hW66.next_nil hs98
      have hF104 := hW66.frN hs98
      clear hE97 hW66
      refine go_rn [3, 4] [5] [(6, .p 2 0), (26, .v (.agg #[.int .i64 0, .slice A6 ((whole s2).length) c7, .bool (Fld.nul (Fld.mk k21 y22 y23 y24 y25 y26 y27 l28) v (Tree.mk n1 s2 b3 l4 u5)), .slice none 0 0, .slice none 0 0]))] hW103 hE102 fun a105 hE106 => ?_
      clear hE102
      refine of_op (wpOp_store hW103 hE106 (oi := 2) (cs := [.int .i64 0, .slice A6 ((whole s2).length) c7, .bool (Fld.nul (Fld.mk k21 y22 y23 y24 y25 y26 y27 l28) v (Tree.mk n1 s2 b3 l4 u5)), .slice none 0 0, .slice none 0 0]) (by kernel_rfl) fun w107 hF108 hW109 hE110 => ?_)
      clear hE106 hW103
      refine wpOps_nil ?_
      refine then_normal ?_
      refine wp_ret ?_
      refine block_ret ?_
      refine then_ret ?_
      refine leave hE110 hW109.cells (v := .agg #[.int .i64 0, .slice A6 ((whole s2).length) c7, .bool (Fld.nul (Fld.mk k21 y22 y23 y24 y25 y26 y27 l28) v (Tree.mk n1 s2 b3 l4 u5)), .slice none 0 0, .slice none 0 0]) (by kernel_rfl) ?_
      exact tree_end hW109 rfl (((h14.take 32767).move hW109.step nilM hW109.imm).move (Step.refl _ Nil) nilM immOut) rfl (noTrees _ _) rfl (TagsR.nil _ _) (fitted_8 (by omega))
    ·
      have hf111 : k21 ≠ 9 := by simpa using hc94
      refine go_sp [(1, .v (.int .i64 v)), (3, .p 0 0), (5, .p 1 0), (6, .p 2 0), (7, .v (.bool (Fld.nul (Fld.mk k21 y22 y23 y24 y25 y26 y27 l28) v (Tree.mk n1 s2 b3 l4 u5)))), (18, .v (.int .i64 k21)), (27, .v (.bool (k21 == 10)))] hW66 hE93 fun a112 hE113 => ?_
      clear hE93
      refine cond_of hE113 (b := k21 == 10) (by kernel_rfl) (fun hc114 => ?_) (fun hc114 => ?_)
      ·
        have hf115 : k21 = 10 := by simpa using hc114
        refine go_seq_region [0, 1, 2, 3, 4, 5, 6] (by kernel_rfl) ?_
        refine go_rn [0, 1, 2, 3] [4, 5, 6] [(6, .p 2 0), (7, .v (.bool (Fld.nul (Fld.mk k21 y22 y23 y24 y25 y26 y27 l28) v (Tree.mk n1 s2 b3 l4 u5)))), (30, .v (.slice A29 l28.length c30)), (31, .v (.int .i64 v)), (32, .v (.agg #[.int .i64 n1, .slice A6 s2.length c7, .bool b3, .slice A8 l4.length c9, .slice A10 u5.length c11]))] hW66 hE113 fun a116 hE117 => ?_
        clear hE113
        refine of_op (wpOp_call hE117 (f := 15) (vs := [.slice A29 l28.length c30, .int .i64 v, .agg #[.int .i64 n1, .slice A6 s2.length c7, .bool b3, .slice A8 l4.length c9, .slice A10 u5.length c11]]) (d := 33) (by kernel_rfl) Tryz.call15 ( hfit _ _ l28 v _ (Tree.mk n1 s2 b3 l4 u5) _ _ ⟨xs31, (h33.move hW66.step nilM hW66.imm), (fun i_ x_ h_ => ((h34 i_ x_ h_).move hW66.step nilM hW66.imm))⟩ hpl hd (ht.move hW66.step nilM hW66.imm)) ?_)
        rintro e_ w121 ⟨cs120, rfl, hr119, hs118⟩
        have hr122 := hr119.move (Step.refl _ Nil) nilM (hW66.laid (G := F) hs118)
        obtain ⟨n123, s124, b125, l126, u127, A128, c129, A130, c131, A132, c133, xs134, ht140, hcs135, h136, h137, h138, h139⟩ := hr122.open_
        rw [hcs135] at hr122
        have hsm141 := h136.small
        have hsm142 := h137.small
        rw [hcs135]
        refine ⟨_, rfl, fun a143 hE144 => ?_⟩
        have hW145 := hW66.next_nil hs118
        have hF146 := hW66.frN hs118
        clear hE117
        refine of_op (wpOp_alloc hW145 hE144 (d := 8) (cs := [.int .i64 0, .slice none 0 0, .bool false, .slice none 0 0, .slice none 0 0]) (by kernel_rfl) fun b147 a148 w149 hb150 hz151 hF152 hW153 hE154 => ?_)
        clear hE144 hW145
        refine of_op (wpOp_store hW153 hE154 (oi := 3) (cs := [.int .i64 n123, .slice A128 s124.length c129, .bool b125, .slice A130 l126.length c131, .slice A132 u127.length c133]) (by kernel_rfl) fun w155 hF156 hW157 hE158 => ?_)
        clear hE154 hW153
        refine wpOps_nil ?_
        refine then_normal ?_
        refine go_seq_region [0, 1, 2] (by kernel_rfl) ?_
        refine go_rn [0, 1] [2] [(6, .p 2 0), (8, .p 3 0), (34, .v (.bool (Fld.nul (Fld.mk k21 y22 y23 y24 y25 y26 y27 l28) v (Tree.mk n1 s2 b3 l4 u5)))), (35, .p 3 2)] hW157 hE158 fun a159 hE160 => ?_
        clear hE158
        refine of_op (wpOp_store hW157 hE160 (oi := 3) (cs := [.int .i64 n123, .slice A128 s124.length c129, .bool (Fld.nul (Fld.mk k21 y22 y23 y24 y25 y26 y27 l28) v (Tree.mk n1 s2 b3 l4 u5)), .slice A130 l126.length c131, .slice A132 u127.length c133]) (by kernel_rfl) fun w161 hF162 hW163 hE164 => ?_)
        clear hE160 hW157
        refine wpOps_nil ?_
        refine then_normal ?_
        refine go_seq_region [0, 1] (by kernel_rfl) ?_
        refine go_rn [0] [1] [(6, .p 2 0), (36, .v (.agg #[.int .i64 n123, .slice A128 s124.length c129, .bool (Fld.nul (Fld.mk k21 y22 y23 y24 y25 y26 y27 l28) v (Tree.mk n1 s2 b3 l4 u5)), .slice A130 l126.length c131, .slice A132 u127.length c133]))] hW163 hE164 fun a165 hE166 => ?_
        clear hE164
        refine of_op (wpOp_store hW163 hE166 (oi := 2) (cs := [.int .i64 n123, .slice A128 s124.length c129, .bool (Fld.nul (Fld.mk k21 y22 y23 y24 y25 y26 y27 l28) v (Tree.mk n1 s2 b3 l4 u5)), .slice A130 l126.length c131, .slice A132 u127.length c133]) (by kernel_rfl) fun w167 hF168 hW169 hE170 => ?_)
        clear hE166 hW163
        refine wpOps_nil ?_
        refine then_normal ?_
        refine wp_ret ?_
        refine block_ret ?_
        refine then_ret ?_
        refine leave hE170 hW169.cells (v := .agg #[.int .i64 n123, .slice A128 s124.length c129, .bool (Fld.nul (Fld.mk k21 y22 y23 y24 y25 y26 y27 l28) v (Tree.mk n1 s2 b3 l4 u5)), .slice A130 l126.length c131, .slice A132 u127.length c133]) (by kernel_rfl) ?_
        exact tree_end hW169 rfl ((h136.move (Fr.trans (Fr.trans (Fr.trans hF152 hF156) hF162) hF168).step immM (Fr.trans (Fr.trans (Fr.trans hF152 hF156) hF162) hF168).to').move (Step.refl _ Nil) nilM immOut) rfl ⟨(h137.move (Fr.trans (Fr.trans (Fr.trans hF152 hF156) hF162) hF168).step immM (Fr.trans (Fr.trans (Fr.trans hF152 hF156) hF162) hF168).to').move (Step.refl _ Nil) nilM immOut, fun i_ x_ h_ => ((fun i_ x_ h_ => ((h138 i_ x_ h_).move (Fr.trans (Fr.trans (Fr.trans hF152 hF156) hF162) hF168).step immM (Fr.trans (Fr.trans (Fr.trans hF152 hF156) hF162) hF168).to')) i_ x_ h_).move (Step.refl _ Nil) nilM immOut⟩ rfl ((h139.move (Fr.trans (Fr.trans (Fr.trans hF152 hF156) hF162) hF168).step immM (Fr.trans (Fr.trans (Fr.trans hF152 hF156) hF162) hF168).to').move (Step.refl _ Nil) nilM immOut) (fitted_10 (by assumption) (by assumption) (by assumption) ht140)
      ·
        have hf171 : k21 ≠ 10 := by simpa using hc114
        refine go_sp [(1, .v (.int .i64 v)), (3, .p 0 0), (5, .p 1 0), (6, .p 2 0), (7, .v (.bool (Fld.nul (Fld.mk k21 y22 y23 y24 y25 y26 y27 l28) v (Tree.mk n1 s2 b3 l4 u5)))), (37, .v (.bool (k21 == 11)))] hW66 hE113 fun a172 hE173 => ?_
        clear hE113
        refine cond_false hE173 (b := k21 == 11) (by kernel_rfl) (by simpa using hk11) ?_
        refine wp_skip ?_
        refine block_normal ?_
        refine then_normal ?_
        refine go_seq_region [0, 1, 2, 3, 4, 5] (by kernel_rfl) ?_
        refine go_rn [0, 1, 2, 3, 4] [5] [(6, .p 2 0), (81, .v (.agg #[.int .i64 n1, .slice A6 s2.length c7, .bool false, .slice none 0 0, .slice none 0 0]))] hW66 hE173 fun a174 hE175 => ?_
        clear hE173
        refine of_op (wpOp_store hW66 hE175 (oi := 2) (cs := [.int .i64 n1, .slice A6 s2.length c7, .bool false, .slice none 0 0, .slice none 0 0]) (by kernel_rfl) fun w176 hF177 hW178 hE179 => ?_)
        clear hE175
        refine wpOps_nil ?_
        refine then_normal ?_
        refine wp_ret ?_
        refine leave hE179 hW178.cells (v := .agg #[.int .i64 n1, .slice A6 s2.length c7, .bool false, .slice none 0 0, .slice none 0 0]) (by kernel_rfl) ?_
        exact tree_end hW178 rfl ((h14.move hW178.step nilM hW178.imm).move (Step.refl _ Nil) nilM immOut) rfl (noTrees _ _) rfl (TagsR.nil _ _) (fitted_else (by assumption) (by assumption) (by assumption))

theorem sFitted11 {d : Nat} (hfit : FitOK d) (cf : List Value) (f : Fld) (v : Int) (ct : List Value) (t : Tree) (w : World) (F : Nat → Nat → Prop) (hf : FldR w F cf f) (hpl : f.plain) (hd : depths f.sub ≤ d) (hk11 : f.kind = 11) (ht : TreeR w F ct t) :
    Calls Tryz.prog 36 #[.agg cf.toArray, .int .i64 v, .agg ct.toArray] w (GivesT w F (fittedW (fitT v d) v f t)) := by
  obtain ⟨n1, s2, b3, l4, u5, A6, c7, A8, c9, A10, c11, xs12, rfl, rfl, h14, h15, h16, h17⟩ := ht.open_
  have hsm19 := h14.small
  have hsm20 := h15.small
  obtain ⟨k21, y22, y23, y24, y25, y26, y27, l28, A29, c30, xs31, rfl, rfl, h33, h34⟩ := hf.open_
  have hsm35 := h33.small
  have hk11 : k21 = 11 := hk11
  have hof : y27 ≠ 11 := hpl.1
  refine enter (n := 82) Tryz.func36 rfl Tryz.ntmps36 (by kernel_rfl) fun a hE => ?_
  have hW := WOk.start w Nil
  refine go_seq_region [0, 1, 2] (by kernel_rfl) ?_
  refine of_op (wpOp_box hW hE (d := 3) (cs := [.int .i64 k21, .int .i64 y22, .int .i64 y23, .int .i64 y24, .int .i64 y25, .int .i64 y26, .int .i64 y27, .slice A29 l28.length c30]) (by kernel_rfl) fun b36 a37 w38 hb39 hz40 hF41 hW42 hE43 => ?_)
  clear hE hW
  refine of_op (wpOp_box hW42 hE43 (d := 5) (cs := [.int .i64 n1, .slice A6 s2.length c7, .bool b3, .slice A8 l4.length c9, .slice A10 u5.length c11]) (by kernel_rfl) fun b44 a45 w46 hb47 hz48 hF49 hW50 hE51 => ?_)
  clear hE43 hW42
  refine of_op (wpOp_alloc hW50 hE51 (d := 6) (cs := [.int .i64 0, .slice none 0 0, .bool false, .slice none 0 0, .slice none 0 0]) (by kernel_rfl) fun b52 a53 w54 hb55 hz56 hF57 hW58 hE59 => ?_)
  clear hE51 hW50
  refine wpOps_nil ?_
  refine then_normal ?_
  refine go_seq_region [0, 1, 2, 3, 4] (by kernel_rfl) ?_
  refine go_rn [0, 1, 2] [3, 4] [(1, .v (.int .i64 v)), (3, .p 0 0), (5, .p 1 0), (6, .p 2 0), (13, .v (.agg #[.int .i64 k21, .int .i64 y22, .int .i64 y23, .int .i64 y24, .int .i64 y25, .int .i64 y26, .int .i64 y27, .slice A29 l28.length c30])), (14, .v (.int .i64 v)), (15, .v (.agg #[.int .i64 n1, .slice A6 s2.length c7, .bool b3, .slice A8 l4.length c9, .slice A10 u5.length c11]))] hW58 hE59 fun a60 hE61 => ?_
  clear hE59
  refine of_op (wpOp_call hE61 (f := 87) (vs := [.agg #[.int .i64 k21, .int .i64 y22, .int .i64 y23, .int .i64 y24, .int .i64 y25, .int .i64 y26, .int .i64 y27, .slice A29 l28.length c30], .int .i64 v, .agg #[.int .i64 n1, .slice A6 s2.length c7, .bool b3, .slice A8 l4.length c9, .slice A10 u5.length c11]]) (d := 16) (by kernel_rfl) Tryz.call87 (sNull k21 y22 y23 y24 y25 y26 y27 l28 _ _ v n1 s2 b3 l4 u5 _ _ _ _ _ _ _) ?_)
  rintro e_ w63 ⟨rfl, hs62⟩
  refine ⟨_, rfl, fun a64 hE65 => ?_⟩
  have hW66 := hW58.next_nil hs62
  have hF67 := hW58.frN hs62
  clear hE61 hW58
  refine go_rn [4] [] [(1, .v (.int .i64 v)), (3, .p 0 0), (5, .p 1 0), (6, .p 2 0), (7, .v (.bool (Fld.nul (Fld.mk k21 y22 y23 y24 y25 y26 y27 l28) v (Tree.mk n1 s2 b3 l4 u5))))] hW66 hE65 fun a68 hE69 => ?_
  clear hE65
  refine wpOps_nil ?_
  refine then_normal ?_
  refine wp_seq ?_
  refine go_sp [(1, .v (.int .i64 v)), (3, .p 0 0), (5, .p 1 0), (6, .p 2 0), (7, .v (.bool (Fld.nul (Fld.mk k21 y22 y23 y24 y25 y26 y27 l28) v (Tree.mk n1 s2 b3 l4 u5)))), (18, .v (.int .i64 k21))] hW66 hE69 fun a70 hE71 => ?_
  clear hE69
  refine wp_block ?_
  refine wp_seq ?_
  refine go_sp [(1, .v (.int .i64 v)), (3, .p 0 0), (5, .p 1 0), (6, .p 2 0), (7, .v (.bool (Fld.nul (Fld.mk k21 y22 y23 y24 y25 y26 y27 l28) v (Tree.mk n1 s2 b3 l4 u5)))), (18, .v (.int .i64 k21)), (19, .v (.bool (k21 == 8)))] hW66 hE71 fun a72 hE73 => ?_
  clear hE71
  refine cond_false hE73 (b := k21 == 8) (by kernel_rfl) (by simp [hk11]) ?_
  refine go_region [0, 1] (by kernel_rfl) ?_
  refine go_rn [0, 1] [] [(1, .v (.int .i64 v)), (3, .p 0 0), (5, .p 1 0), (6, .p 2 0), (7, .v (.bool (Fld.nul (Fld.mk k21 y22 y23 y24 y25 y26 y27 l28) v (Tree.mk n1 s2 b3 l4 u5)))), (18, .v (.int .i64 k21)), (19, .v (.bool (k21 == 9)))] hW66 hE73 fun a74 hE75 => ?_
  clear hE73
  refine wpOps_nil ?_
  refine then_normal ?_
  refine cond_false hE75 (b := k21 == 9) (by kernel_rfl) (by simp [hk11]) ?_
  refine go_sp [(1, .v (.int .i64 v)), (3, .p 0 0), (5, .p 1 0), (6, .p 2 0), (7, .v (.bool (Fld.nul (Fld.mk k21 y22 y23 y24 y25 y26 y27 l28) v (Tree.mk n1 s2 b3 l4 u5)))), (18, .v (.int .i64 k21)), (27, .v (.bool (k21 == 10)))] hW66 hE75 fun a76 hE77 => ?_
  clear hE75
  refine cond_false hE77 (b := k21 == 10) (by kernel_rfl) (by simp [hk11]) ?_
  refine go_sp [(1, .v (.int .i64 v)), (3, .p 0 0), (5, .p 1 0), (6, .p 2 0), (7, .v (.bool (Fld.nul (Fld.mk k21 y22 y23 y24 y25 y26 y27 l28) v (Tree.mk n1 s2 b3 l4 u5)))), (37, .v (.bool (k21 == 11)))] hW66 hE77 fun a78 hE79 => ?_
  clear hE77
  refine cond_true hE79 (b := k21 == 11) (by kernel_rfl) (by simpa using hk11) ?_
  refine go_seq_region [0, 1, 2, 3, 4, 5, 6, 7, 8, 9, 10, 11, 12, 13, 14] (by kernel_rfl) ?_
  refine go_rn [0, 1] [2, 3, 4, 5, 6, 7, 8, 9, 10, 11, 12, 13, 14] [(1, .v (.int .i64 v)), (3, .p 0 0), (5, .p 1 0), (6, .p 2 0), (40, .v (.bool (Fld.nul (Fld.mk k21 y22 y23 y24 y25 y26 y27 l28) v (Tree.mk n1 s2 b3 l4 u5))))] hW66 hE79 fun a80 hE81 => ?_
  clear hE79
  refine (Bool.eq_false_or_eq_true (Fld.nul (Fld.mk k21 y22 y23 y24 y25 y26 y27 l28) v (Tree.mk n1 s2 b3 l4 u5))).elim (fun hc82 => ?_) (fun hc82 => ?_)
  ·
    have hE84 := hE81.cast (env' := [(1, .v (.int .i64 v)), (3, .p 0 0), (5, .p 1 0), (6, .p 2 0), (40, .v (.bool true))]) (by rw [hc82])
    clear hE81
    refine go_rn [2, 3, 4, 5, 6, 7, 8, 9, 10, 11, 12] [13, 14] [(1, .v (.int .i64 v)), (3, .p 0 0), (5, .p 1 0), (6, .p 2 0), (51, .v (.agg #[.int .i64 0, .slice none 0 0, .bool true, .slice none 0 0, .slice none 0 0]))] hW66 hE84 fun a85 hE86 => ?_
    clear hE84
    refine of_op (wpOp_alloc hW66 hE86 (d := 9) (cs := [.int .i64 0, .slice none 0 0, .bool false, .slice none 0 0, .slice none 0 0]) (by kernel_rfl) fun b87 a88 w89 hb90 hz91 hF92 hW93 hE94 => ?_)
    clear hE86 hW66
    refine of_op (wpOp_store hW93 hE94 (oi := 3) (cs := [.int .i64 0, .slice none 0 0, .bool true, .slice none 0 0, .slice none 0 0]) (by kernel_rfl) fun w95 hF96 hW97 hE98 => ?_)
    clear hE94 hW93
    refine wpOps_nil ?_
    refine then_normal ?_
    refine go_seq_region [0, 1, 2] (by kernel_rfl) ?_
    refine go_rn [0] [1, 2] [(1, .v (.int .i64 v)), (3, .p 0 0), (5, .p 1 0), (6, .p 2 0), (9, .p 3 0), (52, .v (.agg #[.int .i64 k21, .int .i64 y22, .int .i64 y23, .int .i64 y24, .int .i64 y25, .int .i64 y26, .int .i64 y27, .slice A29 l28.length c30]))] hW97 hE98 fun a99 hE100 => ?_
    clear hE98
    refine of_op (wpOp_alloc hW97 hE100 (d := 10) (cs := [.int .i64 0, .int .i64 0, .int .i64 0, .int .i64 0, .int .i64 0, .int .i64 0, .int .i64 0, .slice none 0 0]) (by kernel_rfl) fun b101 a102 w103 hb104 hz105 hF106 hW107 hE108 => ?_)
    clear hE100 hW97
    refine of_op (wpOp_store hW107 hE108 (oi := 4) (cs := [.int .i64 k21, .int .i64 y22, .int .i64 y23, .int .i64 y24, .int .i64 y25, .int .i64 y26, .int .i64 y27, .slice A29 l28.length c30]) (by kernel_rfl) fun w109 hF110 hW111 hE112 => ?_)
    clear hE108 hW107
    refine wpOps_nil ?_
    refine then_normal ?_
    refine go_seq_region [0, 1, 2, 3, 4, 5, 6, 7] (by kernel_rfl) ?_
    refine go_rn [0, 1, 2] [3, 4, 5, 6, 7] [(1, .v (.int .i64 v)), (5, .p 1 0), (6, .p 2 0), (9, .p 3 0), (10, .p 4 0), (54, .v (.int .i64 y27)), (55, .p 4 0)] hW111 hE112 fun a113 hE114 => ?_
    clear hE112
    refine of_op (wpOp_store hW111 hE114 (oi := 4) (cs := [.int .i64 y27, .int .i64 y22, .int .i64 y23, .int .i64 y24, .int .i64 y25, .int .i64 y26, .int .i64 y27, .slice A29 l28.length c30]) (by kernel_rfl) fun w115 hF116 hW117 hE118 => ?_)
    clear hE114 hW111
    refine go_rn [4] [5, 6, 7] [(1, .v (.int .i64 v)), (5, .p 1 0), (6, .p 2 0), (9, .p 3 0), (10, .p 4 0), (56, .p 4 3)] hW117 hE118 fun a119 hE120 => ?_
    clear hE118
    refine of_op (wpOp_store hW117 hE120 (oi := 4) (cs := [.int .i64 y27, .int .i64 y22, .int .i64 y23, .int .i64 (-1), .int .i64 y25, .int .i64 y26, .int .i64 y27, .slice A29 l28.length c30]) (by kernel_rfl) fun w121 hF122 hW123 hE124 => ?_)
    clear hE120 hW117
    refine go_rn [6] [7] [(1, .v (.int .i64 v)), (5, .p 1 0), (6, .p 2 0), (9, .p 3 0), (10, .p 4 0), (57, .p 4 4)] hW123 hE124 fun a125 hE126 => ?_
    clear hE124
    refine of_op (wpOp_store hW123 hE126 (oi := 4) (cs := [.int .i64 y27, .int .i64 y22, .int .i64 y23, .int .i64 (-1), .int .i64 (-1), .int .i64 y26, .int .i64 y27, .slice A29 l28.length c30]) (by kernel_rfl) fun w127 hF128 hW129 hE130 => ?_)
    clear hE126 hW123
    refine wpOps_nil ?_
    refine then_normal ?_
    refine wp_seq ?_
    refine go_seq_region [0, 1, 2, 3, 4] (by kernel_rfl) ?_
    refine go_rn [0, 1] [2, 3, 4] [(1, .v (.int .i64 v)), (6, .p 2 0), (9, .p 3 0), (10, .p 4 0), (59, .v (.slice A8 l4.length c9))] hW129 hE130 fun a131 hE132 => ?_
    clear hE130
    refine of_op (wpOp_call hE132 (f := 88) (vs := [.slice A8 l4.length c9]) (d := 60) (by kernel_rfl) Tryz.call88 (sThings _ _ l4 (h15.move hW129.step nilM hW129.imm).le _) ?_)
    rintro e_ w134 ⟨rfl, hs133⟩
    refine ⟨_, rfl, fun a135 hE136 => ?_⟩
    have hW137 := hW129.next_nil hs133
    have hF138 := hW129.frN hs133
    clear hE132 hW129
    refine go_rn [3, 4] [] [(1, .v (.int .i64 v)), (6, .p 2 0), (9, .p 3 0), (10, .p 4 0), (60, .v (.slice A8 ((things l4).length) c9)), (61, .v (.int .i64 (((things l4).length : Nat) : Int))), (62, .v (.int .i64 0))] hW137 hE136 fun a139 hE140 => ?_
    clear hE136
    refine wpOps_nil ?_
    refine then_normal ?_
    refine wp_block ?_
    have hW141 := hW137.addNil 26 5
    have hF142 := hW137.frNil 26 5
    clear hW137
    have hsm3 : (things l4).length ≤ 32767 := things_le _
    refine wp_loop_ghost (fun n_ a_ w_ => ∃ (k : Nat) (A_ : Option Addr) (c_ : Nat) (xs : List Value) (css : List (List Value)), n_ = (things l4).length - k ∧ k ≤ (things l4).length ∧ (Trees w_ (Imm F w w_ [⟨b36, 0, [.int .i64 k21, .int .i64 y22, .int .i64 y23, .int .i64 y24, .int .i64 y25, .int .i64 y26, .int .i64 y27, .slice A29 l28.length c30], true⟩, ⟨b44, 0, [.int .i64 n1, .slice A6 s2.length c7, .bool b3, .slice A8 l4.length c9, .slice A10 u5.length c11], true⟩, ⟨b52, 0, [.int .i64 0, .slice none 0 0, .bool false, .slice none 0 0, .slice none 0 0], true⟩, ⟨b87, 0, [.int .i64 0, .slice none 0 0, .bool true, .slice A_ k c_, .slice none 0 0], true⟩, ⟨b101, 0, [.int .i64 y27, .int .i64 y22, .int .i64 y23, .int .i64 (-1), .int .i64 (-1), .int .i64 y26, .int .i64 y27, .slice A29 l28.length c30], true⟩] [⟨A_, c_, 26, 5, k, xs⟩]) xs ((fitL (fitT v d) v (Fld.mk y27 y22 y23 (-1) (-1) y26 y27 l28) l4).take k) css) ∧ LInv hW141 82 [⟨b36, 0, [.int .i64 k21, .int .i64 y22, .int .i64 y23, .int .i64 y24, .int .i64 y25, .int .i64 y26, .int .i64 y27, .slice A29 l28.length c30], true⟩, ⟨b44, 0, [.int .i64 n1, .slice A6 s2.length c7, .bool b3, .slice A8 l4.length c9, .slice A10 u5.length c11], true⟩, ⟨b52, 0, [.int .i64 0, .slice none 0 0, .bool false, .slice none 0 0, .slice none 0 0], true⟩, ⟨b87, 0, [.int .i64 0, .slice none 0 0, .bool true, .slice A_ k c_, .slice none 0 0], true⟩, ⟨b101, 0, [.int .i64 y27, .int .i64 y22, .int .i64 y23, .int .i64 (-1), .int .i64 (-1), .int .i64 y26, .int .i64 y27, .slice A29 l28.length c30], true⟩] [⟨A_, c_, 26, 5, k, xs⟩] [(1, .v (.int .i64 v)), (6, .p 2 0), (9, .p 3 0), (10, .p 4 0), (60, .v (.slice A8 ((things l4).length) c9)), (61, .v (.int .i64 (((things l4).length : Nat) : Int))), (62, .v (.int .i64 ((k : Nat) : Int)))] a_ w_) ((things l4).length) ⟨0, none, 0, [], [], by omega, by omega, Trees.nil _ _, hE140.pk, hW141, Fr.refl _ _ _⟩ ?_
    clear hE140
    rintro n143 a144 w145 ⟨k, A_, c_, xs, css, hn148, hk149, hT, hE146, hW147, hF150⟩
    refine go_sp [(1, .v (.int .i64 v)), (6, .p 2 0), (9, .p 3 0), (10, .p 4 0), (60, .v (.slice A8 ((things l4).length) c9)), (61, .v (.int .i64 (((things l4).length : Nat) : Int))), (62, .v (.int .i64 ((k : Nat) : Int))), (63, .v (.bool (decide (((k : Nat) : Int) < (((things l4).length : Nat) : Int)))))] hW147 hE146 fun a151 hE152 => ?_
    clear hE146
    refine wp_seq ?_
    refine cond_of hE152 (b := decide (((k : Nat) : Int) < (((things l4).length : Nat) : Int))) (by kernel_rfl) (fun hc153 => ?_) (fun hc153 => ?_)
    ·
      have hf154 := of_decide_eq_true hc153
      refine wp_skip ?_
      refine then_normal ?_
      refine wp_seq ?_
      refine wp_block ?_
      refine go_seq_region [0, 1, 2, 3] (by kernel_rfl) ?_
      obtain ⟨b155, o156, hA157, hl158, hat159⟩ := Slots.get (things_slots h15) (i := k) (by omega)
      obtain ⟨x160, he161⟩ : ∃ x, (things l4)[k]? = some x := ⟨_, List.getElem?_eq_getElem (by omega)⟩
      have hr162 := (things_each h16) k x160 he161
      obtain ⟨n163, s164, b165, l166, u167, A168, c169, A170, c171, A172, c173, xs174, rfl, hcs175, h176, h177, h178, h179⟩ := hr162.open_
      rw [hcs175] at hr162
      have hsm181 := h176.small
      have hsm182 := h177.small
      rw [hcs175] at hat159
      refine of_op (wpOp_index hE152 (t := 23) (A := A8) (m := ((things l4).length)) (q := ((k : Nat) : Int)) (d := 64) (by kernel_rfl) (e := 26) (size := 5) (bytes := 88) (by kernel_rfl) hA157 rfl (by omega) fun a183 hE184 => ?_)
      clear hE152
      refine of_op (wpOp_load hE184 (t := 26) (b := b155) (o := o156 + k * 5) (d := 65) (by kernel_rfl) (cs := [.int .i64 n163, .slice A168 s164.length c169, .bool b165, .slice A170 l166.length c171, .slice A172 u167.length c173]) (v := .agg #[.int .i64 n163, .slice A168 s164.length c169, .bool b165, .slice A170 l166.length c171, .slice A172 u167.length c173]) (by kernel_rfl) (AtF.move hat159 hW147.step nilM keepF).at_ fun a185 hE186 => ?_)
      clear hE184
      refine of_op (wpOp_alloc hW147 hE186 (d := 12) (cs := [.int .i64 0, .slice none 0 0, .bool false, .slice none 0 0, .slice none 0 0]) (by kernel_rfl) fun b187 a188 w189 hb190 hz191 hF192 hW193 hE194 => ?_)
      clear hE186 hW147
      refine of_op (wpOp_store hW193 hE194 (oi := 5) (cs := [.int .i64 n163, .slice A168 s164.length c169, .bool b165, .slice A170 l166.length c171, .slice A172 u167.length c173]) (by kernel_rfl) fun w195 hF196 hW197 hE198 => ?_)
      clear hE194 hW193
      refine wpOps_nil ?_
      refine then_normal ?_
      refine go_drawK 9 (by kernel_rfl) hW197 fun w199 hF200 hW201 hT202 => ?_
      clear hW197
      refine go_rnD [0, 1, 2, 3, 4] [(1, .v (.int .i64 v)), (6, .p 2 0), (9, .p 3 0), (10, .p 4 0), (60, .v (.slice A8 ((things l4).length) c9)), (61, .v (.int .i64 (((things l4).length : Nat) : Int))), (62, .v (.int .i64 ((k : Nat) : Int))), (67, .v (.slice A_ k c_)), (68, .v (.agg #[.int .i64 y27, .int .i64 y22, .int .i64 y23, .int .i64 (-1), .int .i64 (-1), .int .i64 y26, .int .i64 y27, .slice A29 l28.length c30])), (69, .v (.int .i64 v)), (70, .v (.agg #[.int .i64 n163, .slice A168 s164.length c169, .bool b165, .slice A170 l166.length c171, .slice A172 u167.length c173]))] 5 (panicFree_block (panicFree_then (panicFree_then (panicFree_block (panicFree_then (panicFree_block (panicFree_then panicFree_body))))))) (fun _ h => h.cells) hT202 hE198 fun a203 hE204 => ?_
      clear hE198
      refine anyC_op (i := 5) (by kernel_rfl) (wpOp_call hE204 (f := 36) (vs := [.agg #[.int .i64 y27, .int .i64 y22, .int .i64 y23, .int .i64 (-1), .int .i64 (-1), .int .i64 y26, .int .i64 y27, .slice A29 l28.length c30], .int .i64 v, .agg #[.int .i64 n163, .slice A168 s164.length c169, .bool b165, .slice A170 l166.length c171, .slice A172 u167.length c173]]) (d := 71) (by kernel_rfl) Tryz.call36 ( sFitted0 hfit _ (Fld.mk y27 y22 y23 (-1) (-1) y26 y27 l28) v _ (Tree.mk n163 s164 b165 l166 u167) _ _ (FldR.mk (l := l28) xs31 (h33.move hW201.step nilM hW201.imm) (fun i_ x_ h_ => ((h34 i_ x_ h_).move hW201.step nilM hW201.imm))) hpl.2 hd hof (hr162.move hW201.step nilM hW201.imm)) ?_)
      rintro e_ w208 ⟨cs207, rfl, hr206, hs205⟩
      have hr209 := hr206.move (Step.refl _ Nil) nilM (hW201.laid (G := F) hs205)
      obtain ⟨n210, s211, b212, l213, u214, A215, c216, A217, c218, A219, c220, xs221, ht227, hcs222, h223, h224, h225, h226⟩ := hr209.open_
      rw [hcs222] at hr209
      have hsm228 := h223.small
      have hsm229 := h224.small
      rw [hcs222]
      refine ⟨_, rfl, fun a230 hE231 => ?_⟩
      have hW232 := hW201.next_nil hs205
      have hF233 := hW201.frN hs205
      clear hE204
      have hT234 := TT.ofW hF233 hW232
      refine ⟨fun _ => hT234, ?_⟩
      refine anyC_op (i := 6) (by kernel_rfl) (wpOp_lit hW232 hE231 (e := 26) (size := 5) (len := 1) (cs := [.int .i64 n210, .slice A215 s211.length c216, .bool b212, .slice A217 l213.length c218, .slice A219 u214.length c220]) (d := 72) (by kernel_rfl) (by kernel_rfl) fun b235 a236 w237 hb238 hz239 hF240 hW241 hE242 => ?_)
      clear hE231 hW232
      have hT243 := TT.ofW (Fr.trans hF233 hF240) hW241
      refine ⟨fun _ => hT243, ?_⟩
      refine anyC_op (i := 7) (by kernel_rfl) (wpOp_append hW241 hE242 (k := 0) (d := 73) (t := 23) (e := 26) (size := 5) (bytes := 88) (A := A_) (As := (some ⟨b235, 0, none⟩)) (m0 := k) (c := c_) (m := 1) (cs := 1) (xs := xs) (news := [.int .i64 n210, .slice A215 s211.length c216, .bool b212, .slice A217 l213.length c218, .slice A219 u214.length c220]) (by kernel_rfl) (by kernel_rfl) rfl (own_src (hW241.own 1 _ rfl) (allOne_ok (by kernel_rfl))) (own_cap (hW241.own 1 _ rfl)) (by omega) fun A244 c245 a246 w247 hF248 hW249 hE250 => ?_)
      clear hE242 hW241
      have hT251 := TT.ofW (Fr.trans (Fr.trans hF233 hF240) hF248) hW249
      refine ⟨fun _ => hT251, ?_⟩
      refine go_rnD [8] [(1, .v (.int .i64 v)), (6, .p 2 0), (9, .p 3 0), (10, .p 4 0), (60, .v (.slice A8 ((things l4).length) c9)), (61, .v (.int .i64 (((things l4).length : Nat) : Int))), (62, .v (.int .i64 ((k : Nat) : Int))), (73, .v (.slice A244 (k + 1) c245)), (74, .p 3 3)] 1 (panicFree_block (panicFree_then (panicFree_then (panicFree_block (panicFree_then (panicFree_block (panicFree_then panicFree_body))))))) (fun _ h => h.cells) hT251 hE250 fun a252 hE253 => ?_
      clear hE250
      refine anyC_op (i := 9) (by kernel_rfl) (wpOp_store hW249 hE253 (oi := 3) (cs := [.int .i64 0, .slice none 0 0, .bool true, .slice A244 (k + 1) c245, .slice none 0 0]) (by kernel_rfl) fun w254 hF255 hW256 hE257 => ?_)
      clear hE253 hW249
      refine ⟨fun h => absurd rfl h, ?_⟩
      refine anyC_done (by kernel_rfl) ?_ _
      refine block_normal ?_
      refine then_normal ?_
      refine go_region [0, 1] (by kernel_rfl) ?_
      refine go_rn [0, 1] [] [(1, .v (.int .i64 v)), (6, .p 2 0), (9, .p 3 0), (10, .p 4 0), (60, .v (.slice A8 ((things l4).length) c9)), (61, .v (.int .i64 (((things l4).length : Nat) : Int))), (62, .v (.int .i64 (IntKind.i64.wrap (((k : Nat) : Int) + 1))))] hW256 hE257 fun a258 hE259 => ?_
      clear hE257
      refine wpOps_nil ?_
      refine then_normal ?_
      obtain ⟨hE260, hW261, hF262⟩ := hW256.cutB hE259 5 [⟨b36, 0, [.int .i64 k21, .int .i64 y22, .int .i64 y23, .int .i64 y24, .int .i64 y25, .int .i64 y26, .int .i64 y27, .slice A29 l28.length c30], true⟩, ⟨b44, 0, [.int .i64 n1, .slice A6 s2.length c7, .bool b3, .slice A8 l4.length c9, .slice A10 u5.length c11], true⟩, ⟨b52, 0, [.int .i64 0, .slice none 0 0, .bool false, .slice none 0 0, .slice none 0 0], true⟩, ⟨b87, 0, [.int .i64 0, .slice none 0 0, .bool true, .slice A244 (k + 1) c245, .slice none 0 0], true⟩, ⟨b101, 0, [.int .i64 y27, .int .i64 y22, .int .i64 y23, .int .i64 (-1), .int .i64 (-1), .int .i64 y26, .int .i64 y27, .slice A29 l28.length c30], true⟩] [(1, .v (.int .i64 v)), (6, .p 2 0), (9, .p 3 0), (10, .p 4 0), (60, .v (.slice A8 ((things l4).length) c9)), (61, .v (.int .i64 (((things l4).length : Nat) : Int))), (62, .v (.int .i64 (IntKind.i64.wrap (((k : Nat) : Int) + 1))))]
      obtain ⟨hW263, hF264⟩ := hW261.cutR 1 [⟨A244, c245, 26, 5, k + 1, xs ++ [.int .i64 n210, .slice A215 s211.length c216, .bool b212, .slice A217 l213.length c218, .slice A219 u214.length c220]⟩]
      have he265 : IntKind.i64.wrap (((k : Nat) : Int) + 1) = ((k + 1 : Nat) : Int) := wrap_succ (by omega)
      rw [he265] at hE260
      exact ⟨(things l4).length - (k + 1), by omega, k + 1, A244, c245, xs ++ [Value.int .i64 n210, .slice A215 s211.length c216, .bool b212, .slice A217 l213.length c218, .slice A219 u214.length c220], (css ++ [[Value.int .i64 n210, .slice A215 s211.length c216, .bool b212, .slice A217 l213.length c218, .slice A219 u214.length c220]]), rfl, by omega, by rw [take_succ_of (fitL_get (p := fitT v d) (v := v) (f := (Fld.mk y27 y22 y23 (-1) (-1) y26 y27 l28)) he161)]; exact (hT.move (Fr.trans (Fr.trans (Fr.trans (Fr.trans (Fr.trans (Fr.trans (Fr.trans (Fr.trans hF192 hF196) hF200) hF233) hF240) hF248) hF255) hF262) hF264).step immM (Fr.trans (Fr.trans (Fr.trans (Fr.trans (Fr.trans (Fr.trans (Fr.trans (Fr.trans hF192 hF196) hF200) hF233) hF240) hF248) hF255) hF262) hF264).to').snoc (hr209.move (Fr.trans (Fr.trans (Fr.trans (Fr.trans hF240 hF248) hF255) hF262) hF264).step immM (Fr.trans (Fr.trans (Fr.trans (Fr.trans hF240 hF248) hF255) hF262) hF264).to'), hE260.pk, hW263, (Fr.trans (Fr.trans (Fr.trans (Fr.trans (Fr.trans (Fr.trans (Fr.trans (Fr.trans (Fr.trans hF150 hF192) hF196) hF200) hF233) hF240) hF248) hF255) hF262) hF264)⟩
    ·
      have hf266 := of_decide_eq_false hc153
      refine wp_exit ?_
      refine then_exit ?_
      refine then_exit ?_
      refine block_exit ?_
      refine then_normal ?_
      refine go_seq_region [0, 1] (by kernel_rfl) ?_
      refine go_rn [0] [1] [(6, .p 2 0), (76, .v (.agg #[.int .i64 0, .slice none 0 0, .bool true, .slice A_ k c_, .slice none 0 0]))] hW147 hE152 fun a267 hE268 => ?_
      clear hE152
      refine of_op (wpOp_store hW147 hE268 (oi := 2) (cs := [.int .i64 0, .slice none 0 0, .bool true, .slice A_ k c_, .slice none 0 0]) (by kernel_rfl) fun w269 hF270 hW271 hE272 => ?_)
      clear hE268 hW147
      refine wpOps_nil ?_
      refine then_normal ?_
      refine wp_ret ?_
      refine block_ret ?_
      refine then_ret ?_
      refine leave hE272 hW271.cells (v := .agg #[.int .i64 0, .slice none 0 0, .bool true, .slice A_ k c_, .slice none 0 0]) (by kernel_rfl) ?_
      have hk0 : k = (fitL (fitT v d) v (Fld.mk y27 y22 y23 (-1) (-1) y26 y27 l28) l4).length := by rw [fitL_len]; omega
      have hT' := (hT.move hF270.step immM hF270.to')
      rw [show (fitL (fitT v d) v (Fld.mk y27 y22 y23 (-1) (-1) y26 y27 l28) l4).take k = (fitL (fitT v d) v (Fld.mk y27 y22 y23 (-1) (-1) y26 y27 l28) l4) by rw [hk0, List.take_length]] at hT'
      exact tree_end hW271 rfl (Octs.nil _ _) hk0 (trees_fp hW271 (k := 0) rfl hT' hk0 (by rw [fitL_len]; omega)) rfl (TagsR.nil _ _) (fittedW_11 hk11 (by simp only [hc82]; try simp))
  ·
    have hE274 := hE81.cast (env' := [(1, .v (.int .i64 v)), (3, .p 0 0), (5, .p 1 0), (6, .p 2 0), (40, .v (.bool false))]) (by rw [hc82])
    clear hE81
    refine go_rn [2, 3, 4, 5] [6, 7, 8, 9, 10, 11, 12, 13, 14] [(1, .v (.int .i64 v)), (3, .p 0 0), (5, .p 1 0), (6, .p 2 0), (40, .v (.bool false)), (44, .v (.bool (decide (y25 ≥ 0))))] hW66 hE274 fun a275 hE276 => ?_
    clear hE274
    refine (Bool.eq_false_or_eq_true (decide (y25 ≥ 0))).elim (fun hc277 => ?_) (fun hc277 => ?_)
    ·
      have hf278 := of_decide_eq_true hc277
      have hE279 := hE276.cast (env' := [(1, .v (.int .i64 v)), (3, .p 0 0), (5, .p 1 0), (6, .p 2 0), (40, .v (.bool false)), (44, .v (.bool true))]) (by rw [hc277])
      clear hE276
      refine go_rn [6, 7, 8, 9, 10, 11, 12] [13, 14] [(1, .v (.int .i64 v)), (3, .p 0 0), (5, .p 1 0), (6, .p 2 0), (51, .v (.agg #[.int .i64 0, .slice none 0 0, .bool (((l4.length : Nat) : Int) == 0), .slice none 0 0, .slice none 0 0]))] hW66 hE279 fun a280 hE281 => ?_
      clear hE279
      refine of_op (wpOp_alloc hW66 hE281 (d := 9) (cs := [.int .i64 0, .slice none 0 0, .bool false, .slice none 0 0, .slice none 0 0]) (by kernel_rfl) fun b282 a283 w284 hb285 hz286 hF287 hW288 hE289 => ?_)
      clear hE281 hW66
      refine of_op (wpOp_store hW288 hE289 (oi := 3) (cs := [.int .i64 0, .slice none 0 0, .bool (((l4.length : Nat) : Int) == 0), .slice none 0 0, .slice none 0 0]) (by kernel_rfl) fun w290 hF291 hW292 hE293 => ?_)
      clear hE289 hW288
      refine wpOps_nil ?_
      refine then_normal ?_
      refine go_seq_region [0, 1, 2] (by kernel_rfl) ?_
      refine go_rn [0] [1, 2] [(1, .v (.int .i64 v)), (3, .p 0 0), (5, .p 1 0), (6, .p 2 0), (9, .p 3 0), (52, .v (.agg #[.int .i64 k21, .int .i64 y22, .int .i64 y23, .int .i64 y24, .int .i64 y25, .int .i64 y26, .int .i64 y27, .slice A29 l28.length c30]))] hW292 hE293 fun a294 hE295 => ?_
      clear hE293
      refine of_op (wpOp_alloc hW292 hE295 (d := 10) (cs := [.int .i64 0, .int .i64 0, .int .i64 0, .int .i64 0, .int .i64 0, .int .i64 0, .int .i64 0, .slice none 0 0]) (by kernel_rfl) fun b296 a297 w298 hb299 hz300 hF301 hW302 hE303 => ?_)
      clear hE295 hW292
      refine of_op (wpOp_store hW302 hE303 (oi := 4) (cs := [.int .i64 k21, .int .i64 y22, .int .i64 y23, .int .i64 y24, .int .i64 y25, .int .i64 y26, .int .i64 y27, .slice A29 l28.length c30]) (by kernel_rfl) fun w304 hF305 hW306 hE307 => ?_)
      clear hE303 hW302
      refine wpOps_nil ?_
      refine then_normal ?_
      refine go_seq_region [0, 1, 2, 3, 4, 5, 6, 7] (by kernel_rfl) ?_
      refine go_rn [0, 1, 2] [3, 4, 5, 6, 7] [(1, .v (.int .i64 v)), (5, .p 1 0), (6, .p 2 0), (9, .p 3 0), (10, .p 4 0), (54, .v (.int .i64 y27)), (55, .p 4 0)] hW306 hE307 fun a308 hE309 => ?_
      clear hE307
      refine of_op (wpOp_store hW306 hE309 (oi := 4) (cs := [.int .i64 y27, .int .i64 y22, .int .i64 y23, .int .i64 y24, .int .i64 y25, .int .i64 y26, .int .i64 y27, .slice A29 l28.length c30]) (by kernel_rfl) fun w310 hF311 hW312 hE313 => ?_)
      clear hE309 hW306
      refine go_rn [4] [5, 6, 7] [(1, .v (.int .i64 v)), (5, .p 1 0), (6, .p 2 0), (9, .p 3 0), (10, .p 4 0), (56, .p 4 3)] hW312 hE313 fun a314 hE315 => ?_
      clear hE313
      refine of_op (wpOp_store hW312 hE315 (oi := 4) (cs := [.int .i64 y27, .int .i64 y22, .int .i64 y23, .int .i64 (-1), .int .i64 y25, .int .i64 y26, .int .i64 y27, .slice A29 l28.length c30]) (by kernel_rfl) fun w316 hF317 hW318 hE319 => ?_)
      clear hE315 hW312
      refine go_rn [6] [7] [(1, .v (.int .i64 v)), (5, .p 1 0), (6, .p 2 0), (9, .p 3 0), (10, .p 4 0), (57, .p 4 4)] hW318 hE319 fun a320 hE321 => ?_
      clear hE319
      refine of_op (wpOp_store hW318 hE321 (oi := 4) (cs := [.int .i64 y27, .int .i64 y22, .int .i64 y23, .int .i64 (-1), .int .i64 (-1), .int .i64 y26, .int .i64 y27, .slice A29 l28.length c30]) (by kernel_rfl) fun w322 hF323 hW324 hE325 => ?_)
      clear hE321 hW318
      refine wpOps_nil ?_
      refine then_normal ?_
      refine wp_seq ?_
      refine go_seq_region [0, 1, 2, 3, 4] (by kernel_rfl) ?_
      refine go_rn [0, 1] [2, 3, 4] [(1, .v (.int .i64 v)), (6, .p 2 0), (9, .p 3 0), (10, .p 4 0), (59, .v (.slice A8 l4.length c9))] hW324 hE325 fun a326 hE327 => ?_
      clear hE325
      refine of_op (wpOp_call hE327 (f := 88) (vs := [.slice A8 l4.length c9]) (d := 60) (by kernel_rfl) Tryz.call88 (sThings _ _ l4 (h15.move hW324.step nilM hW324.imm).le _) ?_)
      rintro e_ w329 ⟨rfl, hs328⟩
      refine ⟨_, rfl, fun a330 hE331 => ?_⟩
      have hW332 := hW324.next_nil hs328
      have hF333 := hW324.frN hs328
      clear hE327 hW324
      refine go_rn [3, 4] [] [(1, .v (.int .i64 v)), (6, .p 2 0), (9, .p 3 0), (10, .p 4 0), (60, .v (.slice A8 ((things l4).length) c9)), (61, .v (.int .i64 (((things l4).length : Nat) : Int))), (62, .v (.int .i64 0))] hW332 hE331 fun a334 hE335 => ?_
      clear hE331
      refine wpOps_nil ?_
      refine then_normal ?_
      refine wp_block ?_
      have hW336 := hW332.addNil 26 5
      have hF337 := hW332.frNil 26 5
      clear hW332
      have hsm3 : (things l4).length ≤ 32767 := things_le _
      refine wp_loop_ghost (fun n_ a_ w_ => ∃ (k : Nat) (A_ : Option Addr) (c_ : Nat) (xs : List Value) (css : List (List Value)), n_ = (things l4).length - k ∧ k ≤ (things l4).length ∧ (Trees w_ (Imm F w w_ [⟨b36, 0, [.int .i64 k21, .int .i64 y22, .int .i64 y23, .int .i64 y24, .int .i64 y25, .int .i64 y26, .int .i64 y27, .slice A29 l28.length c30], true⟩, ⟨b44, 0, [.int .i64 n1, .slice A6 s2.length c7, .bool b3, .slice A8 l4.length c9, .slice A10 u5.length c11], true⟩, ⟨b52, 0, [.int .i64 0, .slice none 0 0, .bool false, .slice none 0 0, .slice none 0 0], true⟩, ⟨b282, 0, [.int .i64 0, .slice none 0 0, .bool (((l4.length : Nat) : Int) == 0), .slice A_ k c_, .slice none 0 0], true⟩, ⟨b296, 0, [.int .i64 y27, .int .i64 y22, .int .i64 y23, .int .i64 (-1), .int .i64 (-1), .int .i64 y26, .int .i64 y27, .slice A29 l28.length c30], true⟩] [⟨A_, c_, 26, 5, k, xs⟩]) xs ((fitL (fitT v d) v (Fld.mk y27 y22 y23 (-1) (-1) y26 y27 l28) l4).take k) css) ∧ LInv hW336 82 [⟨b36, 0, [.int .i64 k21, .int .i64 y22, .int .i64 y23, .int .i64 y24, .int .i64 y25, .int .i64 y26, .int .i64 y27, .slice A29 l28.length c30], true⟩, ⟨b44, 0, [.int .i64 n1, .slice A6 s2.length c7, .bool b3, .slice A8 l4.length c9, .slice A10 u5.length c11], true⟩, ⟨b52, 0, [.int .i64 0, .slice none 0 0, .bool false, .slice none 0 0, .slice none 0 0], true⟩, ⟨b282, 0, [.int .i64 0, .slice none 0 0, .bool (((l4.length : Nat) : Int) == 0), .slice A_ k c_, .slice none 0 0], true⟩, ⟨b296, 0, [.int .i64 y27, .int .i64 y22, .int .i64 y23, .int .i64 (-1), .int .i64 (-1), .int .i64 y26, .int .i64 y27, .slice A29 l28.length c30], true⟩] [⟨A_, c_, 26, 5, k, xs⟩] [(1, .v (.int .i64 v)), (6, .p 2 0), (9, .p 3 0), (10, .p 4 0), (60, .v (.slice A8 ((things l4).length) c9)), (61, .v (.int .i64 (((things l4).length : Nat) : Int))), (62, .v (.int .i64 ((k : Nat) : Int)))] a_ w_) ((things l4).length) ⟨0, none, 0, [], [], by omega, by omega, Trees.nil _ _, hE335.pk, hW336, Fr.refl _ _ _⟩ ?_
      clear hE335
      rintro n338 a339 w340 ⟨k, A_, c_, xs, css, hn343, hk344, hT, hE341, hW342, hF345⟩
      refine go_sp [(1, .v (.int .i64 v)), (6, .p 2 0), (9, .p 3 0), (10, .p 4 0), (60, .v (.slice A8 ((things l4).length) c9)), (61, .v (.int .i64 (((things l4).length : Nat) : Int))), (62, .v (.int .i64 ((k : Nat) : Int))), (63, .v (.bool (decide (((k : Nat) : Int) < (((things l4).length : Nat) : Int)))))] hW342 hE341 fun a346 hE347 => ?_
      clear hE341
      refine wp_seq ?_
      refine cond_of hE347 (b := decide (((k : Nat) : Int) < (((things l4).length : Nat) : Int))) (by kernel_rfl) (fun hc348 => ?_) (fun hc348 => ?_)
      ·
        have hf349 := of_decide_eq_true hc348
        refine wp_skip ?_
        refine then_normal ?_
        refine wp_seq ?_
        refine wp_block ?_
        refine go_seq_region [0, 1, 2, 3] (by kernel_rfl) ?_
        obtain ⟨b350, o351, hA352, hl353, hat354⟩ := Slots.get (things_slots h15) (i := k) (by omega)
        obtain ⟨x355, he356⟩ : ∃ x, (things l4)[k]? = some x := ⟨_, List.getElem?_eq_getElem (by omega)⟩
        have hr357 := (things_each h16) k x355 he356
        obtain ⟨n358, s359, b360, l361, u362, A363, c364, A365, c366, A367, c368, xs369, rfl, hcs370, h371, h372, h373, h374⟩ := hr357.open_
        rw [hcs370] at hr357
        have hsm376 := h371.small
        have hsm377 := h372.small
        rw [hcs370] at hat354
        refine of_op (wpOp_index hE347 (t := 23) (A := A8) (m := ((things l4).length)) (q := ((k : Nat) : Int)) (d := 64) (by kernel_rfl) (e := 26) (size := 5) (bytes := 88) (by kernel_rfl) hA352 rfl (by omega) fun a378 hE379 => ?_)
        clear hE347
        refine of_op (wpOp_load hE379 (t := 26) (b := b350) (o := o351 + k * 5) (d := 65) (by kernel_rfl) (cs := [.int .i64 n358, .slice A363 s359.length c364, .bool b360, .slice A365 l361.length c366, .slice A367 u362.length c368]) (v := .agg #[.int .i64 n358, .slice A363 s359.length c364, .bool b360, .slice A365 l361.length c366, .slice A367 u362.length c368]) (by kernel_rfl) (AtF.move hat354 hW342.step nilM keepF).at_ fun a380 hE381 => ?_)
        clear hE379
        refine of_op (wpOp_alloc hW342 hE381 (d := 12) (cs := [.int .i64 0, .slice none 0 0, .bool false, .slice none 0 0, .slice none 0 0]) (by kernel_rfl) fun b382 a383 w384 hb385 hz386 hF387 hW388 hE389 => ?_)
        clear hE381 hW342
        refine of_op (wpOp_store hW388 hE389 (oi := 5) (cs := [.int .i64 n358, .slice A363 s359.length c364, .bool b360, .slice A365 l361.length c366, .slice A367 u362.length c368]) (by kernel_rfl) fun w390 hF391 hW392 hE393 => ?_)
        clear hE389 hW388
        refine wpOps_nil ?_
        refine then_normal ?_
        refine go_drawK 9 (by kernel_rfl) hW392 fun w394 hF395 hW396 hT397 => ?_
        clear hW392
        refine go_rnD [0, 1, 2, 3, 4] [(1, .v (.int .i64 v)), (6, .p 2 0), (9, .p 3 0), (10, .p 4 0), (60, .v (.slice A8 ((things l4).length) c9)), (61, .v (.int .i64 (((things l4).length : Nat) : Int))), (62, .v (.int .i64 ((k : Nat) : Int))), (67, .v (.slice A_ k c_)), (68, .v (.agg #[.int .i64 y27, .int .i64 y22, .int .i64 y23, .int .i64 (-1), .int .i64 (-1), .int .i64 y26, .int .i64 y27, .slice A29 l28.length c30])), (69, .v (.int .i64 v)), (70, .v (.agg #[.int .i64 n358, .slice A363 s359.length c364, .bool b360, .slice A365 l361.length c366, .slice A367 u362.length c368]))] 5 (panicFree_block (panicFree_then (panicFree_then (panicFree_block (panicFree_then (panicFree_block (panicFree_then panicFree_body))))))) (fun _ h => h.cells) hT397 hE393 fun a398 hE399 => ?_
        clear hE393
        refine anyC_op (i := 5) (by kernel_rfl) (wpOp_call hE399 (f := 36) (vs := [.agg #[.int .i64 y27, .int .i64 y22, .int .i64 y23, .int .i64 (-1), .int .i64 (-1), .int .i64 y26, .int .i64 y27, .slice A29 l28.length c30], .int .i64 v, .agg #[.int .i64 n358, .slice A363 s359.length c364, .bool b360, .slice A365 l361.length c366, .slice A367 u362.length c368]]) (d := 71) (by kernel_rfl) Tryz.call36 ( sFitted0 hfit _ (Fld.mk y27 y22 y23 (-1) (-1) y26 y27 l28) v _ (Tree.mk n358 s359 b360 l361 u362) _ _ (FldR.mk (l := l28) xs31 (h33.move hW396.step nilM hW396.imm) (fun i_ x_ h_ => ((h34 i_ x_ h_).move hW396.step nilM hW396.imm))) hpl.2 hd hof (hr357.move hW396.step nilM hW396.imm)) ?_)
        rintro e_ w403 ⟨cs402, rfl, hr401, hs400⟩
        have hr404 := hr401.move (Step.refl _ Nil) nilM (hW396.laid (G := F) hs400)
        obtain ⟨n405, s406, b407, l408, u409, A410, c411, A412, c413, A414, c415, xs416, ht422, hcs417, h418, h419, h420, h421⟩ := hr404.open_
        rw [hcs417] at hr404
        have hsm423 := h418.small
        have hsm424 := h419.small
        rw [hcs417]
        refine ⟨_, rfl, fun a425 hE426 => ?_⟩
        have hW427 := hW396.next_nil hs400
        have hF428 := hW396.frN hs400
        clear hE399
        have hT429 := TT.ofW hF428 hW427
        refine ⟨fun _ => hT429, ?_⟩
        refine anyC_op (i := 6) (by kernel_rfl) (wpOp_lit hW427 hE426 (e := 26) (size := 5) (len := 1) (cs := [.int .i64 n405, .slice A410 s406.length c411, .bool b407, .slice A412 l408.length c413, .slice A414 u409.length c415]) (d := 72) (by kernel_rfl) (by kernel_rfl) fun b430 a431 w432 hb433 hz434 hF435 hW436 hE437 => ?_)
        clear hE426 hW427
        have hT438 := TT.ofW (Fr.trans hF428 hF435) hW436
        refine ⟨fun _ => hT438, ?_⟩
        refine anyC_op (i := 7) (by kernel_rfl) (wpOp_append hW436 hE437 (k := 0) (d := 73) (t := 23) (e := 26) (size := 5) (bytes := 88) (A := A_) (As := (some ⟨b430, 0, none⟩)) (m0 := k) (c := c_) (m := 1) (cs := 1) (xs := xs) (news := [.int .i64 n405, .slice A410 s406.length c411, .bool b407, .slice A412 l408.length c413, .slice A414 u409.length c415]) (by kernel_rfl) (by kernel_rfl) rfl (own_src (hW436.own 1 _ rfl) (allOne_ok (by kernel_rfl))) (own_cap (hW436.own 1 _ rfl)) (by omega) fun A439 c440 a441 w442 hF443 hW444 hE445 => ?_)
        clear hE437 hW436
        have hT446 := TT.ofW (Fr.trans (Fr.trans hF428 hF435) hF443) hW444
        refine ⟨fun _ => hT446, ?_⟩
        refine go_rnD [8] [(1, .v (.int .i64 v)), (6, .p 2 0), (9, .p 3 0), (10, .p 4 0), (60, .v (.slice A8 ((things l4).length) c9)), (61, .v (.int .i64 (((things l4).length : Nat) : Int))), (62, .v (.int .i64 ((k : Nat) : Int))), (73, .v (.slice A439 (k + 1) c440)), (74, .p 3 3)] 1 (panicFree_block (panicFree_then (panicFree_then (panicFree_block (panicFree_then (panicFree_block (panicFree_then panicFree_body))))))) (fun _ h => h.cells) hT446 hE445 fun a447 hE448 => ?_
        clear hE445
        refine anyC_op (i := 9) (by kernel_rfl) (wpOp_store hW444 hE448 (oi := 3) (cs := [.int .i64 0, .slice none 0 0, .bool (((l4.length : Nat) : Int) == 0), .slice A439 (k + 1) c440, .slice none 0 0]) (by kernel_rfl) fun w449 hF450 hW451 hE452 => ?_)
        clear hE448 hW444
        refine ⟨fun h => absurd rfl h, ?_⟩
        refine anyC_done (by kernel_rfl) ?_ _
        refine block_normal ?_
        refine then_normal ?_
        refine go_region [0, 1] (by kernel_rfl) ?_
        refine go_rn [0, 1] [] [(1, .v (.int .i64 v)), (6, .p 2 0), (9, .p 3 0), (10, .p 4 0), (60, .v (.slice A8 ((things l4).length) c9)), (61, .v (.int .i64 (((things l4).length : Nat) : Int))), (62, .v (.int .i64 (IntKind.i64.wrap (((k : Nat) : Int) + 1))))] hW451 hE452 fun a453 hE454 => ?_
        clear hE452
        refine wpOps_nil ?_
        refine then_normal ?_
        obtain ⟨hE455, hW456, hF457⟩ := hW451.cutB hE454 5 [⟨b36, 0, [.int .i64 k21, .int .i64 y22, .int .i64 y23, .int .i64 y24, .int .i64 y25, .int .i64 y26, .int .i64 y27, .slice A29 l28.length c30], true⟩, ⟨b44, 0, [.int .i64 n1, .slice A6 s2.length c7, .bool b3, .slice A8 l4.length c9, .slice A10 u5.length c11], true⟩, ⟨b52, 0, [.int .i64 0, .slice none 0 0, .bool false, .slice none 0 0, .slice none 0 0], true⟩, ⟨b282, 0, [.int .i64 0, .slice none 0 0, .bool (((l4.length : Nat) : Int) == 0), .slice A439 (k + 1) c440, .slice none 0 0], true⟩, ⟨b296, 0, [.int .i64 y27, .int .i64 y22, .int .i64 y23, .int .i64 (-1), .int .i64 (-1), .int .i64 y26, .int .i64 y27, .slice A29 l28.length c30], true⟩] [(1, .v (.int .i64 v)), (6, .p 2 0), (9, .p 3 0), (10, .p 4 0), (60, .v (.slice A8 ((things l4).length) c9)), (61, .v (.int .i64 (((things l4).length : Nat) : Int))), (62, .v (.int .i64 (IntKind.i64.wrap (((k : Nat) : Int) + 1))))]
        obtain ⟨hW458, hF459⟩ := hW456.cutR 1 [⟨A439, c440, 26, 5, k + 1, xs ++ [.int .i64 n405, .slice A410 s406.length c411, .bool b407, .slice A412 l408.length c413, .slice A414 u409.length c415]⟩]
        have he460 : IntKind.i64.wrap (((k : Nat) : Int) + 1) = ((k + 1 : Nat) : Int) := wrap_succ (by omega)
        rw [he460] at hE455
        exact ⟨(things l4).length - (k + 1), by omega, k + 1, A439, c440, xs ++ [Value.int .i64 n405, .slice A410 s406.length c411, .bool b407, .slice A412 l408.length c413, .slice A414 u409.length c415], (css ++ [[Value.int .i64 n405, .slice A410 s406.length c411, .bool b407, .slice A412 l408.length c413, .slice A414 u409.length c415]]), rfl, by omega, by rw [take_succ_of (fitL_get (p := fitT v d) (v := v) (f := (Fld.mk y27 y22 y23 (-1) (-1) y26 y27 l28)) he356)]; exact (hT.move (Fr.trans (Fr.trans (Fr.trans (Fr.trans (Fr.trans (Fr.trans (Fr.trans (Fr.trans hF387 hF391) hF395) hF428) hF435) hF443) hF450) hF457) hF459).step immM (Fr.trans (Fr.trans (Fr.trans (Fr.trans (Fr.trans (Fr.trans (Fr.trans (Fr.trans hF387 hF391) hF395) hF428) hF435) hF443) hF450) hF457) hF459).to').snoc (hr404.move (Fr.trans (Fr.trans (Fr.trans (Fr.trans hF435 hF443) hF450) hF457) hF459).step immM (Fr.trans (Fr.trans (Fr.trans (Fr.trans hF435 hF443) hF450) hF457) hF459).to'), hE455.pk, hW458, (Fr.trans (Fr.trans (Fr.trans (Fr.trans (Fr.trans (Fr.trans (Fr.trans (Fr.trans (Fr.trans hF345 hF387) hF391) hF395) hF428) hF435) hF443) hF450) hF457) hF459)⟩
      ·
        have hf461 := of_decide_eq_false hc348
        refine wp_exit ?_
        refine then_exit ?_
        refine then_exit ?_
        refine block_exit ?_
        refine then_normal ?_
        refine go_seq_region [0, 1] (by kernel_rfl) ?_
        refine go_rn [0] [1] [(6, .p 2 0), (76, .v (.agg #[.int .i64 0, .slice none 0 0, .bool (((l4.length : Nat) : Int) == 0), .slice A_ k c_, .slice none 0 0]))] hW342 hE347 fun a462 hE463 => ?_
        clear hE347
        refine of_op (wpOp_store hW342 hE463 (oi := 2) (cs := [.int .i64 0, .slice none 0 0, .bool (((l4.length : Nat) : Int) == 0), .slice A_ k c_, .slice none 0 0]) (by kernel_rfl) fun w464 hF465 hW466 hE467 => ?_)
        clear hE463 hW342
        refine wpOps_nil ?_
        refine then_normal ?_
        refine wp_ret ?_
        refine block_ret ?_
        refine then_ret ?_
        refine leave hE467 hW466.cells (v := .agg #[.int .i64 0, .slice none 0 0, .bool (((l4.length : Nat) : Int) == 0), .slice A_ k c_, .slice none 0 0]) (by kernel_rfl) ?_
        have hk0 : k = (fitL (fitT v d) v (Fld.mk y27 y22 y23 (-1) (-1) y26 y27 l28) l4).length := by rw [fitL_len]; omega
        have hT' := (hT.move hF465.step immM hF465.to')
        rw [show (fitL (fitT v d) v (Fld.mk y27 y22 y23 (-1) (-1) y26 y27 l28) l4).take k = (fitL (fitT v d) v (Fld.mk y27 y22 y23 (-1) (-1) y26 y27 l28) l4) by rw [hk0, List.take_length]] at hT'
        exact tree_end hW466 rfl (Octs.nil _ _) hk0 (trees_fp hW466 (k := 0) rfl hT' hk0 (by rw [fitL_len]; omega)) rfl (TagsR.nil _ _) (fittedW_11 hk11 (by simp only [hc82, hc277]; try simp))
    ·
      have hf468 := of_decide_eq_false hc277
      have hE469 := hE276.cast (env' := [(1, .v (.int .i64 v)), (3, .p 0 0), (5, .p 1 0), (6, .p 2 0), (40, .v (.bool false)), (44, .v (.bool false))]) (by rw [hc277])
      clear hE276
      refine go_rn [6, 7, 8, 9, 10, 11, 12] [13, 14] [(1, .v (.int .i64 v)), (3, .p 0 0), (5, .p 1 0), (6, .p 2 0), (51, .v (.agg #[.int .i64 0, .slice none 0 0, .bool false, .slice none 0 0, .slice none 0 0]))] hW66 hE469 fun a470 hE471 => ?_
      clear hE469
      refine of_op (wpOp_alloc hW66 hE471 (d := 9) (cs := [.int .i64 0, .slice none 0 0, .bool false, .slice none 0 0, .slice none 0 0]) (by kernel_rfl) fun b472 a473 w474 hb475 hz476 hF477 hW478 hE479 => ?_)
      clear hE471 hW66
      refine of_op (wpOp_store hW478 hE479 (oi := 3) (cs := [.int .i64 0, .slice none 0 0, .bool false, .slice none 0 0, .slice none 0 0]) (by kernel_rfl) fun w480 hF481 hW482 hE483 => ?_)
      clear hE479 hW478
      refine wpOps_nil ?_
      refine then_normal ?_
      refine go_seq_region [0, 1, 2] (by kernel_rfl) ?_
      refine go_rn [0] [1, 2] [(1, .v (.int .i64 v)), (3, .p 0 0), (5, .p 1 0), (6, .p 2 0), (9, .p 3 0), (52, .v (.agg #[.int .i64 k21, .int .i64 y22, .int .i64 y23, .int .i64 y24, .int .i64 y25, .int .i64 y26, .int .i64 y27, .slice A29 l28.length c30]))] hW482 hE483 fun a484 hE485 => ?_
      clear hE483
      refine of_op (wpOp_alloc hW482 hE485 (d := 10) (cs := [.int .i64 0, .int .i64 0, .int .i64 0, .int .i64 0, .int .i64 0, .int .i64 0, .int .i64 0, .slice none 0 0]) (by kernel_rfl) fun b486 a487 w488 hb489 hz490 hF491 hW492 hE493 => ?_)
      clear hE485 hW482
      refine of_op (wpOp_store hW492 hE493 (oi := 4) (cs := [.int .i64 k21, .int .i64 y22, .int .i64 y23, .int .i64 y24, .int .i64 y25, .int .i64 y26, .int .i64 y27, .slice A29 l28.length c30]) (by kernel_rfl) fun w494 hF495 hW496 hE497 => ?_)
      clear hE493 hW492
      refine wpOps_nil ?_
      refine then_normal ?_
      refine go_seq_region [0, 1, 2, 3, 4, 5, 6, 7] (by kernel_rfl) ?_
      refine go_rn [0, 1, 2] [3, 4, 5, 6, 7] [(1, .v (.int .i64 v)), (5, .p 1 0), (6, .p 2 0), (9, .p 3 0), (10, .p 4 0), (54, .v (.int .i64 y27)), (55, .p 4 0)] hW496 hE497 fun a498 hE499 => ?_
      clear hE497
      refine of_op (wpOp_store hW496 hE499 (oi := 4) (cs := [.int .i64 y27, .int .i64 y22, .int .i64 y23, .int .i64 y24, .int .i64 y25, .int .i64 y26, .int .i64 y27, .slice A29 l28.length c30]) (by kernel_rfl) fun w500 hF501 hW502 hE503 => ?_)
      clear hE499 hW496
      refine go_rn [4] [5, 6, 7] [(1, .v (.int .i64 v)), (5, .p 1 0), (6, .p 2 0), (9, .p 3 0), (10, .p 4 0), (56, .p 4 3)] hW502 hE503 fun a504 hE505 => ?_
      clear hE503
      refine of_op (wpOp_store hW502 hE505 (oi := 4) (cs := [.int .i64 y27, .int .i64 y22, .int .i64 y23, .int .i64 (-1), .int .i64 y25, .int .i64 y26, .int .i64 y27, .slice A29 l28.length c30]) (by kernel_rfl) fun w506 hF507 hW508 hE509 => ?_)
      clear hE505 hW502
      refine go_rn [6] [7] [(1, .v (.int .i64 v)), (5, .p 1 0), (6, .p 2 0), (9, .p 3 0), (10, .p 4 0), (57, .p 4 4)] hW508 hE509 fun a510 hE511 => ?_
      clear hE509
      refine of_op (wpOp_store hW508 hE511 (oi := 4) (cs := [.int .i64 y27, .int .i64 y22, .int .i64 y23, .int .i64 (-1), .int .i64 (-1), .int .i64 y26, .int .i64 y27, .slice A29 l28.length c30]) (by kernel_rfl) fun w512 hF513 hW514 hE515 => ?_)
      clear hE511 hW508
      refine wpOps_nil ?_
      refine then_normal ?_
      refine wp_seq ?_
      refine go_seq_region [0, 1, 2, 3, 4] (by kernel_rfl) ?_
      refine go_rn [0, 1] [2, 3, 4] [(1, .v (.int .i64 v)), (6, .p 2 0), (9, .p 3 0), (10, .p 4 0), (59, .v (.slice A8 l4.length c9))] hW514 hE515 fun a516 hE517 => ?_
      clear hE515
      refine of_op (wpOp_call hE517 (f := 88) (vs := [.slice A8 l4.length c9]) (d := 60) (by kernel_rfl) Tryz.call88 (sThings _ _ l4 (h15.move hW514.step nilM hW514.imm).le _) ?_)
      rintro e_ w519 ⟨rfl, hs518⟩
      refine ⟨_, rfl, fun a520 hE521 => ?_⟩
      have hW522 := hW514.next_nil hs518
      have hF523 := hW514.frN hs518
      clear hE517 hW514
      refine go_rn [3, 4] [] [(1, .v (.int .i64 v)), (6, .p 2 0), (9, .p 3 0), (10, .p 4 0), (60, .v (.slice A8 ((things l4).length) c9)), (61, .v (.int .i64 (((things l4).length : Nat) : Int))), (62, .v (.int .i64 0))] hW522 hE521 fun a524 hE525 => ?_
      clear hE521
      refine wpOps_nil ?_
      refine then_normal ?_
      refine wp_block ?_
      have hW526 := hW522.addNil 26 5
      have hF527 := hW522.frNil 26 5
      clear hW522
      have hsm3 : (things l4).length ≤ 32767 := things_le _
      refine wp_loop_ghost (fun n_ a_ w_ => ∃ (k : Nat) (A_ : Option Addr) (c_ : Nat) (xs : List Value) (css : List (List Value)), n_ = (things l4).length - k ∧ k ≤ (things l4).length ∧ (Trees w_ (Imm F w w_ [⟨b36, 0, [.int .i64 k21, .int .i64 y22, .int .i64 y23, .int .i64 y24, .int .i64 y25, .int .i64 y26, .int .i64 y27, .slice A29 l28.length c30], true⟩, ⟨b44, 0, [.int .i64 n1, .slice A6 s2.length c7, .bool b3, .slice A8 l4.length c9, .slice A10 u5.length c11], true⟩, ⟨b52, 0, [.int .i64 0, .slice none 0 0, .bool false, .slice none 0 0, .slice none 0 0], true⟩, ⟨b472, 0, [.int .i64 0, .slice none 0 0, .bool false, .slice A_ k c_, .slice none 0 0], true⟩, ⟨b486, 0, [.int .i64 y27, .int .i64 y22, .int .i64 y23, .int .i64 (-1), .int .i64 (-1), .int .i64 y26, .int .i64 y27, .slice A29 l28.length c30], true⟩] [⟨A_, c_, 26, 5, k, xs⟩]) xs ((fitL (fitT v d) v (Fld.mk y27 y22 y23 (-1) (-1) y26 y27 l28) l4).take k) css) ∧ LInv hW526 82 [⟨b36, 0, [.int .i64 k21, .int .i64 y22, .int .i64 y23, .int .i64 y24, .int .i64 y25, .int .i64 y26, .int .i64 y27, .slice A29 l28.length c30], true⟩, ⟨b44, 0, [.int .i64 n1, .slice A6 s2.length c7, .bool b3, .slice A8 l4.length c9, .slice A10 u5.length c11], true⟩, ⟨b52, 0, [.int .i64 0, .slice none 0 0, .bool false, .slice none 0 0, .slice none 0 0], true⟩, ⟨b472, 0, [.int .i64 0, .slice none 0 0, .bool false, .slice A_ k c_, .slice none 0 0], true⟩, ⟨b486, 0, [.int .i64 y27, .int .i64 y22, .int .i64 y23, .int .i64 (-1), .int .i64 (-1), .int .i64 y26, .int .i64 y27, .slice A29 l28.length c30], true⟩] [⟨A_, c_, 26, 5, k, xs⟩] [(1, .v (.int .i64 v)), (6, .p 2 0), (9, .p 3 0), (10, .p 4 0), (60, .v (.slice A8 ((things l4).length) c9)), (61, .v (.int .i64 (((things l4).length : Nat) : Int))), (62, .v (.int .i64 ((k : Nat) : Int)))] a_ w_) ((things l4).length) ⟨0, none, 0, [], [], by omega, by omega, Trees.nil _ _, hE525.pk, hW526, Fr.refl _ _ _⟩ ?_
      clear hE525
      rintro n528 a529 w530 ⟨k, A_, c_, xs, css, hn533, hk534, hT, hE531, hW532, hF535⟩
      refine go_sp [(1, .v (.int .i64 v)), (6, .p 2 0), (9, .p 3 0), (10, .p 4 0), (60, .v (.slice A8 ((things l4).length) c9)), (61, .v (.int .i64 (((things l4).length : Nat) : Int))), (62, .v (.int .i64 ((k : Nat) : Int))), (63, .v (.bool (decide (((k : Nat) : Int) < (((things l4).length : Nat) : Int)))))] hW532 hE531 fun a536 hE537 => ?_
      clear hE531
      refine wp_seq ?_
      refine cond_of hE537 (b := decide (((k : Nat) : Int) < (((things l4).length : Nat) : Int))) (by kernel_rfl) (fun hc538 => ?_) (fun hc538 => ?_)
      ·
        have hf539 := of_decide_eq_true hc538
        refine wp_skip ?_
        refine then_normal ?_
        refine wp_seq ?_
        refine wp_block ?_
        refine go_seq_region [0, 1, 2, 3] (by kernel_rfl) ?_
        obtain ⟨b540, o541, hA542, hl543, hat544⟩ := Slots.get (things_slots h15) (i := k) (by omega)
        obtain ⟨x545, he546⟩ : ∃ x, (things l4)[k]? = some x := ⟨_, List.getElem?_eq_getElem (by omega)⟩
        have hr547 := (things_each h16) k x545 he546
        obtain ⟨n548, s549, b550, l551, u552, A553, c554, A555, c556, A557, c558, xs559, rfl, hcs560, h561, h562, h563, h564⟩ := hr547.open_
        rw [hcs560] at hr547
        have hsm566 := h561.small
        have hsm567 := h562.small
        rw [hcs560] at hat544
        refine of_op (wpOp_index hE537 (t := 23) (A := A8) (m := ((things l4).length)) (q := ((k : Nat) : Int)) (d := 64) (by kernel_rfl) (e := 26) (size := 5) (bytes := 88) (by kernel_rfl) hA542 rfl (by omega) fun a568 hE569 => ?_)
        clear hE537
        refine of_op (wpOp_load hE569 (t := 26) (b := b540) (o := o541 + k * 5) (d := 65) (by kernel_rfl) (cs := [.int .i64 n548, .slice A553 s549.length c554, .bool b550, .slice A555 l551.length c556, .slice A557 u552.length c558]) (v := .agg #[.int .i64 n548, .slice A553 s549.length c554, .bool b550, .slice A555 l551.length c556, .slice A557 u552.length c558]) (by kernel_rfl) (AtF.move hat544 hW532.step nilM keepF).at_ fun a570 hE571 => ?_)
        clear hE569
        refine of_op (wpOp_alloc hW532 hE571 (d := 12) (cs := [.int .i64 0, .slice none 0 0, .bool false, .slice none 0 0, .slice none 0 0]) (by kernel_rfl) fun b572 a573 w574 hb575 hz576 hF577 hW578 hE579 => ?_)
        clear hE571 hW532
        refine of_op (wpOp_store hW578 hE579 (oi := 5) (cs := [.int .i64 n548, .slice A553 s549.length c554, .bool b550, .slice A555 l551.length c556, .slice A557 u552.length c558]) (by kernel_rfl) fun w580 hF581 hW582 hE583 => ?_)
        clear hE579 hW578
        refine wpOps_nil ?_
        refine then_normal ?_
        refine go_drawK 9 (by kernel_rfl) hW582 fun w584 hF585 hW586 hT587 => ?_
        clear hW582
        refine go_rnD [0, 1, 2, 3, 4] [(1, .v (.int .i64 v)), (6, .p 2 0), (9, .p 3 0), (10, .p 4 0), (60, .v (.slice A8 ((things l4).length) c9)), (61, .v (.int .i64 (((things l4).length : Nat) : Int))), (62, .v (.int .i64 ((k : Nat) : Int))), (67, .v (.slice A_ k c_)), (68, .v (.agg #[.int .i64 y27, .int .i64 y22, .int .i64 y23, .int .i64 (-1), .int .i64 (-1), .int .i64 y26, .int .i64 y27, .slice A29 l28.length c30])), (69, .v (.int .i64 v)), (70, .v (.agg #[.int .i64 n548, .slice A553 s549.length c554, .bool b550, .slice A555 l551.length c556, .slice A557 u552.length c558]))] 5 (panicFree_block (panicFree_then (panicFree_then (panicFree_block (panicFree_then (panicFree_block (panicFree_then panicFree_body))))))) (fun _ h => h.cells) hT587 hE583 fun a588 hE589 => ?_
        clear hE583
        refine anyC_op (i := 5) (by kernel_rfl) (wpOp_call hE589 (f := 36) (vs := [.agg #[.int .i64 y27, .int .i64 y22, .int .i64 y23, .int .i64 (-1), .int .i64 (-1), .int .i64 y26, .int .i64 y27, .slice A29 l28.length c30], .int .i64 v, .agg #[.int .i64 n548, .slice A553 s549.length c554, .bool b550, .slice A555 l551.length c556, .slice A557 u552.length c558]]) (d := 71) (by kernel_rfl) Tryz.call36 ( sFitted0 hfit _ (Fld.mk y27 y22 y23 (-1) (-1) y26 y27 l28) v _ (Tree.mk n548 s549 b550 l551 u552) _ _ (FldR.mk (l := l28) xs31 (h33.move hW586.step nilM hW586.imm) (fun i_ x_ h_ => ((h34 i_ x_ h_).move hW586.step nilM hW586.imm))) hpl.2 hd hof (hr547.move hW586.step nilM hW586.imm)) ?_)
        rintro e_ w593 ⟨cs592, rfl, hr591, hs590⟩
        have hr594 := hr591.move (Step.refl _ Nil) nilM (hW586.laid (G := F) hs590)
        obtain ⟨n595, s596, b597, l598, u599, A600, c601, A602, c603, A604, c605, xs606, ht612, hcs607, h608, h609, h610, h611⟩ := hr594.open_
        rw [hcs607] at hr594
        have hsm613 := h608.small
        have hsm614 := h609.small
        rw [hcs607]
        refine ⟨_, rfl, fun a615 hE616 => ?_⟩
        have hW617 := hW586.next_nil hs590
        have hF618 := hW586.frN hs590
        clear hE589
        have hT619 := TT.ofW hF618 hW617
        refine ⟨fun _ => hT619, ?_⟩
        refine anyC_op (i := 6) (by kernel_rfl) (wpOp_lit hW617 hE616 (e := 26) (size := 5) (len := 1) (cs := [.int .i64 n595, .slice A600 s596.length c601, .bool b597, .slice A602 l598.length c603, .slice A604 u599.length c605]) (d := 72) (by kernel_rfl) (by kernel_rfl) fun b620 a621 w622 hb623 hz624 hF625 hW626 hE627 => ?_)
        clear hE616 hW617
        have hT628 := TT.ofW (Fr.trans hF618 hF625) hW626
        refine ⟨fun _ => hT628, ?_⟩
        refine anyC_op (i := 7) (by kernel_rfl) (wpOp_append hW626 hE627 (k := 0) (d := 73) (t := 23) (e := 26) (size := 5) (bytes := 88) (A := A_) (As := (some ⟨b620, 0, none⟩)) (m0 := k) (c := c_) (m := 1) (cs := 1) (xs := xs) (news := [.int .i64 n595, .slice A600 s596.length c601, .bool b597, .slice A602 l598.length c603, .slice A604 u599.length c605]) (by kernel_rfl) (by kernel_rfl) rfl (own_src (hW626.own 1 _ rfl) (allOne_ok (by kernel_rfl))) (own_cap (hW626.own 1 _ rfl)) (by omega) fun A629 c630 a631 w632 hF633 hW634 hE635 => ?_)
        clear hE627 hW626
        have hT636 := TT.ofW (Fr.trans (Fr.trans hF618 hF625) hF633) hW634
        refine ⟨fun _ => hT636, ?_⟩
        refine go_rnD [8] [(1, .v (.int .i64 v)), (6, .p 2 0), (9, .p 3 0), (10, .p 4 0), (60, .v (.slice A8 ((things l4).length) c9)), (61, .v (.int .i64 (((things l4).length : Nat) : Int))), (62, .v (.int .i64 ((k : Nat) : Int))), (73, .v (.slice A629 (k + 1) c630)), (74, .p 3 3)] 1 (panicFree_block (panicFree_then (panicFree_then (panicFree_block (panicFree_then (panicFree_block (panicFree_then panicFree_body))))))) (fun _ h => h.cells) hT636 hE635 fun a637 hE638 => ?_
        clear hE635
        refine anyC_op (i := 9) (by kernel_rfl) (wpOp_store hW634 hE638 (oi := 3) (cs := [.int .i64 0, .slice none 0 0, .bool false, .slice A629 (k + 1) c630, .slice none 0 0]) (by kernel_rfl) fun w639 hF640 hW641 hE642 => ?_)
        clear hE638 hW634
        refine ⟨fun h => absurd rfl h, ?_⟩
        refine anyC_done (by kernel_rfl) ?_ _
        refine block_normal ?_
        refine then_normal ?_
        refine go_region [0, 1] (by kernel_rfl) ?_
        refine go_rn [0, 1] [] [(1, .v (.int .i64 v)), (6, .p 2 0), (9, .p 3 0), (10, .p 4 0), (60, .v (.slice A8 ((things l4).length) c9)), (61, .v (.int .i64 (((things l4).length : Nat) : Int))), (62, .v (.int .i64 (IntKind.i64.wrap (((k : Nat) : Int) + 1))))] hW641 hE642 fun a643 hE644 => ?_
        clear hE642
        refine wpOps_nil ?_
        refine then_normal ?_
        obtain ⟨hE645, hW646, hF647⟩ := hW641.cutB hE644 5 [⟨b36, 0, [.int .i64 k21, .int .i64 y22, .int .i64 y23, .int .i64 y24, .int .i64 y25, .int .i64 y26, .int .i64 y27, .slice A29 l28.length c30], true⟩, ⟨b44, 0, [.int .i64 n1, .slice A6 s2.length c7, .bool b3, .slice A8 l4.length c9, .slice A10 u5.length c11], true⟩, ⟨b52, 0, [.int .i64 0, .slice none 0 0, .bool false, .slice none 0 0, .slice none 0 0], true⟩, ⟨b472, 0, [.int .i64 0, .slice none 0 0, .bool false, .slice A629 (k + 1) c630, .slice none 0 0], true⟩, ⟨b486, 0, [.int .i64 y27, .int .i64 y22, .int .i64 y23, .int .i64 (-1), .int .i64 (-1), .int .i64 y26, .int .i64 y27, .slice A29 l28.length c30], true⟩] [(1, .v (.int .i64 v)), (6, .p 2 0), (9, .p 3 0), (10, .p 4 0), (60, .v (.slice A8 ((things l4).length) c9)), (61, .v (.int .i64 (((things l4).length : Nat) : Int))), (62, .v (.int .i64 (IntKind.i64.wrap (((k : Nat) : Int) + 1))))]
        obtain ⟨hW648, hF649⟩ := hW646.cutR 1 [⟨A629, c630, 26, 5, k + 1, xs ++ [.int .i64 n595, .slice A600 s596.length c601, .bool b597, .slice A602 l598.length c603, .slice A604 u599.length c605]⟩]
        have he650 : IntKind.i64.wrap (((k : Nat) : Int) + 1) = ((k + 1 : Nat) : Int) := wrap_succ (by omega)
        rw [he650] at hE645
        exact ⟨(things l4).length - (k + 1), by omega, k + 1, A629, c630, xs ++ [Value.int .i64 n595, .slice A600 s596.length c601, .bool b597, .slice A602 l598.length c603, .slice A604 u599.length c605], (css ++ [[Value.int .i64 n595, .slice A600 s596.length c601, .bool b597, .slice A602 l598.length c603, .slice A604 u599.length c605]]), rfl, by omega, by rw [take_succ_of (fitL_get (p := fitT v d) (v := v) (f := (Fld.mk y27 y22 y23 (-1) (-1) y26 y27 l28)) he546)]; exact (hT.move (Fr.trans (Fr.trans (Fr.trans (Fr.trans (Fr.trans (Fr.trans (Fr.trans (Fr.trans hF577 hF581) hF585) hF618) hF625) hF633) hF640) hF647) hF649).step immM (Fr.trans (Fr.trans (Fr.trans (Fr.trans (Fr.trans (Fr.trans (Fr.trans (Fr.trans hF577 hF581) hF585) hF618) hF625) hF633) hF640) hF647) hF649).to').snoc (hr594.move (Fr.trans (Fr.trans (Fr.trans (Fr.trans hF625 hF633) hF640) hF647) hF649).step immM (Fr.trans (Fr.trans (Fr.trans (Fr.trans hF625 hF633) hF640) hF647) hF649).to'), hE645.pk, hW648, (Fr.trans (Fr.trans (Fr.trans (Fr.trans (Fr.trans (Fr.trans (Fr.trans (Fr.trans (Fr.trans hF535 hF577) hF581) hF585) hF618) hF625) hF633) hF640) hF647) hF649)⟩
      ·
        have hf651 := of_decide_eq_false hc538
        refine wp_exit ?_
        refine then_exit ?_
        refine then_exit ?_
        refine block_exit ?_
        refine then_normal ?_
        refine go_seq_region [0, 1] (by kernel_rfl) ?_
        refine go_rn [0] [1] [(6, .p 2 0), (76, .v (.agg #[.int .i64 0, .slice none 0 0, .bool false, .slice A_ k c_, .slice none 0 0]))] hW532 hE537 fun a652 hE653 => ?_
        clear hE537
        refine of_op (wpOp_store hW532 hE653 (oi := 2) (cs := [.int .i64 0, .slice none 0 0, .bool false, .slice A_ k c_, .slice none 0 0]) (by kernel_rfl) fun w654 hF655 hW656 hE657 => ?_)
        clear hE653 hW532
        refine wpOps_nil ?_
        refine then_normal ?_
        refine wp_ret ?_
        refine block_ret ?_
        refine then_ret ?_
        refine leave hE657 hW656.cells (v := .agg #[.int .i64 0, .slice none 0 0, .bool false, .slice A_ k c_, .slice none 0 0]) (by kernel_rfl) ?_
        have hk0 : k = (fitL (fitT v d) v (Fld.mk y27 y22 y23 (-1) (-1) y26 y27 l28) l4).length := by rw [fitL_len]; omega
        have hT' := (hT.move hF655.step immM hF655.to')
        rw [show (fitL (fitT v d) v (Fld.mk y27 y22 y23 (-1) (-1) y26 y27 l28) l4).take k = (fitL (fitT v d) v (Fld.mk y27 y22 y23 (-1) (-1) y26 y27 l28) l4) by rw [hk0, List.take_length]] at hT'
        exact tree_end hW656 rfl (Octs.nil _ _) hk0 (trees_fp hW656 (k := 0) rfl hT' hk0 (by rw [fitL_len]; omega)) rfl (TagsR.nil _ _) (fittedW_11 hk11 (by simp only [hc82, hc277]; try simp))

theorem sFitted {d : Nat} (hfit : FitOK d) (cf : List Value) (f : Fld) (v : Int) (ct : List Value) (t : Tree) (w : World) (F : Nat → Nat → Prop) (hf : FldR w F cf f) (hpl : f.plain) (hd : depths f.sub ≤ d) (ht : TreeR w F ct t) :
    Calls Tryz.prog 36 #[.agg cf.toArray, .int .i64 v, .agg ct.toArray] w (GivesT w F (fittedW (fitT v d) v f t)) := by
  by_cases h : f.kind = 11
  · exact sFitted11 hfit cf f v ct t w F hf hpl hd h ht
  · obtain ⟨k, x1, x2, x3, x4, x5, x6, l, A, c, xs, rfl, hcs, h1, h2⟩ := hf.open_
    rw [fittedW_no (k := k) h]
    exact sFitted0 hfit cf _ v ct t w F hf hpl.2 hd h ht

theorem sFit (W : Fld → Tree → Tree) (A : Option Addr) (c : Nat) (l : List Fld) (v : Int) (ct : List Value) (t : Tree) (w : World) (F : Nat → Nat → Prop) (hW_ : ∀ cf f ct t w F, f ∈ l → FldR w F cf f → TreeR w F ct t → Calls Tryz.prog 36 #[.agg cf.toArray, .int .i64 v, .agg ct.toArray] w (GivesT w F (W f t))) (hl : FldsR w F A c l) (ht : TreeR w F ct t) :
    Calls Tryz.prog 15 #[.slice A l.length c, .int .i64 v, .agg ct.toArray] w (GivesT w F (fitW W l t)) := by
  obtain ⟨xfs, h1, h2⟩ := hl.ex
  have hsm := h1.small
  obtain ⟨n1, s2, b3, l4, u5, A6, c7, A8, c9, A10, c11, xs12, rfl, rfl, h14, h15, h16, h17⟩ := ht.open_
  have hsm19 := h14.small
  have hsm20 := h15.small
  refine enter (n := 54) Tryz.func15 rfl Tryz.ntmps15 (by kernel_rfl) fun a hE => ?_
  have hW := WOk.start w Nil
  refine go_seq_region [0, 1] (by kernel_rfl) ?_
  refine of_op (wpOp_box hW hE (d := 5) (cs := [.int .i64 n1, .slice A6 s2.length c7, .bool b3, .slice A8 l4.length c9, .slice A10 u5.length c11]) (by kernel_rfl) fun b21 a22 w23 hb24 hz25 hF26 hW27 hE28 => ?_)
  clear hE hW
  refine of_op (wpOp_alloc hW27 hE28 (d := 6) (cs := [.int .i64 0, .slice none 0 0, .bool false, .slice none 0 0, .slice none 0 0]) (by kernel_rfl) fun b29 a30 w31 hb32 hz33 hF34 hW35 hE36 => ?_)
  clear hE28 hW27
  refine wpOps_nil ?_
  refine then_normal ?_
  refine go_seq_region [0, 1, 2] (by kernel_rfl) ?_
  refine go_rn [0] [1, 2] [(0, .v (.slice A l.length c)), (1, .v (.int .i64 v)), (5, .p 0 0), (6, .p 1 0), (12, .v (.agg #[.int .i64 0, .slice none 0 0, .bool false, .slice none 0 0, .slice none 0 0]))] hW35 hE36 fun a37 hE38 => ?_
  clear hE36
  refine of_op (wpOp_alloc hW35 hE38 (d := 7) (cs := [.int .i64 0, .slice none 0 0, .bool false, .slice none 0 0, .slice none 0 0]) (by kernel_rfl) fun b39 a40 w41 hb42 hz43 hF44 hW45 hE46 => ?_)
  clear hE38 hW35
  refine of_op (wpOp_store hW45 hE46 (oi := 2) (cs := [.int .i64 0, .slice none 0 0, .bool false, .slice none 0 0, .slice none 0 0]) (by kernel_rfl) fun w47 hF48 hW49 hE50 => ?_)
  clear hE46 hW45
  refine wpOps_nil ?_
  refine then_normal ?_
  refine wp_seq ?_
  refine go_sp [(0, .v (.slice A l.length c)), (1, .v (.int .i64 v)), (5, .p 0 0), (6, .p 1 0), (7, .p 2 0), (13, .v (.slice A l.length c)), (14, .v (.int .i64 ((l.length : Nat) : Int))), (15, .v (.int .i64 0))] hW49 hE50 fun a51 hE52 => ?_
  clear hE50
  refine wp_block ?_
  have hW53 := hW49.addNil 26 5
  have hF54 := hW49.frNil 26 5
  clear hW49
  refine wp_loop_ghost (fun n_ a_ w_ => ∃ (k : Nat) (A_ : Option Addr) (c_ : Nat) (xs : List Value) (css : List (List Value)), n_ = l.length - k ∧ k ≤ l.length ∧ (Trees w_ (Imm F w w_ [⟨b21, 0, [.int .i64 n1, .slice A6 s2.length c7, .bool b3, .slice A8 l4.length c9, .slice A10 u5.length c11], true⟩, ⟨b29, 0, [.int .i64 0, .slice none 0 0, .bool false, .slice none 0 0, .slice none 0 0], true⟩, ⟨b39, 0, [.int .i64 0, .slice none 0 0, .bool false, .slice A_ k c_, .slice none 0 0], true⟩] [⟨A_, c_, 26, 5, k, xs⟩]) xs ((fitsW W l (Tree.mk n1 s2 b3 l4 u5) 0).take k) css) ∧ LInv hW53 54 [⟨b21, 0, [.int .i64 n1, .slice A6 s2.length c7, .bool b3, .slice A8 l4.length c9, .slice A10 u5.length c11], true⟩, ⟨b29, 0, [.int .i64 0, .slice none 0 0, .bool false, .slice none 0 0, .slice none 0 0], true⟩, ⟨b39, 0, [.int .i64 0, .slice none 0 0, .bool false, .slice A_ k c_, .slice none 0 0], true⟩] [⟨A_, c_, 26, 5, k, xs⟩] [(0, .v (.slice A l.length c)), (1, .v (.int .i64 v)), (5, .p 0 0), (6, .p 1 0), (7, .p 2 0), (13, .v (.slice A l.length c)), (14, .v (.int .i64 ((l.length : Nat) : Int))), (15, .v (.int .i64 ((k : Nat) : Int)))] a_ w_) (l.length) ⟨0, none, 0, [], [], by omega, by omega, Trees.nil _ _, hE52.pk, hW53, Fr.refl _ _ _⟩ ?_
  clear hE52
  rintro n55 a56 w57 ⟨k, A_, c_, xs, css, hn60, hk61, hT, hE58, hW59, hF62⟩
  refine go_sp [(0, .v (.slice A l.length c)), (1, .v (.int .i64 v)), (5, .p 0 0), (6, .p 1 0), (7, .p 2 0), (13, .v (.slice A l.length c)), (14, .v (.int .i64 ((l.length : Nat) : Int))), (15, .v (.int .i64 ((k : Nat) : Int))), (16, .v (.bool (decide (((k : Nat) : Int) < ((l.length : Nat) : Int)))))] hW59 hE58 fun a63 hE64 => ?_
  clear hE58
  refine wp_seq ?_
  refine cond_of hE64 (b := decide (((k : Nat) : Int) < ((l.length : Nat) : Int))) (by kernel_rfl) (fun hc65 => ?_) (fun hc65 => ?_)
  ·
    have hf66 := of_decide_eq_true hc65
    refine wp_skip ?_
    refine then_normal ?_
    refine wp_seq ?_
    refine wp_block ?_
    refine go_seq_region [0, 1, 2, 3, 4, 5] (by kernel_rfl) ?_
    refine go_rn [0] [1, 2, 3, 4, 5] [(0, .v (.slice A l.length c)), (1, .v (.int .i64 v)), (5, .p 0 0), (6, .p 1 0), (7, .p 2 0), (13, .v (.slice A l.length c)), (14, .v (.int .i64 ((l.length : Nat) : Int))), (15, .v (.int .i64 ((k : Nat) : Int))), (17, .v (.int .i64 ((k : Nat) : Int)))] hW59 hE64 fun a67 hE68 => ?_
    clear hE64
    obtain ⟨b69, o70, hA71, hl72, hat73⟩ := Slots.get h1 (i := k) (by omega)
    obtain ⟨x74, he75⟩ : ∃ x, l[k]? = some x := ⟨_, List.getElem?_eq_getElem (by omega)⟩
    have hr76 := h2 k x74 he75
    obtain ⟨k77, y78, y79, y80, y81, y82, y83, l84, A85, c86, xs87, rfl, hcs88, h89, h90⟩ := hr76.open_
    rw [hcs88] at hr76
    have hsm91 := h89.small
    rw [hcs88] at hat73
    refine of_op (wpOp_index hE68 (t := 29) (A := A) (m := l.length) (q := ((k : Nat) : Int)) (d := 18) (by kernel_rfl) (e := 51) (size := 8) (bytes := 80) (by kernel_rfl) hA71 rfl (by omega) fun a92 hE93 => ?_)
    clear hE68
    refine of_op (wpOp_load hE93 (t := 51) (b := b69) (o := o70 + k * 8) (d := 19) (by kernel_rfl) (cs := [.int .i64 k77, .int .i64 y78, .int .i64 y79, .int .i64 y80, .int .i64 y81, .int .i64 y82, .int .i64 y83, .slice A85 l84.length c86]) (v := .agg #[.int .i64 k77, .int .i64 y78, .int .i64 y79, .int .i64 y80, .int .i64 y81, .int .i64 y82, .int .i64 y83, .slice A85 l84.length c86]) (by kernel_rfl) (AtF.move hat73 hW59.step nilM keepF).at_ fun a94 hE95 => ?_)
    clear hE93
    refine of_op (wpOp_alloc hW59 hE95 (d := 9) (cs := [.int .i64 0, .int .i64 0, .int .i64 0, .int .i64 0, .int .i64 0, .int .i64 0, .int .i64 0, .slice none 0 0]) (by kernel_rfl) fun b96 a97 w98 hb99 hz100 hF101 hW102 hE103 => ?_)
    clear hE95 hW59
    refine go_rn [4] [5] [(0, .v (.slice A l.length c)), (1, .v (.int .i64 v)), (5, .p 0 0), (6, .p 1 0), (7, .p 2 0), (8, .v (.int .i64 ((k : Nat) : Int))), (9, .p 3 0), (13, .v (.slice A l.length c)), (14, .v (.int .i64 ((l.length : Nat) : Int))), (15, .v (.int .i64 ((k : Nat) : Int))), (19, .v (.agg #[.int .i64 k77, .int .i64 y78, .int .i64 y79, .int .i64 y80, .int .i64 y81, .int .i64 y82, .int .i64 y83, .slice A85 l84.length c86]))] hW102 hE103 fun a104 hE105 => ?_
    clear hE103
    refine of_op (wpOp_store hW102 hE105 (oi := 3) (cs := [.int .i64 k77, .int .i64 y78, .int .i64 y79, .int .i64 y80, .int .i64 y81, .int .i64 y82, .int .i64 y83, .slice A85 l84.length c86]) (by kernel_rfl) fun w106 hF107 hW108 hE109 => ?_)
    clear hE105 hW102
    refine wpOps_nil ?_
    refine then_normal ?_
    refine go_drawK 11 (by kernel_rfl) hW108 fun w110 hF111 hW112 hT113 => ?_
    clear hW108
    refine go_rnD [0, 1, 2, 3, 4, 5] [(0, .v (.slice A l.length c)), (1, .v (.int .i64 v)), (5, .p 0 0), (6, .p 1 0), (7, .p 2 0), (13, .v (.slice A l.length c)), (14, .v (.int .i64 ((l.length : Nat) : Int))), (15, .v (.int .i64 ((k : Nat) : Int))), (21, .v (.slice A_ k c_)), (22, .v (.agg #[.int .i64 k77, .int .i64 y78, .int .i64 y79, .int .i64 y80, .int .i64 y81, .int .i64 y82, .int .i64 y83, .slice A85 l84.length c86])), (23, .v (.int .i64 v)), (24, .v (.agg #[.int .i64 n1, .slice A6 s2.length c7, .bool b3, .slice A8 l4.length c9, .slice A10 u5.length c11])), (25, .v (.int .i64 ((k : Nat) : Int)))] 6 (panicFree_block (panicFree_then (panicFree_then (panicFree_block (panicFree_then panicFree_body))))) (fun _ h => h.cells) hT113 hE109 fun a114 hE115 => ?_
    clear hE109
    refine anyC_op (i := 6) (by kernel_rfl) (wpOp_call hE115 (f := 37) (vs := [.agg #[.int .i64 n1, .slice A6 s2.length c7, .bool b3, .slice A8 l4.length c9, .slice A10 u5.length c11], .int .i64 ((k : Nat) : Int)]) (d := 26) (by kernel_rfl) Tryz.call37 (sAt _ _ k _ _ (ht.move hW112.step nilM hW112.imm)) ?_)
    rintro e_ w119 ⟨cs118, rfl, hr117, hs116⟩
    have hr120 := hr117.move hs116 nilM (fun b o h_ hb_ => hW112.laid (G := F) hs116 b o (.inl h_) (Nat.lt_of_lt_of_le hb_ hs116.size))
    obtain ⟨n121, s122, b123, l124, u125, A126, c127, A128, c129, A130, c131, xs132, ht138, hcs133, h134, h135, h136, h137⟩ := hr120.open_
    rw [hcs133] at hr120
    have hsm139 := h134.small
    have hsm140 := h135.small
    rw [hcs133]
    refine ⟨_, rfl, fun a141 hE142 => ?_⟩
    have hW143 := hW112.next_nil hs116
    have hF144 := hW112.frN hs116
    clear hE115
    have hT145 := TT.ofW hF144 hW143
    refine ⟨fun _ => hT145, ?_⟩
    refine anyC_op (i := 7) (by kernel_rfl) (wpOp_call hE142 (f := 36) (vs := [.agg #[.int .i64 k77, .int .i64 y78, .int .i64 y79, .int .i64 y80, .int .i64 y81, .int .i64 y82, .int .i64 y83, .slice A85 l84.length c86], .int .i64 v, .agg #[.int .i64 n121, .slice A126 s122.length c127, .bool b123, .slice A128 l124.length c129, .slice A130 u125.length c131]]) (d := 27) (by kernel_rfl) Tryz.call36 ( hW_ _ _ _ _ _ _ (List.mem_of_getElem? he75) (hr76.move hW143.step nilM hW143.imm) hr120) ?_)
    rintro e_ w149 ⟨cs148, rfl, hr147, hs146⟩
    have hr150 := hr147.move (Step.refl _ Nil) nilM (hW143.laid (G := F) hs146)
    obtain ⟨n151, s152, b153, l154, u155, A156, c157, A158, c159, A160, c161, xs162, ht168, hcs163, h164, h165, h166, h167⟩ := hr150.open_
    rw [hcs163] at hr150
    have hsm169 := h164.small
    have hsm170 := h165.small
    rw [hcs163]
    refine ⟨_, rfl, fun a171 hE172 => ?_⟩
    have hW173 := hW143.next_nil hs146
    have hF174 := hW143.frN hs146
    clear hE142
    have hT175 := TT.ofW (Fr.trans hF144 hF174) hW173
    refine ⟨fun _ => hT175, ?_⟩
    refine anyC_op (i := 8) (by kernel_rfl) (wpOp_lit hW173 hE172 (e := 26) (size := 5) (len := 1) (cs := [.int .i64 n151, .slice A156 s152.length c157, .bool b153, .slice A158 l154.length c159, .slice A160 u155.length c161]) (d := 28) (by kernel_rfl) (by kernel_rfl) fun b176 a177 w178 hb179 hz180 hF181 hW182 hE183 => ?_)
    clear hE172 hW173
    have hT184 := TT.ofW (Fr.trans (Fr.trans hF144 hF174) hF181) hW182
    refine ⟨fun _ => hT184, ?_⟩
    refine anyC_op (i := 9) (by kernel_rfl) (wpOp_append hW182 hE183 (k := 0) (d := 29) (t := 23) (e := 26) (size := 5) (bytes := 88) (A := A_) (As := (some ⟨b176, 0, none⟩)) (m0 := k) (c := c_) (m := 1) (cs := 1) (xs := xs) (news := [.int .i64 n151, .slice A156 s152.length c157, .bool b153, .slice A158 l154.length c159, .slice A160 u155.length c161]) (by kernel_rfl) (by kernel_rfl) rfl (own_src (hW182.own 1 _ rfl) (allOne_ok (by kernel_rfl))) (own_cap (hW182.own 1 _ rfl)) (by omega) fun A185 c186 a187 w188 hF189 hW190 hE191 => ?_)
    clear hE183 hW182
    have hT192 := TT.ofW (Fr.trans (Fr.trans (Fr.trans hF144 hF174) hF181) hF189) hW190
    refine ⟨fun _ => hT192, ?_⟩
    refine go_rnD [10] [(0, .v (.slice A l.length c)), (1, .v (.int .i64 v)), (5, .p 0 0), (6, .p 1 0), (7, .p 2 0), (13, .v (.slice A l.length c)), (14, .v (.int .i64 ((l.length : Nat) : Int))), (15, .v (.int .i64 ((k : Nat) : Int))), (29, .v (.slice A185 (k + 1) c186)), (30, .p 2 3)] 1 (panicFree_block (panicFree_then (panicFree_then (panicFree_block (panicFree_then panicFree_body))))) (fun _ h => h.cells) hT192 hE191 fun a193 hE194 => ?_
    clear hE191
    refine anyC_op (i := 11) (by kernel_rfl) (wpOp_store hW190 hE194 (oi := 2) (cs := [.int .i64 0, .slice none 0 0, .bool false, .slice A185 (k + 1) c186, .slice none 0 0]) (by kernel_rfl) fun w195 hF196 hW197 hE198 => ?_)
    clear hE194 hW190
    refine ⟨fun h => absurd rfl h, ?_⟩
    refine anyC_done (by kernel_rfl) ?_ _
    refine block_normal ?_
    refine then_normal ?_
    refine go_region [0, 1] (by kernel_rfl) ?_
    refine go_rn [0, 1] [] [(0, .v (.slice A l.length c)), (1, .v (.int .i64 v)), (5, .p 0 0), (6, .p 1 0), (7, .p 2 0), (13, .v (.slice A l.length c)), (14, .v (.int .i64 ((l.length : Nat) : Int))), (15, .v (.int .i64 (IntKind.i64.wrap (((k : Nat) : Int) + 1))))] hW197 hE198 fun a199 hE200 => ?_
    clear hE198
    refine wpOps_nil ?_
    refine then_normal ?_
    obtain ⟨hE201, hW202, hF203⟩ := hW197.cutB hE200 3 [⟨b21, 0, [.int .i64 n1, .slice A6 s2.length c7, .bool b3, .slice A8 l4.length c9, .slice A10 u5.length c11], true⟩, ⟨b29, 0, [.int .i64 0, .slice none 0 0, .bool false, .slice none 0 0, .slice none 0 0], true⟩, ⟨b39, 0, [.int .i64 0, .slice none 0 0, .bool false, .slice A185 (k + 1) c186, .slice none 0 0], true⟩] [(0, .v (.slice A l.length c)), (1, .v (.int .i64 v)), (5, .p 0 0), (6, .p 1 0), (7, .p 2 0), (13, .v (.slice A l.length c)), (14, .v (.int .i64 ((l.length : Nat) : Int))), (15, .v (.int .i64 (IntKind.i64.wrap (((k : Nat) : Int) + 1))))]
    obtain ⟨hW204, hF205⟩ := hW202.cutR 1 [⟨A185, c186, 26, 5, k + 1, xs ++ [.int .i64 n151, .slice A156 s152.length c157, .bool b153, .slice A158 l154.length c159, .slice A160 u155.length c161]⟩]
    have he206 : IntKind.i64.wrap (((k : Nat) : Int) + 1) = ((k + 1 : Nat) : Int) := wrap_succ (by omega)
    rw [he206] at hE201
    exact ⟨l.length - (k + 1), by omega, k + 1, A185, c186, xs ++ [Value.int .i64 n151, .slice A156 s152.length c157, .bool b153, .slice A158 l154.length c159, .slice A160 u155.length c161], (css ++ [[Value.int .i64 n151, .slice A156 s152.length c157, .bool b153, .slice A158 l154.length c159, .slice A160 u155.length c161]]), rfl, by omega, by rw [take_succ_of (fits_get he75)]; exact (hT.move (Fr.trans (Fr.trans (Fr.trans (Fr.trans (Fr.trans (Fr.trans (Fr.trans (Fr.trans (Fr.trans hF101 hF107) hF111) hF144) hF174) hF181) hF189) hF196) hF203) hF205).step immM (Fr.trans (Fr.trans (Fr.trans (Fr.trans (Fr.trans (Fr.trans (Fr.trans (Fr.trans (Fr.trans hF101 hF107) hF111) hF144) hF174) hF181) hF189) hF196) hF203) hF205).to').snoc (hr150.move (Fr.trans (Fr.trans (Fr.trans (Fr.trans hF181 hF189) hF196) hF203) hF205).step immM (Fr.trans (Fr.trans (Fr.trans (Fr.trans hF181 hF189) hF196) hF203) hF205).to'), hE201.pk, hW204, (Fr.trans (Fr.trans (Fr.trans (Fr.trans (Fr.trans (Fr.trans (Fr.trans (Fr.trans (Fr.trans (Fr.trans hF62 hF101) hF107) hF111) hF144) hF174) hF181) hF189) hF196) hF203) hF205)⟩
  ·
    have hf207 := of_decide_eq_false hc65
    refine wp_exit ?_
    refine then_exit ?_
    refine then_exit ?_
    refine block_exit ?_
    refine then_normal ?_
    refine wp_seq ?_
    refine go_seq_region [0, 1, 2, 3, 4, 5] (by kernel_rfl) ?_
    refine go_rn [0, 1, 2] [3, 4, 5] [(6, .p 1 0), (7, .p 2 0), (32, .v (.slice A l.length c)), (34, .v (.slice A10 u5.length c11))] hW59 hE64 fun a208 hE209 => ?_
    clear hE64
    refine of_op (wpOp_call hE209 (f := 38) (vs := [.slice A l.length c, .slice A10 u5.length c11]) (d := 35) (by kernel_rfl) Tryz.call38 (sUnknown _ _ l _ _ u5 _ _ ⟨xfs, (h1.move hW59.step nilM hW59.imm), (fun i_ x_ h_ => ((h2 i_ x_ h_).move hW59.step nilM hW59.imm))⟩ (h17.move hW59.step nilM hW59.imm)) ?_)
    rintro e_ w214 ⟨A212, c213, rfl, hr211, hs210⟩
    have hr215 := hr211.move (Step.refl _ Nil) nilM (hW59.laid (G := F) hs210)
    refine ⟨_, rfl, fun a216 hE217 => ?_⟩
    have hW218 := hW59.next_nil hs210
    have hF219 := hW59.frN hs210
    clear hE209
    refine go_rn [4, 5] [] [(6, .p 1 0), (7, .p 2 0), (35, .v (.slice A212 ((unknownT l u5).length) c213)), (36, .v (.int .i64 (((unknownT l u5).length : Nat) : Int))), (37, .v (.int .i64 0))] hW218 hE217 fun a220 hE221 => ?_
    clear hE217
    refine wpOps_nil ?_
    refine then_normal ?_
    refine wp_block ?_
    obtain ⟨cs222, h223, h224⟩ := hr215.ex
    have hsm225 := h223.small
    have hk0 : k = (fitsW W l (Tree.mk n1 s2 b3 l4 u5) 0).length := by rw [fits_len]; omega
    have hW226 := hW218.addNil 63 2
    have hF227 := hW218.frNil 63 2
    clear hW218
    refine wp_loop_ghost (fun n_ a_ w_ => ∃ (q : Nat) (A5_ : Option Addr) (c5_ : Nat) (ys : List Value) (dss : List (List Value)), n_ = (unknownT l u5).length - q ∧ q ≤ (unknownT l u5).length ∧ (Tags w_ (Imm F w w_ [⟨b21, 0, [.int .i64 n1, .slice A6 s2.length c7, .bool b3, .slice A8 l4.length c9, .slice A10 u5.length c11], true⟩, ⟨b29, 0, [.int .i64 0, .slice none 0 0, .bool false, .slice none 0 0, .slice none 0 0], true⟩, ⟨b39, 0, [.int .i64 0, .slice none 0 0, .bool false, .slice A_ k c_, .slice A5_ q c5_], true⟩] [⟨A_, c_, 26, 5, k, xs⟩, ⟨A5_, c5_, 63, 2, q, ys⟩]) ys ((wholeU (unknownT l u5)).take q) dss) ∧ LInv hW226 54 [⟨b21, 0, [.int .i64 n1, .slice A6 s2.length c7, .bool b3, .slice A8 l4.length c9, .slice A10 u5.length c11], true⟩, ⟨b29, 0, [.int .i64 0, .slice none 0 0, .bool false, .slice none 0 0, .slice none 0 0], true⟩, ⟨b39, 0, [.int .i64 0, .slice none 0 0, .bool false, .slice A_ k c_, .slice A5_ q c5_], true⟩] [⟨A_, c_, 26, 5, k, xs⟩, ⟨A5_, c5_, 63, 2, q, ys⟩] [(6, .p 1 0), (7, .p 2 0), (35, .v (.slice A212 ((unknownT l u5).length) c213)), (36, .v (.int .i64 (((unknownT l u5).length : Nat) : Int))), (37, .v (.int .i64 ((q : Nat) : Int)))] a_ w_) ((unknownT l u5).length) ⟨0, none, 0, [], [], by omega, by omega, Tags.nil _ _, hE221.pk, hW226, Fr.refl _ _ _⟩ ?_
    clear hE221
    rintro n228 a229 w230 ⟨q, A5_, c5_, ys, dss, hn233, hk234, hU, hE231, hW232, hF235⟩
    refine go_sp [(6, .p 1 0), (7, .p 2 0), (35, .v (.slice A212 ((unknownT l u5).length) c213)), (36, .v (.int .i64 (((unknownT l u5).length : Nat) : Int))), (37, .v (.int .i64 ((q : Nat) : Int))), (38, .v (.bool (decide (((q : Nat) : Int) < (((unknownT l u5).length : Nat) : Int)))))] hW232 hE231 fun a236 hE237 => ?_
    clear hE231
    refine wp_seq ?_
    refine cond_of hE237 (b := decide (((q : Nat) : Int) < (((unknownT l u5).length : Nat) : Int))) (by kernel_rfl) (fun hc238 => ?_) (fun hc238 => ?_)
    ·
      have hf239 := of_decide_eq_true hc238
      refine wp_skip ?_
      refine then_normal ?_
      refine wp_seq ?_
      refine wp_block ?_
      refine go_seq_region [0, 1, 2, 3] (by kernel_rfl) ?_
      obtain ⟨b240, o241, hA242, hl243, hat244⟩ := Slots.get h223 (i := q) (by omega)
      obtain ⟨⟨k245, s246⟩, he247⟩ : ∃ x, (unknownT l u5)[q]? = some x := ⟨_, List.getElem?_eq_getElem (by omega)⟩
      obtain ⟨⟨A248, c249, hcs250, hb251⟩, h252, h253⟩ := h224 q k245 s246 he247
      rw [hcs250] at hat244
      refine of_op (wpOp_index hE237 (t := 24) (A := A212) (m := ((unknownT l u5).length)) (q := ((q : Nat) : Int)) (d := 39) (by kernel_rfl) (e := 63) (size := 2) (bytes := 32) (by kernel_rfl) hA242 rfl (by omega) fun a254 hE255 => ?_)
      clear hE237
      refine of_op (wpOp_load hE255 (t := 63) (b := b240) (o := o241 + q * 2) (d := 40) (by kernel_rfl) (cs := [.int .u32 k245, .slice A248 s246.length c249]) (v := .agg #[.int .u32 k245, .slice A248 s246.length c249]) (by kernel_rfl) (AtF.move hat244 (Fr.trans hF227 hF235).step immM (Fr.trans hF227 hF235).to').at_ fun a256 hE257 => ?_)
      clear hE255
      refine of_op (wpOp_alloc hW232 hE257 (d := 11) (cs := [.int .u32 0, .slice none 0 0]) (by kernel_rfl) fun b258 a259 w260 hb261 hz262 hF263 hW264 hE265 => ?_)
      clear hE257 hW232
      refine of_op (wpOp_store hW264 hE265 (oi := 3) (cs := [.int .u32 k245, .slice A248 s246.length c249]) (by kernel_rfl) fun w266 hF267 hW268 hE269 => ?_)
      clear hE265 hW264
      refine wpOps_nil ?_
      refine then_normal ?_
      refine go_drawK 11 (by kernel_rfl) hW268 fun w270 hF271 hW272 hT273 => ?_
      clear hW268
      refine go_rnD [0, 1, 2, 3, 4, 5] [(6, .p 1 0), (7, .p 2 0), (35, .v (.slice A212 ((unknownT l u5).length) c213)), (36, .v (.int .i64 (((unknownT l u5).length : Nat) : Int))), (37, .v (.int .i64 ((q : Nat) : Int))), (42, .v (.slice A5_ q c5_)), (44, .v (.int .u32 k245)), (46, .v (.slice A248 s246.length c249))] 6 (panicFree_block (panicFree_then (panicFree_then (panicFree_block (panicFree_then panicFree_body))))) (fun _ h => h.cells) hT273 hE269 fun a274 hE275 => ?_
      clear hE269
      have hwl277 := whole_le s246
      refine anyC_op (i := 6) (by kernel_rfl) (wpOp_call hE275 (f := 39) (vs := [.slice A248 s246.length c249]) (d := 47) (by kernel_rfl) Tryz.call39 (sWhole _ _ s246 (hb251.move (Fr.trans (Fr.trans (Fr.trans (Fr.trans hF227 hF235) hF263) hF267) hF271).step immM (Fr.trans (Fr.trans (Fr.trans (Fr.trans hF227 hF235) hF263) hF267) hF271).to').le _) ?_)
      rintro e_ w278 ⟨rfl, hs276⟩
      refine ⟨_, rfl, fun a279 hE280 => ?_⟩
      have hW281 := hW272.next_nil hs276
      have hF282 := hW272.frN hs276
      clear hE275
      have hT283 := TT.ofW hF282 hW281
      refine ⟨fun _ => hT283, ?_⟩
      refine go_rnD [7] [(6, .p 1 0), (7, .p 2 0), (35, .v (.slice A212 ((unknownT l u5).length) c213)), (36, .v (.int .i64 (((unknownT l u5).length : Nat) : Int))), (37, .v (.int .i64 ((q : Nat) : Int))), (42, .v (.slice A5_ q c5_)), (48, .v (.agg #[.int .u32 k245, .slice A248 ((whole s246).length) c249]))] 4 (panicFree_block (panicFree_then (panicFree_then (panicFree_block (panicFree_then panicFree_body))))) (fun _ h => h.cells) hT283 hE280 fun a284 hE285 => ?_
      clear hE280
      refine anyC_op (i := 8) (by kernel_rfl) (wpOp_lit hW281 hE285 (e := 63) (size := 2) (len := 1) (cs := [.int .u32 k245, .slice A248 ((whole s246).length) c249]) (d := 49) (by kernel_rfl) (by kernel_rfl) fun b286 a287 w288 hb289 hz290 hF291 hW292 hE293 => ?_)
      clear hE285 hW281
      have hT294 := TT.ofW (Fr.trans hF282 hF291) hW292
      refine ⟨fun _ => hT294, ?_⟩
      refine anyC_op (i := 9) (by kernel_rfl) (wpOp_append hW292 hE293 (k := 1) (d := 50) (t := 24) (e := 63) (size := 2) (bytes := 32) (A := A5_) (As := (some ⟨b286, 0, none⟩)) (m0 := q) (c := c5_) (m := 1) (cs := 1) (xs := ys) (news := [.int .u32 k245, .slice A248 ((whole s246).length) c249]) (by kernel_rfl) (by kernel_rfl) rfl (own_src (hW292.own 2 _ rfl) (allOne_ok (by kernel_rfl))) (own_cap (hW292.own 2 _ rfl)) (by omega) fun A295 c296 a297 w298 hF299 hW300 hE301 => ?_)
      clear hE293 hW292
      have hT302 := TT.ofW (Fr.trans (Fr.trans hF282 hF291) hF299) hW300
      refine ⟨fun _ => hT302, ?_⟩
      refine go_rnD [10] [(6, .p 1 0), (7, .p 2 0), (35, .v (.slice A212 ((unknownT l u5).length) c213)), (36, .v (.int .i64 (((unknownT l u5).length : Nat) : Int))), (37, .v (.int .i64 ((q : Nat) : Int))), (50, .v (.slice A295 (q + 1) c296)), (51, .p 2 4)] 1 (panicFree_block (panicFree_then (panicFree_then (panicFree_block (panicFree_then panicFree_body))))) (fun _ h => h.cells) hT302 hE301 fun a303 hE304 => ?_
      clear hE301
      refine anyC_op (i := 11) (by kernel_rfl) (wpOp_store hW300 hE304 (oi := 2) (cs := [.int .i64 0, .slice none 0 0, .bool false, .slice A_ k c_, .slice A295 (q + 1) c296]) (by kernel_rfl) fun w305 hF306 hW307 hE308 => ?_)
      clear hE304 hW300
      refine ⟨fun h => absurd rfl h, ?_⟩
      refine anyC_done (by kernel_rfl) ?_ _
      refine block_normal ?_
      refine then_normal ?_
      refine go_region [0, 1] (by kernel_rfl) ?_
      refine go_rn [0, 1] [] [(6, .p 1 0), (7, .p 2 0), (35, .v (.slice A212 ((unknownT l u5).length) c213)), (36, .v (.int .i64 (((unknownT l u5).length : Nat) : Int))), (37, .v (.int .i64 (IntKind.i64.wrap (((q : Nat) : Int) + 1))))] hW307 hE308 fun a309 hE310 => ?_
      clear hE308
      refine wpOps_nil ?_
      refine then_normal ?_
      obtain ⟨hE311, hW312, hF313⟩ := hW307.cutB hE310 3 [⟨b21, 0, [.int .i64 n1, .slice A6 s2.length c7, .bool b3, .slice A8 l4.length c9, .slice A10 u5.length c11], true⟩, ⟨b29, 0, [.int .i64 0, .slice none 0 0, .bool false, .slice none 0 0, .slice none 0 0], true⟩, ⟨b39, 0, [.int .i64 0, .slice none 0 0, .bool false, .slice A_ k c_, .slice A295 (q + 1) c296], true⟩] [(6, .p 1 0), (7, .p 2 0), (35, .v (.slice A212 ((unknownT l u5).length) c213)), (36, .v (.int .i64 (((unknownT l u5).length : Nat) : Int))), (37, .v (.int .i64 (IntKind.i64.wrap (((q : Nat) : Int) + 1))))]
      obtain ⟨hW314, hF315⟩ := hW312.cutR 2 [⟨A_, c_, 26, 5, k, xs⟩, ⟨A295, c296, 63, 2, q + 1, ys ++ [.int .u32 k245, .slice A248 ((whole s246).length) c249]⟩]
      have he316 : IntKind.i64.wrap (((q : Nat) : Int) + 1) = ((q + 1 : Nat) : Int) := wrap_succ (by omega)
      rw [he316] at hE311
      exact ⟨(unknownT l u5).length - (q + 1), by omega, q + 1, A295, c296, ys ++ [Value.int .u32 k245, .slice A248 ((whole s246).length) c249], (dss ++ [[Value.int .u32 k245, .slice A248 ((whole s246).length) c249]]), rfl, by omega, by rw [take_succ_of (wholeU_get he247)]; exact (hU.move (Fr.trans (Fr.trans (Fr.trans (Fr.trans (Fr.trans (Fr.trans (Fr.trans (Fr.trans hF263 hF267) hF271) hF282) hF291) hF299) hF306) hF313) hF315).step immM (Fr.trans (Fr.trans (Fr.trans (Fr.trans (Fr.trans (Fr.trans (Fr.trans (Fr.trans hF263 hF267) hF271) hF282) hF291) hF299) hF306) hF313) hF315).to').snoc (c := [.int .u32 k245, .slice A248 ((whole s246).length) c249]) (x := (k245, whole s246)) ⟨⟨_, _, rfl, ((hb251.move (Fr.trans (Fr.trans (Fr.trans (Fr.trans (Fr.trans (Fr.trans (Fr.trans (Fr.trans (Fr.trans (Fr.trans hF227 hF235) hF263) hF267) hF271) hF282) hF291) hF299) hF306) hF313) hF315).step immM (Fr.trans (Fr.trans (Fr.trans (Fr.trans (Fr.trans (Fr.trans (Fr.trans (Fr.trans (Fr.trans (Fr.trans hF227 hF235) hF263) hF267) hF271) hF282) hF291) hF299) hF306) hF313) hF315).to').take 32767)⟩, h252, h253⟩, hE311.pk, hW314, (Fr.trans (Fr.trans (Fr.trans (Fr.trans (Fr.trans (Fr.trans (Fr.trans (Fr.trans (Fr.trans hF235 hF263) hF267) hF271) hF282) hF291) hF299) hF306) hF313) hF315)⟩
    ·
      have hf317 := of_decide_eq_false hc238
      refine wp_exit ?_
      refine then_exit ?_
      refine then_exit ?_
      refine block_exit ?_
      refine then_normal ?_
      refine go_seq_region [0, 1] (by kernel_rfl) ?_
      refine go_rn [0] [1] [(6, .p 1 0), (53, .v (.agg #[.int .i64 0, .slice none 0 0, .bool false, .slice A_ k c_, .slice A5_ q c5_]))] hW232 hE237 fun a318 hE319 => ?_
      clear hE237
      refine of_op (wpOp_store hW232 hE319 (oi := 1) (cs := [.int .i64 0, .slice none 0 0, .bool false, .slice A_ k c_, .slice A5_ q c5_]) (by kernel_rfl) fun w320 hF321 hW322 hE323 => ?_)
      clear hE319 hW232
      refine wpOps_nil ?_
      refine then_normal ?_
      refine wp_ret ?_
      refine leave hE323 hW322.cells (v := .agg #[.int .i64 0, .slice none 0 0, .bool false, .slice A_ k c_, .slice A5_ q c5_]) (by kernel_rfl) ?_
      have hq0 : q = (wholeU (unknownT l u5)).length := by rw [wholeU_len]; omega
      have hT' := (hT.move (Fr.trans (Fr.trans (Fr.trans hF219 hF227) hF235) hF321).step immM (Fr.trans (Fr.trans (Fr.trans hF219 hF227) hF235) hF321).to')
      have hU' := (hU.move hF321.step immM hF321.to')
      rw [show (fitsW W l (Tree.mk n1 s2 b3 l4 u5) 0).take k = (fitsW W l (Tree.mk n1 s2 b3 l4 u5) 0) by rw [hk0, List.take_length]] at hT'
      rw [show (wholeU (unknownT l u5)).take q = (wholeU (unknownT l u5)) by rw [hq0, List.take_length]] at hU'
      exact tree_end hW322 rfl (Octs.nil _ _) hk0 (trees_fp hW322 (k := 0) rfl hT' hk0 (by rw [fits_len]; omega)) hq0 (tags_fp hW322 (k := 1) rfl hU' hq0 (by rw [wholeU_len]; omega)) rfl

theorem sFitOK : ∀ d, FitOK d
  | 0 => fun A c l v ct t w F hl hpl hd ht => sFit (fun _ _ => .zero) A c l v ct t w F (fun cf f ct t w F hm hf ht => by
      obtain ⟨i, hi⟩ := List.mem_iff_getElem?.1 hm
      have h := depths_get hi
      obtain ⟨k, x1, x2, x3, x4, x5, x6, l, A, c, xs, rfl, _⟩ := hf.open_
      rw [depth_mk] at h; omega) hl ht
  | d + 1 => fun A c l v ct t w F hl hpl hd ht => sFit (fittedW (fitT v d) v) A c l v ct t w F (fun cf f ct t w F hm hf ht => sFitted (sFitOK d) cf f v ct t w F hf (plains_mem hpl hm) (by
      obtain ⟨i, hi⟩ := List.mem_iff_getElem?.1 hm
      have h := depths_get hi
      obtain ⟨k, x1, x2, x3, x4, x5, x6, l, A, c, xs, rfl, _⟩ := hf.open_
      rw [depth_mk] at h
      show depths l ≤ d
      omega) ht) hl ht

end Go.Proofs.YtbjopfcbpobnpaaGreat.ME

/- Contracts: printed by tools/sp.py. Own work. -/
namespace Go.Proofs.YtbjopfcbpobnpaaGreat.ME
open Go
set_option linter.unusedVariables false
set_option linter.unusedSimpArgs false
set_option maxRecDepth 20000

def sDescribeClientQuotasResponseF : List Fld := [(Fld.mk 3 0 (-1) (-1) (-1) 0 0 []), (Fld.mk 2 0 (-1) (-1) (-1) 0 0 []), (Fld.mk 8 0 (-1) 0 (-1) 0 0 []), (Fld.mk 11 0 (-1) 0 (-1) 0 10 [(Fld.mk 11 0 (-1) (-1) (-1) 0 10 [(Fld.mk 8 0 (-1) (-1) (-1) 0 0 []), (Fld.mk 8 0 (-1) 0 (-1) 0 0 [])]), (Fld.mk 11 0 (-1) (-1) (-1) 0 10 [(Fld.mk 8 0 (-1) (-1) (-1) 0 0 []), (Fld.mk 6 0 (-1) (-1) (-1) 0 0 [])])])]
def sDescribeClientQuotasResponseX : Int := 1
theorem sDescribeClientQuotasResponse (w : World) (F : Nat → Nat → Prop) : Calls Tryz.prog 18 #[] w (GivesM w F sDescribeClientQuotasResponseF sDescribeClientQuotasResponseX) := by
  refine enter (n := 8) Tryz.func18 rfl Tryz.ntmps18 (by kernel_rfl) fun a hE => ?_
  have hW := WOk.start w Nil
  refine go_seq_region [0] (by kernel_rfl) ?_
  refine of_op (wpOp_alloc hW hE (d := 0) (cs := [.slice none 0 0, .int .i64 0]) (by kernel_rfl) fun b1 a2 w3 hb4 hz5 hF6 hW7 hE8 => ?_)
  clear hE hW
  refine wpOps_nil ?_
  refine then_normal ?_
  refine go_seq_region [0, 1, 2, 3, 4, 5, 6, 7] (by kernel_rfl) ?_
  refine go_rn [0, 1, 2] [3, 4, 5, 6, 7] [(0, .p 0 0), (1, .v (.agg #[.int .i64 3, .int .i64 0, .int .i64 (-1), .int .i64 (-1), .int .i64 (-1), .int .i64 0, .int .i64 0, .slice none 0 0])), (2, .v (.agg #[.int .i64 2, .int .i64 0, .int .i64 (-1), .int .i64 (-1), .int .i64 (-1), .int .i64 0, .int .i64 0, .slice none 0 0])), (3, .v (.agg #[.int .i64 8, .int .i64 0, .int .i64 (-1), .int .i64 0, .int .i64 (-1), .int .i64 0, .int .i64 0, .slice none 0 0]))] hW7 hE8 fun a9 hE10 => ?_
  clear hE8
  refine of_op (wpOp_inline hE10 (f := 43) (vs := []) (d := 4) (n' := 6) (by kernel_rfl) Tryz.call43 Tryz.func43 rfl Tryz.ntmps43 (by kernel_rfl) fun a11 hE12 => ?_)
  refine go_sp [] hW7 hE12 fun a13 hE14 => ?_
  clear hE12
  refine go_seq_region [0, 1, 2, 3, 4, 5] (by kernel_rfl) ?_
  refine of_op (wpOp_inline hE14 (f := 95) (vs := []) (d := 1) (n' := 4) (by kernel_rfl) Tryz.call95 Tryz.func95 rfl Tryz.ntmps95 (by kernel_rfl) fun a15 hE16 => ?_)
  refine go_sp [] hW7 hE16 fun a17 hE18 => ?_
  clear hE16
  refine go_seq_region [0, 1, 2, 3] (by kernel_rfl) ?_
  refine go_rn [0, 1] [2, 3] [(1, .v (.agg #[.int .i64 8, .int .i64 0, .int .i64 (-1), .int .i64 (-1), .int .i64 (-1), .int .i64 0, .int .i64 0, .slice none 0 0])), (2, .v (.agg #[.int .i64 8, .int .i64 0, .int .i64 (-1), .int .i64 0, .int .i64 (-1), .int .i64 0, .int .i64 0, .slice none 0 0]))] hW7 hE18 fun a19 hE20 => ?_
  clear hE18
  refine of_op (wpOp_lit hW7 hE20 (e := 51) (size := 8) (len := 2) (cs := [.int .i64 8, .int .i64 0, .int .i64 (-1), .int .i64 (-1), .int .i64 (-1), .int .i64 0, .int .i64 0, .slice none 0 0, .int .i64 8, .int .i64 0, .int .i64 (-1), .int .i64 0, .int .i64 (-1), .int .i64 0, .int .i64 0, .slice none 0 0]) (d := 3) (by kernel_rfl) (by kernel_rfl) fun b21 a22 w23 hb24 hz25 hF26 hW27 hE28 => ?_)
  clear hE20 hW7
  refine go_rn [3] [] [(0, .v (.slice (some ⟨b21, 0, none⟩) 2 2))] hW27 hE28 fun a29 hE30 => ?_
  clear hE28
  refine wpOps_nil ?_
  refine then_normal ?_
  refine wp_ret ?_
  refine leave hE30 hW27.cells (v := .slice (some ⟨b21, 0, none⟩) 2 2) (by kernel_rfl) ?_
  refine ⟨_, rfl, fun a31 hE32 => ?_⟩
  have hE33 : EnvOk 6 [⟨b1, 0, [.slice none 0 0, .int .i64 0], true⟩] [(1, .v (.slice (some ⟨b21, 0, none⟩) 2 2))] _ := hE32.places (⟨rfl, rfl, trivial⟩)
  refine go_rn [1] [2, 3, 4, 5] [(2, .v (.agg #[.int .i64 11, .int .i64 0, .int .i64 (-1), .int .i64 (-1), .int .i64 (-1), .int .i64 0, .int .i64 10, .slice (some ⟨b21, 0, none⟩) 2 2]))] hW27 hE33 fun a34 hE35 => ?_
  clear hE33
  refine of_op (wpOp_inline hE35 (f := 96) (vs := []) (d := 3) (n' := 4) (by kernel_rfl) Tryz.call96 Tryz.func96 rfl Tryz.ntmps96 (by kernel_rfl) fun a36 hE37 => ?_)
  refine go_sp [] hW27 hE37 fun a38 hE39 => ?_
  clear hE37
  refine go_seq_region [0, 1, 2, 3] (by kernel_rfl) ?_
  refine go_rn [0, 1] [2, 3] [(1, .v (.agg #[.int .i64 8, .int .i64 0, .int .i64 (-1), .int .i64 (-1), .int .i64 (-1), .int .i64 0, .int .i64 0, .slice none 0 0])), (2, .v (.agg #[.int .i64 6, .int .i64 0, .int .i64 (-1), .int .i64 (-1), .int .i64 (-1), .int .i64 0, .int .i64 0, .slice none 0 0]))] hW27 hE39 fun a40 hE41 => ?_
  clear hE39
  refine of_op (wpOp_lit hW27 hE41 (e := 51) (size := 8) (len := 2) (cs := [.int .i64 8, .int .i64 0, .int .i64 (-1), .int .i64 (-1), .int .i64 (-1), .int .i64 0, .int .i64 0, .slice none 0 0, .int .i64 6, .int .i64 0, .int .i64 (-1), .int .i64 (-1), .int .i64 (-1), .int .i64 0, .int .i64 0, .slice none 0 0]) (d := 3) (by kernel_rfl) (by kernel_rfl) fun b42 a43 w44 hb45 hz46 hF47 hW48 hE49 => ?_)
  clear hE41 hW27
  refine go_rn [3] [] [(0, .v (.slice (some ⟨b42, 0, none⟩) 2 2))] hW48 hE49 fun a50 hE51 => ?_
  clear hE49
  refine wpOps_nil ?_
  refine then_normal ?_
  refine wp_ret ?_
  refine leave hE51 hW48.cells (v := .slice (some ⟨b42, 0, none⟩) 2 2) (by kernel_rfl) ?_
  refine ⟨_, rfl, fun a52 hE53 => ?_⟩
  have hE54 : EnvOk 6 [⟨b1, 0, [.slice none 0 0, .int .i64 0], true⟩] [(3, .v (.slice (some ⟨b42, 0, none⟩) 2 2)), (2, .v (.agg #[.int .i64 11, .int .i64 0, .int .i64 (-1), .int .i64 (-1), .int .i64 (-1), .int .i64 0, .int .i64 10, .slice (some ⟨b21, 0, none⟩) 2 2]))] _ := hE53.places (⟨rfl, rfl, trivial⟩)
  refine go_rn [3] [4, 5] [(2, .v (.agg #[.int .i64 11, .int .i64 0, .int .i64 (-1), .int .i64 (-1), .int .i64 (-1), .int .i64 0, .int .i64 10, .slice (some ⟨b21, 0, none⟩) 2 2])), (4, .v (.agg #[.int .i64 11, .int .i64 0, .int .i64 (-1), .int .i64 (-1), .int .i64 (-1), .int .i64 0, .int .i64 10, .slice (some ⟨b42, 0, none⟩) 2 2]))] hW48 hE54 fun a55 hE56 => ?_
  clear hE54
  refine of_op (wpOp_lit hW48 hE56 (e := 51) (size := 8) (len := 2) (cs := [.int .i64 11, .int .i64 0, .int .i64 (-1), .int .i64 (-1), .int .i64 (-1), .int .i64 0, .int .i64 10, .slice (some ⟨b21, 0, none⟩) 2 2, .int .i64 11, .int .i64 0, .int .i64 (-1), .int .i64 (-1), .int .i64 (-1), .int .i64 0, .int .i64 10, .slice (some ⟨b42, 0, none⟩) 2 2]) (d := 5) (by kernel_rfl) (by kernel_rfl) fun b57 a58 w59 hb60 hz61 hF62 hW63 hE64 => ?_)
  clear hE56 hW48
  refine go_rn [5] [] [(0, .v (.slice (some ⟨b57, 0, none⟩) 2 2))] hW63 hE64 fun a65 hE66 => ?_
  clear hE64
  refine wpOps_nil ?_
  refine then_normal ?_
  refine wp_ret ?_
  refine leave hE66 hW63.cells (v := .slice (some ⟨b57, 0, none⟩) 2 2) (by kernel_rfl) ?_
  refine ⟨_, rfl, fun a67 hE68 => ?_⟩
  have hE69 : EnvOk 8 [⟨b1, 0, [.slice none 0 0, .int .i64 0], true⟩] [(4, .v (.slice (some ⟨b57, 0, none⟩) 2 2)), (0, .p 0 0), (1, .v (.agg #[.int .i64 3, .int .i64 0, .int .i64 (-1), .int .i64 (-1), .int .i64 (-1), .int .i64 0, .int .i64 0, .slice none 0 0])), (2, .v (.agg #[.int .i64 2, .int .i64 0, .int .i64 (-1), .int .i64 (-1), .int .i64 (-1), .int .i64 0, .int .i64 0, .slice none 0 0])), (3, .v (.agg #[.int .i64 8, .int .i64 0, .int .i64 (-1), .int .i64 0, .int .i64 (-1), .int .i64 0, .int .i64 0, .slice none 0 0]))] _ := hE68.places (⟨rfl, rfl, trivial⟩)
  refine go_rn [4] [5, 6, 7] [(0, .p 0 0), (1, .v (.agg #[.int .i64 3, .int .i64 0, .int .i64 (-1), .int .i64 (-1), .int .i64 (-1), .int .i64 0, .int .i64 0, .slice none 0 0])), (2, .v (.agg #[.int .i64 2, .int .i64 0, .int .i64 (-1), .int .i64 (-1), .int .i64 (-1), .int .i64 0, .int .i64 0, .slice none 0 0])), (3, .v (.agg #[.int .i64 8, .int .i64 0, .int .i64 (-1), .int .i64 0, .int .i64 (-1), .int .i64 0, .int .i64 0, .slice none 0 0])), (5, .v (.agg #[.int .i64 11, .int .i64 0, .int .i64 (-1), .int .i64 0, .int .i64 (-1), .int .i64 0, .int .i64 10, .slice (some ⟨b57, 0, none⟩) 2 2]))] hW63 hE69 fun a70 hE71 => ?_
  clear hE69
  refine of_op (wpOp_lit hW63 hE71 (e := 51) (size := 8) (len := 4) (cs := [.int .i64 3, .int .i64 0, .int .i64 (-1), .int .i64 (-1), .int .i64 (-1), .int .i64 0, .int .i64 0, .slice none 0 0, .int .i64 2, .int .i64 0, .int .i64 (-1), .int .i64 (-1), .int .i64 (-1), .int .i64 0, .int .i64 0, .slice none 0 0, .int .i64 8, .int .i64 0, .int .i64 (-1), .int .i64 0, .int .i64 (-1), .int .i64 0, .int .i64 0, .slice none 0 0, .int .i64 11, .int .i64 0, .int .i64 (-1), .int .i64 0, .int .i64 (-1), .int .i64 0, .int .i64 10, .slice (some ⟨b57, 0, none⟩) 2 2]) (d := 6) (by kernel_rfl) (by kernel_rfl) fun b72 a73 w74 hb75 hz76 hF77 hW78 hE79 => ?_)
  clear hE71 hW63
  refine go_rn [6] [7] [(0, .p 0 0), (7, .v (.agg #[.slice (some ⟨b72, 0, none⟩) 4 4, .int .i64 1]))] hW78 hE79 fun a80 hE81 => ?_
  clear hE79
  refine of_op (wpOp_store hW78 hE81 (oi := 0) (cs := [.slice (some ⟨b72, 0, none⟩) 4 4, .int .i64 1]) (by kernel_rfl) fun w82 hF83 hW84 hE85 => ?_)
  clear hE81 hW78
  refine wpOps_nil ?_
  refine then_normal ?_
  refine wp_ret ?_
  refine leave hE85 hW84.cells (v := .agg #[.slice (some ⟨b72, 0, none⟩) 4 4, .int .i64 1]) (by kernel_rfl) ?_
  have hfl86 := Flds.slots (F := F) hW84 (k := 0) (n := 2) (xs := [.int .i64 8, .int .i64 0, .int .i64 (-1), .int .i64 (-1), .int .i64 (-1), .int .i64 0, .int .i64 0, .slice none 0 0, .int .i64 8, .int .i64 0, .int .i64 (-1), .int .i64 0, .int .i64 (-1), .int .i64 0, .int .i64 0, .slice none 0 0]) rfl (Flds.snoc (Flds.snoc (Flds.nil _ _) (c := [.int .i64 8, .int .i64 0, .int .i64 (-1), .int .i64 (-1), .int .i64 (-1), .int .i64 0, .int .i64 0, .slice none 0 0]) (x := (Fld.mk 8 0 (-1) (-1) (-1) 0 0 [])) (FldR.mk (l := []) _ (noFlds w82 (Fp F w)).1 (noFlds w82 (Fp F w)).2)) (c := [.int .i64 8, .int .i64 0, .int .i64 (-1), .int .i64 0, .int .i64 (-1), .int .i64 0, .int .i64 0, .slice none 0 0]) (x := (Fld.mk 8 0 (-1) 0 (-1) 0 0 [])) (FldR.mk (l := []) _ (noFlds w82 (Fp F w)).1 (noFlds w82 (Fp F w)).2)) rfl (by decide)
  have hfl87 := Flds.slots (F := F) hW84 (k := 1) (n := 2) (xs := [.int .i64 8, .int .i64 0, .int .i64 (-1), .int .i64 (-1), .int .i64 (-1), .int .i64 0, .int .i64 0, .slice none 0 0, .int .i64 6, .int .i64 0, .int .i64 (-1), .int .i64 (-1), .int .i64 (-1), .int .i64 0, .int .i64 0, .slice none 0 0]) rfl (Flds.snoc (Flds.snoc (Flds.nil _ _) (c := [.int .i64 8, .int .i64 0, .int .i64 (-1), .int .i64 (-1), .int .i64 (-1), .int .i64 0, .int .i64 0, .slice none 0 0]) (x := (Fld.mk 8 0 (-1) (-1) (-1) 0 0 [])) (FldR.mk (l := []) _ (noFlds w82 (Fp F w)).1 (noFlds w82 (Fp F w)).2)) (c := [.int .i64 6, .int .i64 0, .int .i64 (-1), .int .i64 (-1), .int .i64 (-1), .int .i64 0, .int .i64 0, .slice none 0 0]) (x := (Fld.mk 6 0 (-1) (-1) (-1) 0 0 [])) (FldR.mk (l := []) _ (noFlds w82 (Fp F w)).1 (noFlds w82 (Fp F w)).2)) rfl (by decide)
  have hfl88 := Flds.slots (F := F) hW84 (k := 2) (n := 2) (xs := [.int .i64 11, .int .i64 0, .int .i64 (-1), .int .i64 (-1), .int .i64 (-1), .int .i64 0, .int .i64 10, .slice (some ⟨b21, 0, none⟩) 2 2, .int .i64 11, .int .i64 0, .int .i64 (-1), .int .i64 (-1), .int .i64 (-1), .int .i64 0, .int .i64 10, .slice (some ⟨b42, 0, none⟩) 2 2]) rfl (Flds.snoc (Flds.snoc (Flds.nil _ _) (c := [.int .i64 11, .int .i64 0, .int .i64 (-1), .int .i64 (-1), .int .i64 (-1), .int .i64 0, .int .i64 10, .slice (some ⟨b21, 0, none⟩) 2 2]) (x := (Fld.mk 11 0 (-1) (-1) (-1) 0 10 [(Fld.mk 8 0 (-1) (-1) (-1) 0 0 []), (Fld.mk 8 0 (-1) 0 (-1) 0 0 [])])) (FldR.mk (l := [(Fld.mk 8 0 (-1) (-1) (-1) 0 0 []), (Fld.mk 8 0 (-1) 0 (-1) 0 0 [])]) _ hfl86.1 hfl86.2)) (c := [.int .i64 11, .int .i64 0, .int .i64 (-1), .int .i64 (-1), .int .i64 (-1), .int .i64 0, .int .i64 10, .slice (some ⟨b42, 0, none⟩) 2 2]) (x := (Fld.mk 11 0 (-1) (-1) (-1) 0 10 [(Fld.mk 8 0 (-1) (-1) (-1) 0 0 []), (Fld.mk 6 0 (-1) (-1) (-1) 0 0 [])])) (FldR.mk (l := [(Fld.mk 8 0 (-1) (-1) (-1) 0 0 []), (Fld.mk 6 0 (-1) (-1) (-1) 0 0 [])]) _ hfl87.1 hfl87.2)) rfl (by decide)
  have hfl89 := Flds.slots (F := F) hW84 (k := 3) (n := 4) (xs := [.int .i64 3, .int .i64 0, .int .i64 (-1), .int .i64 (-1), .int .i64 (-1), .int .i64 0, .int .i64 0, .slice none 0 0, .int .i64 2, .int .i64 0, .int .i64 (-1), .int .i64 (-1), .int .i64 (-1), .int .i64 0, .int .i64 0, .slice none 0 0, .int .i64 8, .int .i64 0, .int .i64 (-1), .int .i64 0, .int .i64 (-1), .int .i64 0, .int .i64 0, .slice none 0 0, .int .i64 11, .int .i64 0, .int .i64 (-1), .int .i64 0, .int .i64 (-1), .int .i64 0, .int .i64 10, .slice (some ⟨b57, 0, none⟩) 2 2]) rfl (Flds.snoc (Flds.snoc (Flds.snoc (Flds.snoc (Flds.nil _ _) (c := [.int .i64 3, .int .i64 0, .int .i64 (-1), .int .i64 (-1), .int .i64 (-1), .int .i64 0, .int .i64 0, .slice none 0 0]) (x := (Fld.mk 3 0 (-1) (-1) (-1) 0 0 [])) (FldR.mk (l := []) _ (noFlds w82 (Fp F w)).1 (noFlds w82 (Fp F w)).2)) (c := [.int .i64 2, .int .i64 0, .int .i64 (-1), .int .i64 (-1), .int .i64 (-1), .int .i64 0, .int .i64 0, .slice none 0 0]) (x := (Fld.mk 2 0 (-1) (-1) (-1) 0 0 [])) (FldR.mk (l := []) _ (noFlds w82 (Fp F w)).1 (noFlds w82 (Fp F w)).2)) (c := [.int .i64 8, .int .i64 0, .int .i64 (-1), .int .i64 0, .int .i64 (-1), .int .i64 0, .int .i64 0, .slice none 0 0]) (x := (Fld.mk 8 0 (-1) 0 (-1) 0 0 [])) (FldR.mk (l := []) _ (noFlds w82 (Fp F w)).1 (noFlds w82 (Fp F w)).2)) (c := [.int .i64 11, .int .i64 0, .int .i64 (-1), .int .i64 0, .int .i64 (-1), .int .i64 0, .int .i64 10, .slice (some ⟨b57, 0, none⟩) 2 2]) (x := (Fld.mk 11 0 (-1) 0 (-1) 0 10 [(Fld.mk 11 0 (-1) (-1) (-1) 0 10 [(Fld.mk 8 0 (-1) (-1) (-1) 0 0 []), (Fld.mk 8 0 (-1) 0 (-1) 0 0 [])]), (Fld.mk 11 0 (-1) (-1) (-1) 0 10 [(Fld.mk 8 0 (-1) (-1) (-1) 0 0 []), (Fld.mk 6 0 (-1) (-1) (-1) 0 0 [])])])) (FldR.mk (l := [(Fld.mk 11 0 (-1) (-1) (-1) 0 10 [(Fld.mk 8 0 (-1) (-1) (-1) 0 0 []), (Fld.mk 8 0 (-1) 0 (-1) 0 0 [])]), (Fld.mk 11 0 (-1) (-1) (-1) 0 10 [(Fld.mk 8 0 (-1) (-1) (-1) 0 0 []), (Fld.mk 6 0 (-1) (-1) (-1) 0 0 [])])]) _ hfl88.1 hfl88.2)) rfl (by decide)
  exact ⟨_, _, rfl, ⟨_, hfl89.1, hfl89.2⟩, hW84.step⟩

end Go.Proofs.YtbjopfcbpobnpaaGreat.ME
