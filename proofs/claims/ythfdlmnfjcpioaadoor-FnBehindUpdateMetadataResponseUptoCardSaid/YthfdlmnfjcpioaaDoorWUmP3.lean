/- The texts of a claim, put together: the engine, the contracts, the law. Own work. -/
import Derived.Test.YthfdlmnfjcpioaaDoorWUmP2
import Derived.Lib.EndianBits
import Derived.Scope
import Derived.Test.YthfdlmnfjcpioaaDoorProg
/- Contracts: printed by tools/sp.py. Own work. -/
namespace Go.Proofs.YthfdlmnfjcpioaaDoor.ME
open Go
set_option linter.unusedVariables false
set_option linter.unusedSimpArgs false
set_option maxRecDepth 20000

theorem sPart (W : Fld → Tree → Bs) (A : Option Addr) (c : Nat) (l : List Fld) (v : Int) (flex : Bool) (ct : List Value) (t : Tree) (w : World) (F : Nat → Nat → Prop) (hW_ : ∀ cf f ct t w F, f ∈ l → FldR w F cf f → TreeR w F ct t → (W f t).length ≤ 1099511627776 → Calls Tryd.prog 66 #[.agg cf.toArray, .int .i64 v, .bool flex, .agg ct.toArray] w (FreshB w 5 (W f t))) (hl : FldsR w F A c l) (ht : TreeR w F ct t) (hroom : (partW W l v flex t).length ≤ 1099511627776) :
    Calls Tryd.prog 36 #[.slice A l.length c, .int .i64 v, .bool flex, .agg ct.toArray] w (FreshB w 5 (partW W l v flex t)) := by
  obtain ⟨xfs, h1, h2⟩ := hl.ex
  have hsm := h1.small
  obtain ⟨n1, s2, b3, l4, u5, A6, c7, A8, c9, A10, c11, xs12, rfl, rfl, h14, h15, h16, h17⟩ := ht.open_
  have hsm19 := h14.small
  have hsm20 := h15.small
  have hkr := known_range l
  refine enter (n := 132) Tryd.func36 rfl Tryd.ntmps36 (by kernel_rfl) fun a hE => ?_
  have hW := WOk.start w Nil
  refine go_seq_region [0, 1] (by kernel_rfl) ?_
  refine of_op (wpOp_box hW hE (d := 7) (cs := [.int .i64 n1, .slice A6 s2.length c7, .bool b3, .slice A8 l4.length c9, .slice A10 u5.length c11]) (by kernel_rfl) fun b21 a22 w23 hb24 hz25 hF26 hW27 hE28 => ?_)
  clear hE hW
  refine go_rn [1] [] [(0, .v (.slice A l.length c)), (1, .v (.int .i64 v)), (2, .v (.bool flex)), (7, .p 0 0)] hW27 hE28 fun a29 hE30 => ?_
  clear hE28
  refine wpOps_nil ?_
  refine then_normal ?_
  refine go_sp [(0, .v (.slice A l.length c)), (1, .v (.int .i64 v)), (2, .v (.bool flex)), (7, .p 0 0), (9, .v (.slice none 0 0)), (10, .v (.slice none 0 0))] hW27 hE30 fun a31 hE32 => ?_
  clear hE30
  refine go_sp [(0, .v (.slice A l.length c)), (1, .v (.int .i64 v)), (2, .v (.bool flex)), (7, .p 0 0), (9, .v (.slice none 0 0)), (10, .v (.slice none 0 0)), (11, .v (.int .i64 0))] hW27 hE32 fun a33 hE34 => ?_
  clear hE32
  refine wp_seq ?_
  refine go_sp [(0, .v (.slice A l.length c)), (1, .v (.int .i64 v)), (2, .v (.bool flex)), (7, .p 0 0), (9, .v (.slice none 0 0)), (10, .v (.slice none 0 0)), (11, .v (.int .i64 0)), (21, .v (.slice A l.length c)), (22, .v (.int .i64 ((l.length : Nat) : Int))), (23, .v (.int .i64 0))] hW27 hE34 fun a35 hE36 => ?_
  clear hE34
  refine wp_block ?_
  have hW37 := hW27.addNil 5 1
  have hF38 := hW27.frNil 5 1
  clear hW27
  have htot : (bodyB W l v (Tree.mk n1 s2 b3 l4 u5) 0).length ≤ 1099511627776 := by have h_ := hroom; rw [partW, List.length_append] at h_; omega
  refine wp_loop_ghost (fun n_ a_ w_ => ∃ (k : Nat) (A_ : Option Addr) (c_ : Nat) (dn : Bs), n_ = l.length - k ∧ k ≤ l.length ∧ (dn ++ bodyB W (l.drop k) v (Tree.mk n1 s2 b3 l4 u5) k = bodyB W l v (Tree.mk n1 s2 b3 l4 u5) 0) ∧ LInv hW37 132 [⟨b21, 0, [.int .i64 n1, .slice A6 s2.length c7, .bool b3, .slice A8 l4.length c9, .slice A10 u5.length c11], true⟩] [brow A_ c_ 5 dn] [(0, .v (.slice A l.length c)), (1, .v (.int .i64 v)), (2, .v (.bool flex)), (7, .p 0 0), (9, .v (.slice A_ dn.length c_)), (10, .v (.slice none 0 0)), (11, .v (.int .i64 0)), (21, .v (.slice A l.length c)), (22, .v (.int .i64 ((l.length : Nat) : Int))), (23, .v (.int .i64 ((k : Nat) : Int)))] a_ w_) (l.length) ⟨0, none, 0, [], by omega, by omega, rfl, hE36.pk, hW37, Fr.refl _ _ _⟩ ?_
  clear hE36
  rintro n39 a40 w41 ⟨k, A_, c_, dn, hn44, hk45, hB, hE42, hW43, hF46⟩
  refine go_sp [(0, .v (.slice A l.length c)), (1, .v (.int .i64 v)), (2, .v (.bool flex)), (7, .p 0 0), (9, .v (.slice A_ dn.length c_)), (10, .v (.slice none 0 0)), (11, .v (.int .i64 0)), (21, .v (.slice A l.length c)), (22, .v (.int .i64 ((l.length : Nat) : Int))), (23, .v (.int .i64 ((k : Nat) : Int))), (24, .v (.bool (decide (((k : Nat) : Int) < ((l.length : Nat) : Int)))))] hW43 hE42 fun a47 hE48 => ?_
  clear hE42
  refine wp_seq ?_
  refine cond_of hE48 (b := decide (((k : Nat) : Int) < ((l.length : Nat) : Int))) (by kernel_rfl) (fun hc49 => ?_) (fun hc49 => ?_)
  ·
    have hf50 := of_decide_eq_true hc49
    refine wp_skip ?_
    refine then_normal ?_
    refine wp_seq ?_
    refine wp_block ?_
    refine go_seq_region [0, 1, 2, 3, 4, 5] (by kernel_rfl) ?_
    refine go_rn [0] [1, 2, 3, 4, 5] [(0, .v (.slice A l.length c)), (1, .v (.int .i64 v)), (2, .v (.bool flex)), (7, .p 0 0), (9, .v (.slice A_ dn.length c_)), (10, .v (.slice none 0 0)), (11, .v (.int .i64 0)), (21, .v (.slice A l.length c)), (22, .v (.int .i64 ((l.length : Nat) : Int))), (23, .v (.int .i64 ((k : Nat) : Int))), (25, .v (.int .i64 ((k : Nat) : Int)))] hW43 hE48 fun a51 hE52 => ?_
    clear hE48
    obtain ⟨b53, o54, hA55, hl56, hat57⟩ := Slots.get h1 (i := k) (by omega)
    obtain ⟨x58, he59⟩ : ∃ x, l[k]? = some x := ⟨_, List.getElem?_eq_getElem (by omega)⟩
    have hr60 := h2 k x58 he59
    obtain ⟨k61, y62, y63, y64, y65, y66, y67, l68, A69, c70, xs71, rfl, hcs72, h73, h74⟩ := hr60.open_
    rw [hcs72] at hr60
    have hsm75 := h73.small
    rw [hcs72] at hat57
    refine of_op (wpOp_index hE52 (t := 29) (A := A) (m := l.length) (q := ((k : Nat) : Int)) (d := 26) (by kernel_rfl) (e := 56) (size := 8) (bytes := 80) (by kernel_rfl) hA55 rfl (by omega) fun a76 hE77 => ?_)
    clear hE52
    refine of_op (wpOp_load hE77 (t := 56) (b := b53) (o := o54 + k * 8) (d := 27) (by kernel_rfl) (cs := [.int .i64 k61, .int .i64 y62, .int .i64 y63, .int .i64 y64, .int .i64 y65, .int .i64 y66, .int .i64 y67, .slice A69 l68.length c70]) (v := .agg #[.int .i64 k61, .int .i64 y62, .int .i64 y63, .int .i64 y64, .int .i64 y65, .int .i64 y66, .int .i64 y67, .slice A69 l68.length c70]) (by kernel_rfl) (AtF.move hat57 hW43.step nilM keepF).at_ fun a78 hE79 => ?_)
    clear hE77
    refine of_op (wpOp_alloc hW43 hE79 (d := 13) (cs := [.int .i64 0, .int .i64 0, .int .i64 0, .int .i64 0, .int .i64 0, .int .i64 0, .int .i64 0, .slice none 0 0]) (by kernel_rfl) fun b80 a81 w82 hb83 hz84 hF85 hW86 hE87 => ?_)
    clear hE79 hW43
    refine go_rn [4] [5] [(0, .v (.slice A l.length c)), (1, .v (.int .i64 v)), (2, .v (.bool flex)), (7, .p 0 0), (9, .v (.slice A_ dn.length c_)), (10, .v (.slice none 0 0)), (11, .v (.int .i64 0)), (12, .v (.int .i64 ((k : Nat) : Int))), (13, .p 1 0), (21, .v (.slice A l.length c)), (22, .v (.int .i64 ((l.length : Nat) : Int))), (23, .v (.int .i64 ((k : Nat) : Int))), (27, .v (.agg #[.int .i64 k61, .int .i64 y62, .int .i64 y63, .int .i64 y64, .int .i64 y65, .int .i64 y66, .int .i64 y67, .slice A69 l68.length c70]))] hW86 hE87 fun a88 hE89 => ?_
    clear hE87
    refine of_op (wpOp_store hW86 hE89 (oi := 1) (cs := [.int .i64 k61, .int .i64 y62, .int .i64 y63, .int .i64 y64, .int .i64 y65, .int .i64 y66, .int .i64 y67, .slice A69 l68.length c70]) (by kernel_rfl) fun w90 hF91 hW92 hE93 => ?_)
    clear hE89 hW86
    refine wpOps_nil ?_
    refine then_normal ?_
    refine go_seq_region [0, 1, 2, 3, 4, 5, 6, 7] (by kernel_rfl) ?_
    refine go_rn [0, 1, 2, 3] [4, 5, 6, 7] [(0, .v (.slice A l.length c)), (1, .v (.int .i64 v)), (2, .v (.bool flex)), (7, .p 0 0), (9, .v (.slice A_ dn.length c_)), (10, .v (.slice none 0 0)), (11, .v (.int .i64 0)), (12, .v (.int .i64 ((k : Nat) : Int))), (13, .p 1 0), (21, .v (.slice A l.length c)), (22, .v (.int .i64 ((l.length : Nat) : Int))), (23, .v (.int .i64 ((k : Nat) : Int))), (31, .v (.bool (decide (y65 < 0))))] hW92 hE93 fun a94 hE95 => ?_
    clear hE93
    refine (Bool.eq_false_or_eq_true (decide (y65 < 0))).elim (fun hc96 => ?_) (fun hc96 => ?_)
    ·
      have hf97 := of_decide_eq_true hc96
      have hE98 := hE95.cast (env' := [(0, .v (.slice A l.length c)), (1, .v (.int .i64 v)), (2, .v (.bool flex)), (7, .p 0 0), (9, .v (.slice A_ dn.length c_)), (10, .v (.slice none 0 0)), (11, .v (.int .i64 0)), (12, .v (.int .i64 ((k : Nat) : Int))), (13, .p 1 0), (21, .v (.slice A l.length c)), (22, .v (.int .i64 ((l.length : Nat) : Int))), (23, .v (.int .i64 ((k : Nat) : Int))), (31, .v (.bool true))]) (by rw [hc96])
      clear hE95
      refine go_rn [4, 5] [6, 7] [(0, .v (.slice A l.length c)), (1, .v (.int .i64 v)), (2, .v (.bool flex)), (7, .p 0 0), (9, .v (.slice A_ dn.length c_)), (10, .v (.slice none 0 0)), (11, .v (.int .i64 0)), (12, .v (.int .i64 ((k : Nat) : Int))), (13, .p 1 0), (21, .v (.slice A l.length c)), (22, .v (.int .i64 ((l.length : Nat) : Int))), (23, .v (.int .i64 ((k : Nat) : Int))), (31, .v (.bool true)), (32, .v (.agg #[.int .i64 k61, .int .i64 y62, .int .i64 y63, .int .i64 y64, .int .i64 y65, .int .i64 y66, .int .i64 y67, .slice A69 l68.length c70])), (33, .v (.int .i64 v))] hW92 hE98 fun a99 hE100 => ?_
      clear hE98
      refine of_op (wpOp_call hE100 (f := 38) (vs := [.agg #[.int .i64 k61, .int .i64 y62, .int .i64 y63, .int .i64 y64, .int .i64 y65, .int .i64 y66, .int .i64 y67, .slice A69 l68.length c70], .int .i64 v]) (d := 34) (by kernel_rfl) Tryd.call38 (sHas k61 y62 y63 y64 y65 y66 y67 l68 _ _ v _) ?_)
      rintro e_ w102 ⟨rfl, hs101⟩
      refine ⟨_, rfl, fun a103 hE104 => ?_⟩
      have hW105 := hW92.next_nil hs101
      have hF106 := hW92.frN hs101
      clear hE100 hW92
      refine go_rn [7] [] [(0, .v (.slice A l.length c)), (1, .v (.int .i64 v)), (2, .v (.bool flex)), (7, .p 0 0), (9, .v (.slice A_ dn.length c_)), (10, .v (.slice none 0 0)), (11, .v (.int .i64 0)), (12, .v (.int .i64 ((k : Nat) : Int))), (13, .p 1 0), (21, .v (.slice A l.length c)), (22, .v (.int .i64 ((l.length : Nat) : Int))), (23, .v (.int .i64 ((k : Nat) : Int))), (35, .v (.bool (Fld.has (Fld.mk k61 y62 y63 y64 y65 y66 y67 l68) v)))] hW105 hE104 fun a107 hE108 => ?_
      clear hE104
      refine wpOps_nil ?_
      refine then_normal ?_
      refine cond_of hE108 (b := Fld.has (Fld.mk k61 y62 y63 y64 y65 y66 y67 l68) v) (by kernel_rfl) (fun hc109 => ?_) (fun hc109 => ?_)
      ·
        refine go_drawK 9 (by kernel_rfl) hW105 fun w111 hF112 hW113 hT114 => ?_
        clear hW105
        refine go_rnD [0, 1, 2, 3, 4, 5] [(0, .v (.slice A l.length c)), (1, .v (.int .i64 v)), (2, .v (.bool flex)), (7, .p 0 0), (9, .v (.slice A_ dn.length c_)), (10, .v (.slice none 0 0)), (11, .v (.int .i64 0)), (21, .v (.slice A l.length c)), (22, .v (.int .i64 ((l.length : Nat) : Int))), (23, .v (.int .i64 ((k : Nat) : Int))), (36, .v (.slice A_ dn.length c_)), (37, .v (.agg #[.int .i64 k61, .int .i64 y62, .int .i64 y63, .int .i64 y64, .int .i64 y65, .int .i64 y66, .int .i64 y67, .slice A69 l68.length c70])), (38, .v (.int .i64 v)), (39, .v (.bool flex)), (40, .v (.agg #[.int .i64 n1, .slice A6 s2.length c7, .bool b3, .slice A8 l4.length c9, .slice A10 u5.length c11])), (41, .v (.int .i64 ((k : Nat) : Int)))] 4 (panicFree_block (panicFree_then (panicFree_then (panicFree_block (panicFree_then panicFree_body))))) (fun _ h => h.cells) hT114 hE108 fun a115 hE116 => ?_
        clear hE108
        refine anyC_op (i := 6) (by kernel_rfl) (wpOp_call hE116 (f := 37) (vs := [.agg #[.int .i64 n1, .slice A6 s2.length c7, .bool b3, .slice A8 l4.length c9, .slice A10 u5.length c11], .int .i64 ((k : Nat) : Int)]) (d := 42) (by kernel_rfl) Tryd.call37 (sAt _ _ k _ _ (ht.move hW113.step nilM hW113.imm)) ?_)
        rintro e_ w120 ⟨cs119, rfl, hr118, hs117⟩
        have hr121 := hr118.move hs117 nilM (fun b o h_ hb_ => hW113.laid (G := F) hs117 b o (.inl h_) (Nat.lt_of_lt_of_le hb_ hs117.size))
        obtain ⟨n122, s123, b124, l125, u126, A127, c128, A129, c130, A131, c132, xs133, ht139, hcs134, h135, h136, h137, h138⟩ := hr121.open_
        rw [hcs134] at hr121
        have hsm140 := h135.small
        have hsm141 := h136.small
        rw [hcs134]
        refine ⟨_, rfl, fun a142 hE143 => ?_⟩
        have hW144 := hW113.next_nil hs117
        have hF145 := hW113.frN hs117
        clear hE116
        have hT146 := TT.ofW hF145 hW144
        refine ⟨fun _ => hT146, ?_⟩
        refine anyC_op (i := 7) (by kernel_rfl) (wpOp_call hE143 (f := 66) (vs := [.agg #[.int .i64 k61, .int .i64 y62, .int .i64 y63, .int .i64 y64, .int .i64 y65, .int .i64 y66, .int .i64 y67, .slice A69 l68.length c70], .int .i64 v, .bool flex, .agg #[.int .i64 n122, .slice A127 s123.length c128, .bool b124, .slice A129 l125.length c130, .slice A131 u126.length c132]]) (d := 43) (by kernel_rfl) Tryd.call66 ( hW_ _ _ _ _ _ _ (List.mem_of_getElem? he59) (hr60.move hW144.step nilM hW144.imm) hr121 (by have h_ := congrArg List.length hB; rw [bodyB_pos he59 (by assumption) (by assumption)] at h_; simp only [List.length_append] at h_; omega)) ?_)
        rintro e_ w151 ⟨A149, c150, rfl, ho148, hs147⟩
        refine ⟨_, rfl, fun a152 hE153 => ?_⟩
        obtain ⟨hW154, hF155⟩ := hW144.frFresh hs147 (brow A149 c150 5 (W (Fld.mk k61 y62 y63 y64 y65 y66 y67 l68) (Tree.at_ (Tree.mk n1 s2 b3 l4 u5) k))) (Nat.le_refl _) ho148
        clear hE143 hW144
        have hlw156 : (W (Fld.mk k61 y62 y63 y64 y65 y66 y67 l68) (Tree.at_ (Tree.mk n1 s2 b3 l4 u5) k)).length ≤ 1099511627776 := by have h_ := congrArg List.length hB; rw [bodyB_pos he59 (by assumption) (by assumption)] at h_; simp only [List.length_append] at h_; omega
        have hT157 := TT.ofW (Fr.trans hF145 hF155) hW154
        refine ⟨fun _ => hT157, ?_⟩
        refine anyC_op (i := 8) (by kernel_rfl) (wpOp_append hW154 hE153 (k := 0) (d := 44) (t := 22) (e := 5) (size := 1) (bytes := 1) (A := A_) (As := A149) (m0 := dn.length) (c := c_) (m := ((W (Fld.mk k61 y62 y63 y64 y65 y66 y67 l68) (Tree.at_ (Tree.mk n1 s2 b3 l4 u5) k)).length)) (cs := c150) (xs := (bc dn)) (news := bc (W (Fld.mk k61 y62 y63 y64 y65 y66 y67 l68) (Tree.at_ (Tree.mk n1 s2 b3 l4 u5) k))) (by kernel_rfl) (by kernel_rfl) rfl (own_src (hW154.own 1 _ rfl) (bc_one _)) (own_cap (hW154.own 1 _ rfl)) (by have h_ := congrArg List.length hB; rw [bodyB_pos he59 (by assumption) (by assumption)] at h_; simp only [List.length_append] at h_ ⊢; omega) fun A158 c159 a160 w161 hF162 hW163 hE164 => ?_)
        clear hE153 hW154
        have er165 : (⟨A158, c159, 5, 1, dn.length + (W (Fld.mk k61 y62 y63 y64 y65 y66 y67 l68) (Tree.at_ (Tree.mk n1 s2 b3 l4 u5) k)).length, bc dn ++ bc (W (Fld.mk k61 y62 y63 y64 y65 y66 y67 l68) (Tree.at_ (Tree.mk n1 s2 b3 l4 u5) k))⟩ : Rw) = brow A158 c159 5 (dn ++ (W (Fld.mk k61 y62 y63 y64 y65 y66 y67 l68) (Tree.at_ (Tree.mk n1 s2 b3 l4 u5) k))) := brow_eq (rfl) rfl
        obtain ⟨hW166, hF168⟩ := hW163.rowEq 0 [brow A158 c159 5 (dn ++ (W (Fld.mk k61 y62 y63 y64 y65 y66 y67 l68) (Tree.at_ (Tree.mk n1 s2 b3 l4 u5) k))), brow A149 c150 5 (W (Fld.mk k61 y62 y63 y64 y65 y66 y67 l68) (Tree.at_ (Tree.mk n1 s2 b3 l4 u5) k))] er165
        clear hW163
        have hE169 := EnvOk.pick hE164 (ks := [0, 1, 2, 7, 9, 10, 11, 21, 22, 23, 36, 37, 38, 39, 40, 41, 42, 43, 44]) (env' := [(0, .v (.slice A l.length c)), (1, .v (.int .i64 v)), (2, .v (.bool flex)), (7, .p 0 0), (9, .v (.slice A_ dn.length c_)), (10, .v (.slice none 0 0)), (11, .v (.int .i64 0)), (21, .v (.slice A l.length c)), (22, .v (.int .i64 ((l.length : Nat) : Int))), (23, .v (.int .i64 ((k : Nat) : Int))), (36, .v (.slice A_ dn.length c_)), (37, .v (.agg #[.int .i64 k61, .int .i64 y62, .int .i64 y63, .int .i64 y64, .int .i64 y65, .int .i64 y66, .int .i64 y67, .slice A69 l68.length c70])), (38, .v (.int .i64 v)), (39, .v (.bool flex)), (40, .v (.agg #[.int .i64 n1, .slice A6 s2.length c7, .bool b3, .slice A8 l4.length c9, .slice A10 u5.length c11])), (41, .v (.int .i64 ((k : Nat) : Int))), (42, .v (.agg #[.int .i64 n122, .slice A127 s123.length c128, .bool b124, .slice A129 l125.length c130, .slice A131 u126.length c132])), (43, .v (.slice A149 ((W (Fld.mk k61 y62 y63 y64 y65 y66 y67 l68) (Tree.at_ (Tree.mk n1 s2 b3 l4 u5) k)).length) c150)), (44, .v (.slice A158 (dn.length + (W (Fld.mk k61 y62 y63 y64 y65 y66 y67 l68) (Tree.at_ (Tree.mk n1 s2 b3 l4 u5) k)).length) c159))]) (by kernel_rfl)
        have hE167 := hE169.cast (env' := [(0, .v (.slice A l.length c)), (1, .v (.int .i64 v)), (2, .v (.bool flex)), (7, .p 0 0), (9, .v (.slice A_ dn.length c_)), (10, .v (.slice none 0 0)), (11, .v (.int .i64 0)), (21, .v (.slice A l.length c)), (22, .v (.int .i64 ((l.length : Nat) : Int))), (23, .v (.int .i64 ((k : Nat) : Int))), (36, .v (.slice A_ dn.length c_)), (37, .v (.agg #[.int .i64 k61, .int .i64 y62, .int .i64 y63, .int .i64 y64, .int .i64 y65, .int .i64 y66, .int .i64 y67, .slice A69 l68.length c70])), (38, .v (.int .i64 v)), (39, .v (.bool flex)), (40, .v (.agg #[.int .i64 n1, .slice A6 s2.length c7, .bool b3, .slice A8 l4.length c9, .slice A10 u5.length c11])), (41, .v (.int .i64 ((k : Nat) : Int))), (42, .v (.agg #[.int .i64 n122, .slice A127 s123.length c128, .bool b124, .slice A129 l125.length c130, .slice A131 u126.length c132])), (43, .v (.slice A149 ((W (Fld.mk k61 y62 y63 y64 y65 y66 y67 l68) (Tree.at_ (Tree.mk n1 s2 b3 l4 u5) k)).length) c150)), (44, .v (.slice A158 ((dn ++ (W (Fld.mk k61 y62 y63 y64 y65 y66 y67 l68) (Tree.at_ (Tree.mk n1 s2 b3 l4 u5) k))).length) c159))]) (by simp only [List.length_append, List.length_cons, List.length_nil, Nat.zero_add])
        clear hE164
        clear hE169
        have hT170 := TT.ofW (Fr.trans (Fr.trans (Fr.trans hF145 hF155) hF162) hF168) hW166
        refine ⟨fun _ => hT170, ?_⟩
        refine anyC_op (i := 9) (by kernel_rfl) (wpOp_pure [0, 1, 2, 7, 9, 10, 11, 21, 22, 23] hW166.cells hE167 (env' := [(0, .v (.slice A l.length c)), (1, .v (.int .i64 v)), (2, .v (.bool flex)), (7, .p 0 0), (9, .v (.slice A158 ((dn ++ (W (Fld.mk k61 y62 y63 y64 y65 y66 y67 l68) (Tree.at_ (Tree.mk n1 s2 b3 l4 u5) k))).length) c159)), (10, .v (.slice none 0 0)), (11, .v (.int .i64 0)), (21, .v (.slice A l.length c)), (22, .v (.int .i64 ((l.length : Nat) : Int))), (23, .v (.int .i64 ((k : Nat) : Int)))]) (by kernel_rfl) fun a171 hE172 => ?_)
        clear hE167
        refine ⟨fun h => absurd rfl h, ?_⟩
        refine anyC_done (by kernel_rfl) ?_ _
        refine block_normal ?_
        refine then_normal ?_
        refine go_region [0, 1] (by kernel_rfl) ?_
        refine go_rn [0, 1] [] [(0, .v (.slice A l.length c)), (1, .v (.int .i64 v)), (2, .v (.bool flex)), (7, .p 0 0), (9, .v (.slice A158 ((dn ++ (W (Fld.mk k61 y62 y63 y64 y65 y66 y67 l68) (Tree.at_ (Tree.mk n1 s2 b3 l4 u5) k))).length) c159)), (10, .v (.slice none 0 0)), (11, .v (.int .i64 0)), (21, .v (.slice A l.length c)), (22, .v (.int .i64 ((l.length : Nat) : Int))), (23, .v (.int .i64 (IntKind.i64.wrap (((k : Nat) : Int) + 1))))] hW166 hE172 fun a173 hE174 => ?_
        clear hE172
        refine wpOps_nil ?_
        refine then_normal ?_
        obtain ⟨hE175, hW176, hF177⟩ := hW166.cutB hE174 1 [⟨b21, 0, [.int .i64 n1, .slice A6 s2.length c7, .bool b3, .slice A8 l4.length c9, .slice A10 u5.length c11], true⟩] [(0, .v (.slice A l.length c)), (1, .v (.int .i64 v)), (2, .v (.bool flex)), (7, .p 0 0), (9, .v (.slice A158 ((dn ++ (W (Fld.mk k61 y62 y63 y64 y65 y66 y67 l68) (Tree.at_ (Tree.mk n1 s2 b3 l4 u5) k))).length) c159)), (10, .v (.slice none 0 0)), (11, .v (.int .i64 0)), (21, .v (.slice A l.length c)), (22, .v (.int .i64 ((l.length : Nat) : Int))), (23, .v (.int .i64 (IntKind.i64.wrap (((k : Nat) : Int) + 1))))]
        obtain ⟨hW178, hF179⟩ := hW176.cutR 1 [brow A158 c159 5 (dn ++ (W (Fld.mk k61 y62 y63 y64 y65 y66 y67 l68) (Tree.at_ (Tree.mk n1 s2 b3 l4 u5) k)))]
        have he180 : IntKind.i64.wrap (((k : Nat) : Int) + 1) = ((k + 1 : Nat) : Int) := wrap_succ (by omega)
        rw [he180] at hE175
        exact ⟨l.length - (k + 1), by omega, k + 1, A158, c159, dn ++ (W (Fld.mk k61 y62 y63 y64 y65 y66 y67 l68) (Tree.at_ (Tree.mk n1 s2 b3 l4 u5) k)), rfl, by omega, by rw [List.append_assoc, ← bodyB_pos he59 (by assumption) (by assumption)]; exact hB, hE175.pk, hW178, (Fr.trans (Fr.trans (Fr.trans (Fr.trans (Fr.trans (Fr.trans (Fr.trans (Fr.trans (Fr.trans (Fr.trans hF46 hF85) hF91) hF106) hF112) hF145) hF155) hF162) hF168) hF177) hF179)⟩
      ·
        refine wp_skip ?_
        refine block_normal ?_
        refine then_normal ?_
        refine go_region [0, 1] (by kernel_rfl) ?_
        refine go_rn [0, 1] [] [(0, .v (.slice A l.length c)), (1, .v (.int .i64 v)), (2, .v (.bool flex)), (7, .p 0 0), (9, .v (.slice A_ dn.length c_)), (10, .v (.slice none 0 0)), (11, .v (.int .i64 0)), (21, .v (.slice A l.length c)), (22, .v (.int .i64 ((l.length : Nat) : Int))), (23, .v (.int .i64 (IntKind.i64.wrap (((k : Nat) : Int) + 1))))] hW105 hE108 fun a182 hE183 => ?_
        clear hE108
        refine wpOps_nil ?_
        refine then_normal ?_
        obtain ⟨hE184, hW185, hF186⟩ := hW105.cutB hE183 1 [⟨b21, 0, [.int .i64 n1, .slice A6 s2.length c7, .bool b3, .slice A8 l4.length c9, .slice A10 u5.length c11], true⟩] [(0, .v (.slice A l.length c)), (1, .v (.int .i64 v)), (2, .v (.bool flex)), (7, .p 0 0), (9, .v (.slice A_ dn.length c_)), (10, .v (.slice none 0 0)), (11, .v (.int .i64 0)), (21, .v (.slice A l.length c)), (22, .v (.int .i64 ((l.length : Nat) : Int))), (23, .v (.int .i64 (IntKind.i64.wrap (((k : Nat) : Int) + 1))))]
        have he187 : IntKind.i64.wrap (((k : Nat) : Int) + 1) = ((k + 1 : Nat) : Int) := wrap_succ (by omega)
        rw [he187] at hE184
        exact ⟨l.length - (k + 1), by omega, k + 1, A_, c_, dn, rfl, by omega, by rw [← bodyB_neg2 he59 (by assumption)]; exact hB, hE184.pk, hW185, (Fr.trans (Fr.trans (Fr.trans (Fr.trans hF46 hF85) hF91) hF106) hF186)⟩
    ·
      have hf188 := of_decide_eq_false hc96
      have hE189 := hE95.cast (env' := [(0, .v (.slice A l.length c)), (1, .v (.int .i64 v)), (2, .v (.bool flex)), (7, .p 0 0), (9, .v (.slice A_ dn.length c_)), (10, .v (.slice none 0 0)), (11, .v (.int .i64 0)), (12, .v (.int .i64 ((k : Nat) : Int))), (13, .p 1 0), (21, .v (.slice A l.length c)), (22, .v (.int .i64 ((l.length : Nat) : Int))), (23, .v (.int .i64 ((k : Nat) : Int))), (31, .v (.bool false))]) (by rw [hc96])
      clear hE95
      refine go_rn [4, 5, 6, 7] [] [(0, .v (.slice A l.length c)), (1, .v (.int .i64 v)), (2, .v (.bool flex)), (7, .p 0 0), (9, .v (.slice A_ dn.length c_)), (10, .v (.slice none 0 0)), (11, .v (.int .i64 0)), (12, .v (.int .i64 ((k : Nat) : Int))), (13, .p 1 0), (21, .v (.slice A l.length c)), (22, .v (.int .i64 ((l.length : Nat) : Int))), (23, .v (.int .i64 ((k : Nat) : Int))), (35, .v (.bool false))] hW92 hE189 fun a190 hE191 => ?_
      clear hE189
      refine wpOps_nil ?_
      refine then_normal ?_
      refine cond_false hE191 (b := false) (by kernel_rfl) rfl ?_
      refine wp_skip ?_
      refine block_normal ?_
      refine then_normal ?_
      refine go_region [0, 1] (by kernel_rfl) ?_
      refine go_rn [0, 1] [] [(0, .v (.slice A l.length c)), (1, .v (.int .i64 v)), (2, .v (.bool flex)), (7, .p 0 0), (9, .v (.slice A_ dn.length c_)), (10, .v (.slice none 0 0)), (11, .v (.int .i64 0)), (21, .v (.slice A l.length c)), (22, .v (.int .i64 ((l.length : Nat) : Int))), (23, .v (.int .i64 (IntKind.i64.wrap (((k : Nat) : Int) + 1))))] hW92 hE191 fun a192 hE193 => ?_
      clear hE191
      refine wpOps_nil ?_
      refine then_normal ?_
      obtain ⟨hE194, hW195, hF196⟩ := hW92.cutB hE193 1 [⟨b21, 0, [.int .i64 n1, .slice A6 s2.length c7, .bool b3, .slice A8 l4.length c9, .slice A10 u5.length c11], true⟩] [(0, .v (.slice A l.length c)), (1, .v (.int .i64 v)), (2, .v (.bool flex)), (7, .p 0 0), (9, .v (.slice A_ dn.length c_)), (10, .v (.slice none 0 0)), (11, .v (.int .i64 0)), (21, .v (.slice A l.length c)), (22, .v (.int .i64 ((l.length : Nat) : Int))), (23, .v (.int .i64 (IntKind.i64.wrap (((k : Nat) : Int) + 1))))]
      have he197 : IntKind.i64.wrap (((k : Nat) : Int) + 1) = ((k + 1 : Nat) : Int) := wrap_succ (by omega)
      rw [he197] at hE194
      exact ⟨l.length - (k + 1), by omega, k + 1, A_, c_, dn, rfl, by omega, by rw [← bodyB_neg1 he59 (by assumption)]; exact hB, hE194.pk, hW195, (Fr.trans (Fr.trans (Fr.trans hF46 hF85) hF91) hF196)⟩
  ·
    have hf198 := of_decide_eq_false hc49
    refine wp_exit ?_
    refine then_exit ?_
    refine then_exit ?_
    refine block_exit ?_
    refine then_normal ?_
    refine wp_seq ?_
    refine go_sp [(0, .v (.slice A l.length c)), (1, .v (.int .i64 v)), (2, .v (.bool flex)), (7, .p 0 0), (9, .v (.slice A_ dn.length c_)), (10, .v (.slice none 0 0)), (11, .v (.int .i64 0)), (47, .v (.bool (!flex)))] hW43 hE48 fun a199 hE200 => ?_
    clear hE48
    refine cond_of hE200 (b := !flex) (by kernel_rfl) (fun hc201 => ?_) (fun hc201 => ?_)
    ·
      refine go_sp [(8, .v (.slice A_ dn.length c_))] hW43 hE200 fun a203 hE204 => ?_
      clear hE200
      refine wp_ret ?_
      refine then_ret ?_
      refine leave hE204 hW43.cells (v := .slice A_ dn.length c_) (by kernel_rfl) ?_
      exact fresh_end hW43 (k := 0) rfl (by rw [show flex = false by simpa using hc201, partW_old, ← hB, bodyB_end (by omega), List.append_nil])
    ·
      refine wp_skip ?_
      refine then_normal ?_
      refine wp_seq ?_
      refine go_seq_region [0, 1, 2, 3] (by kernel_rfl) ?_
      refine go_rn [0] [1, 2, 3] [(0, .v (.slice A l.length c)), (1, .v (.int .i64 v)), (2, .v (.bool flex)), (7, .p 0 0), (9, .v (.slice A_ dn.length c_)), (10, .v (.slice none 0 0)), (11, .v (.int .i64 0)), (49, .v (.slice A l.length c))] hW43 hE200 fun a206 hE207 => ?_
      clear hE200
      refine of_op (wpOp_call hE207 (f := 67) (vs := [.slice A l.length c]) (d := 50) (by kernel_rfl) Tryd.call67 (sKnown _ _ l _ _ ⟨xfs, (h1.move hW43.step nilM hW43.imm), (fun i_ x_ h_ => ((h2 i_ x_ h_).move hW43.step nilM hW43.imm))⟩) ?_)
      rintro e_ w209 ⟨rfl, hs208⟩
      refine ⟨_, rfl, fun a210 hE211 => ?_⟩
      have hW212 := hW43.next_nil hs208
      have hF213 := hW43.frN hs208
      clear hE207 hW43
      refine go_rn [2, 3] [] [(0, .v (.slice A l.length c)), (1, .v (.int .i64 v)), (2, .v (.bool flex)), (7, .p 0 0), (9, .v (.slice A_ dn.length c_)), (10, .v (.slice none 0 0)), (11, .v (.int .i64 0)), (51, .v (.int .i64 (IntKind.i64.wrap (knownI l)))), (52, .v (.int .i64 0))] hW212 hE211 fun a214 hE215 => ?_
      clear hE211
      refine wpOps_nil ?_
      refine then_normal ?_
      refine wp_block ?_
      have hdn : dn = bodyB W l v (Tree.mk n1 s2 b3 l4 u5) 0 := by rw [← hB, bodyB_end (by omega), List.append_nil]
      have er216 : dn = (bodyB W l v (Tree.mk n1 s2 b3 l4 u5) 0) := hdn
      have er217 := congrArg (brow A_ c_ 5) er216
      obtain ⟨hW218, hF219⟩ := hW212.rowEq 0 [brow A_ c_ 5 (bodyB W l v (Tree.mk n1 s2 b3 l4 u5) 0)] er217
      clear hW212
      rw [er216] at hE215
      have hfx : flex = true := by simpa using hc201
      have htot2 : (bodyB W l v (Tree.mk n1 s2 b3 l4 u5) 0).length + (uv (tagsN W l (Tree.mk n1 s2 b3 l4 u5) (knownI l).toNat + (unknownT l u5).length)).length + ((tagsK W l (Tree.mk n1 s2 b3 l4 u5) (knownI l).toNat).length + (tagsB (unknownT l u5)).length) ≤ 1099511627776 := by have h_ := hroom; rw [hfx, partW_flex] at h_; simpa only [List.length_append] using h_
      have hmono := fun i (h_ : i ≤ (knownI l).toNat) => tagsK_mono W l (Tree.mk n1 s2 b3 l4 u5) h_
      have hcnt := tagsN_le W l (Tree.mk n1 s2 b3 l4 u5)
      have hknn := known_nat l
      have hE221 := EnvOk.pick hE215 (ks := [0, 1, 2, 7, 9, 10, 11, 51, 52]) (env' := [(0, .v (.slice A l.length c)), (1, .v (.int .i64 v)), (2, .v (.bool flex)), (7, .p 0 0), (9, .v (.slice A_ ((bodyB W l v (Tree.mk n1 s2 b3 l4 u5) 0).length) c_)), (10, .v (.slice none 0 0)), (11, .v (.int .i64 0)), (51, .v (.int .i64 (IntKind.i64.wrap (knownI l)))), (52, .v (.int .i64 0))]) (by kernel_rfl)
      have hE220 := hE221.cast (env' := [(0, .v (.slice A l.length c)), (1, .v (.int .i64 v)), (2, .v (.bool flex)), (7, .p 0 0), (9, .v (.slice A_ ((bodyB W l v (Tree.mk n1 s2 b3 l4 u5) 0).length) c_)), (10, .v (.slice none 0 0)), (11, .v (.int .i64 0)), (51, .v (.int .i64 (((knownI l).toNat : Nat) : Int))), (52, .v (.int .i64 0))]) (by rw [hknn])
      clear hE215 hE221
      have hW222 := hW218.addNil 5 1
      have hF223 := hW218.frNil 5 1
      clear hW218
      refine wp_loop_ghost (fun n_ a_ w_ => ∃ (k2 : Nat) (A2_ : Option Addr) (c2_ : Nat), n_ = (knownI l).toNat - k2 ∧ k2 ≤ (knownI l).toNat ∧ LInv hW222 132 [⟨b21, 0, [.int .i64 n1, .slice A6 s2.length c7, .bool b3, .slice A8 l4.length c9, .slice A10 u5.length c11], true⟩] [brow A_ c_ 5 (bodyB W l v (Tree.mk n1 s2 b3 l4 u5) 0), brow A2_ c2_ 5 (tagsK W l (Tree.mk n1 s2 b3 l4 u5) k2)] [(0, .v (.slice A l.length c)), (1, .v (.int .i64 v)), (2, .v (.bool flex)), (7, .p 0 0), (9, .v (.slice A_ ((bodyB W l v (Tree.mk n1 s2 b3 l4 u5) 0).length) c_)), (10, .v (.slice A2_ ((tagsK W l (Tree.mk n1 s2 b3 l4 u5) k2).length) c2_)), (11, .v (.int .i64 ((tagsN W l (Tree.mk n1 s2 b3 l4 u5) k2 : Nat) : Int))), (51, .v (.int .i64 (((knownI l).toNat : Nat) : Int))), (52, .v (.int .i64 ((k2 : Nat) : Int)))] a_ w_) ((knownI l).toNat) ⟨0, none, 0, by omega, by omega, hE220.pk, hW222, Fr.refl _ _ _⟩ ?_
      clear hE220
      rintro n224 a225 w226 ⟨k2, A2_, c2_, hn229, hk230, hE227, hW228, hF231⟩
      refine go_sp [(0, .v (.slice A l.length c)), (1, .v (.int .i64 v)), (2, .v (.bool flex)), (7, .p 0 0), (9, .v (.slice A_ ((bodyB W l v (Tree.mk n1 s2 b3 l4 u5) 0).length) c_)), (10, .v (.slice A2_ ((tagsK W l (Tree.mk n1 s2 b3 l4 u5) k2).length) c2_)), (11, .v (.int .i64 ((tagsN W l (Tree.mk n1 s2 b3 l4 u5) k2 : Nat) : Int))), (51, .v (.int .i64 (((knownI l).toNat : Nat) : Int))), (52, .v (.int .i64 ((k2 : Nat) : Int))), (53, .v (.bool (decide (((k2 : Nat) : Int) < (((knownI l).toNat : Nat) : Int)))))] hW228 hE227 fun a232 hE233 => ?_
      clear hE227
      refine wp_seq ?_
      refine cond_of hE233 (b := decide (((k2 : Nat) : Int) < (((knownI l).toNat : Nat) : Int))) (by kernel_rfl) (fun hc234 => ?_) (fun hc234 => ?_)
      ·
        have hf235 := of_decide_eq_true hc234
        refine wp_skip ?_
        refine then_normal ?_
        refine wp_seq ?_
        refine wp_block ?_
        refine go_sp [(0, .v (.slice A l.length c)), (1, .v (.int .i64 v)), (2, .v (.bool flex)), (7, .p 0 0), (9, .v (.slice A_ ((bodyB W l v (Tree.mk n1 s2 b3 l4 u5) 0).length) c_)), (10, .v (.slice A2_ ((tagsK W l (Tree.mk n1 s2 b3 l4 u5) k2).length) c2_)), (11, .v (.int .i64 ((tagsN W l (Tree.mk n1 s2 b3 l4 u5) k2 : Nat) : Int))), (14, .v (.int .i64 ((k2 : Nat) : Int))), (51, .v (.int .i64 (((knownI l).toNat : Nat) : Int))), (52, .v (.int .i64 ((k2 : Nat) : Int)))] hW228 hE233 fun a236 hE237 => ?_
        clear hE233
        refine go_sp [(0, .v (.slice A l.length c)), (1, .v (.int .i64 v)), (2, .v (.bool flex)), (7, .p 0 0), (9, .v (.slice A_ ((bodyB W l v (Tree.mk n1 s2 b3 l4 u5) 0).length) c_)), (10, .v (.slice A2_ ((tagsK W l (Tree.mk n1 s2 b3 l4 u5) k2).length) c2_)), (11, .v (.int .i64 ((tagsN W l (Tree.mk n1 s2 b3 l4 u5) k2 : Nat) : Int))), (14, .v (.int .i64 ((k2 : Nat) : Int))), (51, .v (.int .i64 (((knownI l).toNat : Nat) : Int))), (52, .v (.int .i64 ((k2 : Nat) : Int))), (55, .v (.slice A l.length c)), (56, .v (.int .i64 ((l.length : Nat) : Int))), (57, .v (.int .i64 0))] hW228 hE237 fun a238 hE239 => ?_
        clear hE237
        refine wp_block ?_
        have er240 : (tagsK W l (Tree.mk n1 s2 b3 l4 u5) k2) = (tagsK W l (Tree.mk n1 s2 b3 l4 u5) k2 ++ []) := (List.append_nil _).symm
        have er241 := congrArg (brow A2_ c2_ 5) er240
        obtain ⟨hW242, hF243⟩ := hW228.rowEq 1 [brow A_ c_ 5 (bodyB W l v (Tree.mk n1 s2 b3 l4 u5) 0), brow A2_ c2_ 5 (tagsK W l (Tree.mk n1 s2 b3 l4 u5) k2 ++ [])] er241
        clear hW228
        rw [er240] at hE239
        have hm2 := hmono (k2 + 1) (by omega)
        rw [tagsK, List.length_append] at hm2
        have hc2 := hcnt (k2 + 1)
        rw [tagsN, tagsK, List.length_append] at hc2
        have hc3 := tagN_le W k2 (Tree.mk n1 s2 b3 l4 u5) l 0
        refine wp_loop_ghost (fun n_ a_ w_ => ∃ (q : Nat) (A3_ : Option Addr) (c3_ : Nat) (dm : Bs) (cn : Nat), n_ = l.length - q ∧ q ≤ l.length ∧ (dm ++ tagB W (l.drop q) k2 (Tree.mk n1 s2 b3 l4 u5) q = tagB W l k2 (Tree.mk n1 s2 b3 l4 u5) 0) ∧ (cn + tagN W (l.drop q) k2 (Tree.mk n1 s2 b3 l4 u5) q = tagN W l k2 (Tree.mk n1 s2 b3 l4 u5) 0) ∧ LInv hW242 132 [⟨b21, 0, [.int .i64 n1, .slice A6 s2.length c7, .bool b3, .slice A8 l4.length c9, .slice A10 u5.length c11], true⟩] [brow A_ c_ 5 (bodyB W l v (Tree.mk n1 s2 b3 l4 u5) 0), brow A3_ c3_ 5 (tagsK W l (Tree.mk n1 s2 b3 l4 u5) k2 ++ dm)] [(0, .v (.slice A l.length c)), (1, .v (.int .i64 v)), (2, .v (.bool flex)), (7, .p 0 0), (9, .v (.slice A_ ((bodyB W l v (Tree.mk n1 s2 b3 l4 u5) 0).length) c_)), (10, .v (.slice A3_ ((tagsK W l (Tree.mk n1 s2 b3 l4 u5) k2 ++ dm).length) c3_)), (11, .v (.int .i64 ((tagsN W l (Tree.mk n1 s2 b3 l4 u5) k2 + cn : Nat) : Int))), (14, .v (.int .i64 ((k2 : Nat) : Int))), (51, .v (.int .i64 (((knownI l).toNat : Nat) : Int))), (52, .v (.int .i64 ((k2 : Nat) : Int))), (55, .v (.slice A l.length c)), (56, .v (.int .i64 ((l.length : Nat) : Int))), (57, .v (.int .i64 ((q : Nat) : Int)))] a_ w_) (l.length) ⟨0, A2_, c2_, [], 0, by omega, by omega, rfl, Nat.zero_add _, hE239.pk, hW242, Fr.refl _ _ _⟩ ?_
        clear hE239
        rintro n244 a245 w246 ⟨q, A3_, c3_, dm, cn, hn249, hk250, hB2, hN2, hE247, hW248, hF251⟩
        refine go_sp [(0, .v (.slice A l.length c)), (1, .v (.int .i64 v)), (2, .v (.bool flex)), (7, .p 0 0), (9, .v (.slice A_ ((bodyB W l v (Tree.mk n1 s2 b3 l4 u5) 0).length) c_)), (10, .v (.slice A3_ ((tagsK W l (Tree.mk n1 s2 b3 l4 u5) k2 ++ dm).length) c3_)), (11, .v (.int .i64 ((tagsN W l (Tree.mk n1 s2 b3 l4 u5) k2 + cn : Nat) : Int))), (14, .v (.int .i64 ((k2 : Nat) : Int))), (51, .v (.int .i64 (((knownI l).toNat : Nat) : Int))), (52, .v (.int .i64 ((k2 : Nat) : Int))), (55, .v (.slice A l.length c)), (56, .v (.int .i64 ((l.length : Nat) : Int))), (57, .v (.int .i64 ((q : Nat) : Int))), (58, .v (.bool (decide (((q : Nat) : Int) < ((l.length : Nat) : Int)))))] hW248 hE247 fun a252 hE253 => ?_
        clear hE247
        refine wp_seq ?_
        refine cond_of hE253 (b := decide (((q : Nat) : Int) < ((l.length : Nat) : Int))) (by kernel_rfl) (fun hc254 => ?_) (fun hc254 => ?_)
        ·
          have hf255 := of_decide_eq_true hc254
          refine wp_skip ?_
          refine then_normal ?_
          refine wp_seq ?_
          refine wp_block ?_
          refine go_seq_region [0, 1, 2, 3, 4, 5] (by kernel_rfl) ?_
          refine go_rn [0] [1, 2, 3, 4, 5] [(0, .v (.slice A l.length c)), (1, .v (.int .i64 v)), (2, .v (.bool flex)), (7, .p 0 0), (9, .v (.slice A_ ((bodyB W l v (Tree.mk n1 s2 b3 l4 u5) 0).length) c_)), (10, .v (.slice A3_ ((tagsK W l (Tree.mk n1 s2 b3 l4 u5) k2 ++ dm).length) c3_)), (11, .v (.int .i64 ((tagsN W l (Tree.mk n1 s2 b3 l4 u5) k2 + cn : Nat) : Int))), (14, .v (.int .i64 ((k2 : Nat) : Int))), (51, .v (.int .i64 (((knownI l).toNat : Nat) : Int))), (52, .v (.int .i64 ((k2 : Nat) : Int))), (55, .v (.slice A l.length c)), (56, .v (.int .i64 ((l.length : Nat) : Int))), (57, .v (.int .i64 ((q : Nat) : Int))), (59, .v (.int .i64 ((q : Nat) : Int)))] hW248 hE253 fun a256 hE257 => ?_
          clear hE253
          obtain ⟨b258, o259, hA260, hl261, hat262⟩ := Slots.get h1 (i := q) (by omega)
          obtain ⟨x263, he264⟩ : ∃ x, l[q]? = some x := ⟨_, List.getElem?_eq_getElem (by omega)⟩
          have hr265 := h2 q x263 he264
          obtain ⟨k266, y267, y268, y269, y270, y271, y272, l273, A274, c275, xs276, rfl, hcs277, h278, h279⟩ := hr265.open_
          rw [hcs277] at hr265
          have hsm280 := h278.small
          rw [hcs277] at hat262
          refine of_op (wpOp_index hE257 (t := 29) (A := A) (m := l.length) (q := ((q : Nat) : Int)) (d := 60) (by kernel_rfl) (e := 56) (size := 8) (bytes := 80) (by kernel_rfl) hA260 rfl (by omega) fun a281 hE282 => ?_)
          clear hE257
          refine of_op (wpOp_load hE282 (t := 56) (b := b258) (o := o259 + q * 8) (d := 61) (by kernel_rfl) (cs := [.int .i64 k266, .int .i64 y267, .int .i64 y268, .int .i64 y269, .int .i64 y270, .int .i64 y271, .int .i64 y272, .slice A274 l273.length c275]) (v := .agg #[.int .i64 k266, .int .i64 y267, .int .i64 y268, .int .i64 y269, .int .i64 y270, .int .i64 y271, .int .i64 y272, .slice A274 l273.length c275]) (by kernel_rfl) (AtF.move hat262 hW248.step nilM keepF).at_ fun a283 hE284 => ?_)
          clear hE282
          refine of_op (wpOp_alloc hW248 hE284 (d := 16) (cs := [.int .i64 0, .int .i64 0, .int .i64 0, .int .i64 0, .int .i64 0, .int .i64 0, .int .i64 0, .slice none 0 0]) (by kernel_rfl) fun b285 a286 w287 hb288 hz289 hF290 hW291 hE292 => ?_)
          clear hE284 hW248
          refine go_rn [4] [5] [(0, .v (.slice A l.length c)), (1, .v (.int .i64 v)), (2, .v (.bool flex)), (7, .p 0 0), (9, .v (.slice A_ ((bodyB W l v (Tree.mk n1 s2 b3 l4 u5) 0).length) c_)), (10, .v (.slice A3_ ((tagsK W l (Tree.mk n1 s2 b3 l4 u5) k2 ++ dm).length) c3_)), (11, .v (.int .i64 ((tagsN W l (Tree.mk n1 s2 b3 l4 u5) k2 + cn : Nat) : Int))), (14, .v (.int .i64 ((k2 : Nat) : Int))), (15, .v (.int .i64 ((q : Nat) : Int))), (16, .p 1 0), (51, .v (.int .i64 (((knownI l).toNat : Nat) : Int))), (52, .v (.int .i64 ((k2 : Nat) : Int))), (55, .v (.slice A l.length c)), (56, .v (.int .i64 ((l.length : Nat) : Int))), (57, .v (.int .i64 ((q : Nat) : Int))), (61, .v (.agg #[.int .i64 k266, .int .i64 y267, .int .i64 y268, .int .i64 y269, .int .i64 y270, .int .i64 y271, .int .i64 y272, .slice A274 l273.length c275]))] hW291 hE292 fun a293 hE294 => ?_
          clear hE292
          refine of_op (wpOp_store hW291 hE294 (oi := 1) (cs := [.int .i64 k266, .int .i64 y267, .int .i64 y268, .int .i64 y269, .int .i64 y270, .int .i64 y271, .int .i64 y272, .slice A274 l273.length c275]) (by kernel_rfl) fun w295 hF296 hW297 hE298 => ?_)
          clear hE294 hW291
          refine wpOps_nil ?_
          refine then_normal ?_
          refine go_seq_drawK 12 (by kernel_rfl) hW297 fun w299 hF300 hW301 hT302 => ?_
          clear hW297
          refine go_rnD [0, 1, 2, 3, 4] [(0, .v (.slice A l.length c)), (1, .v (.int .i64 v)), (2, .v (.bool flex)), (7, .p 0 0), (9, .v (.slice A_ ((bodyB W l v (Tree.mk n1 s2 b3 l4 u5) 0).length) c_)), (10, .v (.slice A3_ ((tagsK W l (Tree.mk n1 s2 b3 l4 u5) k2 ++ dm).length) c3_)), (11, .v (.int .i64 ((tagsN W l (Tree.mk n1 s2 b3 l4 u5) k2 + cn : Nat) : Int))), (14, .v (.int .i64 ((k2 : Nat) : Int))), (15, .v (.int .i64 ((q : Nat) : Int))), (16, .p 1 0), (51, .v (.int .i64 (((knownI l).toNat : Nat) : Int))), (52, .v (.int .i64 ((k2 : Nat) : Int))), (55, .v (.slice A l.length c)), (56, .v (.int .i64 ((l.length : Nat) : Int))), (57, .v (.int .i64 ((q : Nat) : Int))), (66, .v (.bool (y270 == ((k2 : Nat) : Int))))] 7 (panicFree_then (panicFree_block (panicFree_then (panicFree_then (panicFree_block (panicFree_block (panicFree_then (panicFree_then (panicFree_block (panicFree_then panicFree_body)))))))))) (fun _ h => h.cells) hT302 hE298 fun a303 hE304 => ?_
          clear hE298
          refine (Bool.eq_false_or_eq_true (y270 == ((k2 : Nat) : Int))).elim (fun hc305 => ?_) (fun hc305 => ?_)
          ·
            have hf306 : y270 = ((k2 : Nat) : Int) := by simpa using hc305
            have hE307 := hE304.cast (env' := [(0, .v (.slice A l.length c)), (1, .v (.int .i64 v)), (2, .v (.bool flex)), (7, .p 0 0), (9, .v (.slice A_ ((bodyB W l v (Tree.mk n1 s2 b3 l4 u5) 0).length) c_)), (10, .v (.slice A3_ ((tagsK W l (Tree.mk n1 s2 b3 l4 u5) k2 ++ dm).length) c3_)), (11, .v (.int .i64 ((tagsN W l (Tree.mk n1 s2 b3 l4 u5) k2 + cn : Nat) : Int))), (14, .v (.int .i64 ((k2 : Nat) : Int))), (15, .v (.int .i64 ((q : Nat) : Int))), (16, .p 1 0), (51, .v (.int .i64 (((knownI l).toNat : Nat) : Int))), (52, .v (.int .i64 ((k2 : Nat) : Int))), (55, .v (.slice A l.length c)), (56, .v (.int .i64 ((l.length : Nat) : Int))), (57, .v (.int .i64 ((q : Nat) : Int))), (66, .v (.bool true))]) (by rw [hc305])
            clear hE304
            refine go_rnD [5, 6, 7] [(0, .v (.slice A l.length c)), (1, .v (.int .i64 v)), (2, .v (.bool flex)), (7, .p 0 0), (9, .v (.slice A_ ((bodyB W l v (Tree.mk n1 s2 b3 l4 u5) 0).length) c_)), (10, .v (.slice A3_ ((tagsK W l (Tree.mk n1 s2 b3 l4 u5) k2 ++ dm).length) c3_)), (11, .v (.int .i64 ((tagsN W l (Tree.mk n1 s2 b3 l4 u5) k2 + cn : Nat) : Int))), (14, .v (.int .i64 ((k2 : Nat) : Int))), (15, .v (.int .i64 ((q : Nat) : Int))), (16, .p 1 0), (51, .v (.int .i64 (((knownI l).toNat : Nat) : Int))), (52, .v (.int .i64 ((k2 : Nat) : Int))), (55, .v (.slice A l.length c)), (56, .v (.int .i64 ((l.length : Nat) : Int))), (57, .v (.int .i64 ((q : Nat) : Int))), (66, .v (.bool true)), (67, .v (.agg #[.int .i64 k266, .int .i64 y267, .int .i64 y268, .int .i64 y269, .int .i64 y270, .int .i64 y271, .int .i64 y272, .slice A274 l273.length c275])), (68, .v (.agg #[.int .i64 n1, .slice A6 s2.length c7, .bool b3, .slice A8 l4.length c9, .slice A10 u5.length c11])), (69, .v (.int .i64 ((q : Nat) : Int)))] 4 (panicFree_then (panicFree_block (panicFree_then (panicFree_then (panicFree_block (panicFree_block (panicFree_then (panicFree_then (panicFree_block (panicFree_then panicFree_body)))))))))) (fun _ h => h.cells) hT302 hE307 fun a308 hE309 => ?_
            clear hE307
            refine anyC_op (i := 8) (by kernel_rfl) (wpOp_call hE309 (f := 37) (vs := [.agg #[.int .i64 n1, .slice A6 s2.length c7, .bool b3, .slice A8 l4.length c9, .slice A10 u5.length c11], .int .i64 ((q : Nat) : Int)]) (d := 70) (by kernel_rfl) Tryd.call37 (sAt _ _ q _ _ (ht.move hW301.step nilM hW301.imm)) ?_)
            rintro e_ w313 ⟨cs312, rfl, hr311, hs310⟩
            have hr314 := hr311.move hs310 nilM (fun b o h_ hb_ => hW301.laid (G := F) hs310 b o (.inl h_) (Nat.lt_of_lt_of_le hb_ hs310.size))
            obtain ⟨n315, s316, b317, l318, u319, A320, c321, A322, c323, A324, c325, xs326, ht332, hcs327, h328, h329, h330, h331⟩ := hr314.open_
            rw [hcs327] at hr314
            have hsm333 := h328.small
            have hsm334 := h329.small
            rw [hcs327]
            refine ⟨_, rfl, fun a335 hE336 => ?_⟩
            have hW337 := hW301.next_nil hs310
            have hF338 := hW301.frN hs310
            clear hE309
            have hT339 := TT.ofW hF338 hW337
            refine ⟨fun _ => hT339, ?_⟩
            refine anyC_op (i := 9) (by kernel_rfl) (wpOp_call hE336 (f := 39) (vs := [.agg #[.int .i64 k266, .int .i64 y267, .int .i64 y268, .int .i64 y269, .int .i64 y270, .int .i64 y271, .int .i64 y272, .slice A274 l273.length c275], .agg #[.int .i64 n315, .slice A320 s316.length c321, .bool b317, .slice A322 l318.length c323, .slice A324 u319.length c325]]) (d := 71) (by kernel_rfl) Tryd.call39 (sUsual _ _ _ _ _ _ _ (hr265.move hW337.step nilM hW337.imm) (Nat.le_refl _) hr314) ?_)
            rintro e_ w341 ⟨rfl, hs340⟩
            refine ⟨_, rfl, fun a342 hE343 => ?_⟩
            have hW344 := hW337.next_nil hs340
            have hF345 := hW337.frN hs340
            clear hE336 hW337
            have hT346 := TT.ofW (Fr.trans hF338 hF345) hW344
            refine ⟨fun _ => hT346, ?_⟩
            refine go_rnD [10, 11] [(0, .v (.slice A l.length c)), (1, .v (.int .i64 v)), (2, .v (.bool flex)), (7, .p 0 0), (9, .v (.slice A_ ((bodyB W l v (Tree.mk n1 s2 b3 l4 u5) 0).length) c_)), (10, .v (.slice A3_ ((tagsK W l (Tree.mk n1 s2 b3 l4 u5) k2 ++ dm).length) c3_)), (11, .v (.int .i64 ((tagsN W l (Tree.mk n1 s2 b3 l4 u5) k2 + cn : Nat) : Int))), (14, .v (.int .i64 ((k2 : Nat) : Int))), (15, .v (.int .i64 ((q : Nat) : Int))), (16, .p 1 0), (51, .v (.int .i64 (((knownI l).toNat : Nat) : Int))), (52, .v (.int .i64 ((k2 : Nat) : Int))), (55, .v (.slice A l.length c)), (56, .v (.int .i64 ((l.length : Nat) : Int))), (57, .v (.int .i64 ((q : Nat) : Int))), (73, .v (.bool (!(Fld.usual (Fld.mk k266 y267 y268 y269 y270 y271 y272 l273) (Tree.at_ (Tree.mk n1 s2 b3 l4 u5) q)))))] 0 (panicFree_then (panicFree_block (panicFree_then (panicFree_then (panicFree_block (panicFree_block (panicFree_then (panicFree_then (panicFree_block (panicFree_then panicFree_body)))))))))) (fun _ h => h.cells) hT346 hE343 fun a347 hE348 => ?_
            clear hE343
            refine anyC_done (by kernel_rfl) ?_ _
            refine then_normal ?_
            refine cond_of hE348 (b := !(Fld.usual (Fld.mk k266 y267 y268 y269 y270 y271 y272 l273) (Tree.at_ (Tree.mk n1 s2 b3 l4 u5) q))) (by kernel_rfl) (fun hc349 => ?_) (fun hc349 => ?_)
            ·
              refine go_seq_drawK 7 (by kernel_rfl) hW344 fun w351 hF352 hW353 hT354 => ?_
              clear hW344
              refine go_rnD [0, 1, 2, 3, 4] [(0, .v (.slice A l.length c)), (1, .v (.int .i64 v)), (2, .v (.bool flex)), (7, .p 0 0), (9, .v (.slice A_ ((bodyB W l v (Tree.mk n1 s2 b3 l4 u5) 0).length) c_)), (10, .v (.slice A3_ ((tagsK W l (Tree.mk n1 s2 b3 l4 u5) k2 ++ dm).length) c3_)), (11, .v (.int .i64 ((tagsN W l (Tree.mk n1 s2 b3 l4 u5) k2 + cn : Nat) : Int))), (14, .v (.int .i64 ((k2 : Nat) : Int))), (51, .v (.int .i64 (((knownI l).toNat : Nat) : Int))), (52, .v (.int .i64 ((k2 : Nat) : Int))), (55, .v (.slice A l.length c)), (56, .v (.int .i64 ((l.length : Nat) : Int))), (57, .v (.int .i64 ((q : Nat) : Int))), (74, .v (.agg #[.int .i64 k266, .int .i64 y267, .int .i64 y268, .int .i64 y269, .int .i64 y270, .int .i64 y271, .int .i64 y272, .slice A274 l273.length c275])), (75, .v (.int .i64 v)), (76, .v (.bool flex)), (77, .v (.agg #[.int .i64 n1, .slice A6 s2.length c7, .bool b3, .slice A8 l4.length c9, .slice A10 u5.length c11])), (78, .v (.int .i64 ((q : Nat) : Int)))] 3 (panicFree_then (panicFree_block (panicFree_then (panicFree_then (panicFree_block (panicFree_block (panicFree_then (panicFree_then (panicFree_block (panicFree_then panicFree_body)))))))))) (fun _ h => h.cells) hT354 hE348 fun a355 hE356 => ?_
              clear hE348
              refine anyC_op (i := 5) (by kernel_rfl) (wpOp_call hE356 (f := 37) (vs := [.agg #[.int .i64 n1, .slice A6 s2.length c7, .bool b3, .slice A8 l4.length c9, .slice A10 u5.length c11], .int .i64 ((q : Nat) : Int)]) (d := 79) (by kernel_rfl) Tryd.call37 (sAt _ _ q _ _ (ht.move hW353.step nilM hW353.imm)) ?_)
              rintro e_ w360 ⟨cs359, rfl, hr358, hs357⟩
              have hr361 := hr358.move hs357 nilM (fun b o h_ hb_ => hW353.laid (G := F) hs357 b o (.inl h_) (Nat.lt_of_lt_of_le hb_ hs357.size))
              obtain ⟨n362, s363, b364, l365, u366, A367, c368, A369, c370, A371, c372, xs373, ht379, hcs374, h375, h376, h377, h378⟩ := hr361.open_
              rw [hcs374] at hr361
              have hsm380 := h375.small
              have hsm381 := h376.small
              rw [hcs374]
              refine ⟨_, rfl, fun a382 hE383 => ?_⟩
              have hW384 := hW353.next_nil hs357
              have hF385 := hW353.frN hs357
              clear hE356
              have hT386 := TT.ofW hF385 hW384
              refine ⟨fun _ => hT386, ?_⟩
              refine anyC_op (i := 6) (by kernel_rfl) (wpOp_call hE383 (f := 66) (vs := [.agg #[.int .i64 k266, .int .i64 y267, .int .i64 y268, .int .i64 y269, .int .i64 y270, .int .i64 y271, .int .i64 y272, .slice A274 l273.length c275], .int .i64 v, .bool flex, .agg #[.int .i64 n362, .slice A367 s363.length c368, .bool b364, .slice A369 l365.length c370, .slice A371 u366.length c372]]) (d := 80) (by kernel_rfl) Tryd.call66 ( hW_ _ _ _ _ _ _ (List.mem_of_getElem? he264) (hr265.move hW384.step nilM hW384.imm) hr361 (by have h_ := congrArg List.length hB2; rw [tagB_pos he264 (by omega) (by simpa using hc349)] at h_; simp only [List.length_append] at h_; omega)) ?_)
              rintro e_ w391 ⟨A389, c390, rfl, ho388, hs387⟩
              refine ⟨_, rfl, fun a392 hE393 => ?_⟩
              obtain ⟨hW394, hF395⟩ := hW384.frFresh hs387 (brow A389 c390 5 (W (Fld.mk k266 y267 y268 y269 y270 y271 y272 l273) (Tree.at_ (Tree.mk n1 s2 b3 l4 u5) q))) (Nat.le_refl _) ho388
              clear hE383 hW384
              have hlw396 : (W (Fld.mk k266 y267 y268 y269 y270 y271 y272 l273) (Tree.at_ (Tree.mk n1 s2 b3 l4 u5) q)).length ≤ 1099511627776 := by have h_ := congrArg List.length hB2; rw [tagB_pos he264 (by omega) (by simpa using hc349)] at h_; simp only [List.length_append] at h_; omega
              have hT397 := TT.ofW (Fr.trans hF385 hF395) hW394
              refine ⟨fun _ => hT397, ?_⟩
              refine anyC_op (i := 7) (by kernel_rfl) (wpOp_pure [0, 1, 2, 7, 9, 10, 11, 14, 17, 51, 52, 55, 56, 57] hW394.cells hE393 (env' := [(0, .v (.slice A l.length c)), (1, .v (.int .i64 v)), (2, .v (.bool flex)), (7, .p 0 0), (9, .v (.slice A_ ((bodyB W l v (Tree.mk n1 s2 b3 l4 u5) 0).length) c_)), (10, .v (.slice A3_ ((tagsK W l (Tree.mk n1 s2 b3 l4 u5) k2 ++ dm).length) c3_)), (11, .v (.int .i64 ((tagsN W l (Tree.mk n1 s2 b3 l4 u5) k2 + cn : Nat) : Int))), (14, .v (.int .i64 ((k2 : Nat) : Int))), (17, .v (.slice A389 ((W (Fld.mk k266 y267 y268 y269 y270 y271 y272 l273) (Tree.at_ (Tree.mk n1 s2 b3 l4 u5) q)).length) c390)), (51, .v (.int .i64 (((knownI l).toNat : Nat) : Int))), (52, .v (.int .i64 ((k2 : Nat) : Int))), (55, .v (.slice A l.length c)), (56, .v (.int .i64 ((l.length : Nat) : Int))), (57, .v (.int .i64 ((q : Nat) : Int)))]) (by kernel_rfl) fun a398 hE399 => ?_)
              clear hE393
              refine ⟨fun h => absurd rfl h, ?_⟩
              refine anyC_done (by kernel_rfl) ?_ _
              refine then_normal ?_
              refine go_seq_region [0, 1, 2, 3, 4, 5, 6, 7, 8, 9, 10, 11, 12] (by kernel_rfl) ?_
              refine go_rn [0, 1, 2] [3, 4, 5, 6, 7, 8, 9, 10, 11, 12] [(0, .v (.slice A l.length c)), (1, .v (.int .i64 v)), (2, .v (.bool flex)), (7, .p 0 0), (9, .v (.slice A_ ((bodyB W l v (Tree.mk n1 s2 b3 l4 u5) 0).length) c_)), (11, .v (.int .i64 ((tagsN W l (Tree.mk n1 s2 b3 l4 u5) k2 + cn : Nat) : Int))), (14, .v (.int .i64 ((k2 : Nat) : Int))), (17, .v (.slice A389 ((W (Fld.mk k266 y267 y268 y269 y270 y271 y272 l273) (Tree.at_ (Tree.mk n1 s2 b3 l4 u5) q)).length) c390)), (51, .v (.int .i64 (((knownI l).toNat : Nat) : Int))), (52, .v (.int .i64 ((k2 : Nat) : Int))), (55, .v (.slice A l.length c)), (56, .v (.int .i64 ((l.length : Nat) : Int))), (57, .v (.int .i64 ((q : Nat) : Int))), (81, .v (.slice A3_ ((tagsK W l (Tree.mk n1 s2 b3 l4 u5) k2 ++ dm).length) c3_)), (83, .v (.int .u64 (IntKind.u64.wrap ((k2 : Nat) : Int))))] hW394 hE399 fun a400 hE401 => ?_
              clear hE399
              have he402 : IntKind.u64.wrap ((k2 : Nat) : Int) = ((k2 : Nat) : Int) := by simp only [wrap_u64, wrap_u32, wrap_u16, IntKind.wrap_i64, IntKind.wrap_i32]; omega
              have hE404 := EnvOk.pick hE401 (ks := [0, 1, 2, 7, 9, 11, 14, 17, 51, 52, 55, 56, 57, 81, 83]) (env' := [(0, .v (.slice A l.length c)), (1, .v (.int .i64 v)), (2, .v (.bool flex)), (7, .p 0 0), (9, .v (.slice A_ ((bodyB W l v (Tree.mk n1 s2 b3 l4 u5) 0).length) c_)), (11, .v (.int .i64 ((tagsN W l (Tree.mk n1 s2 b3 l4 u5) k2 + cn : Nat) : Int))), (14, .v (.int .i64 ((k2 : Nat) : Int))), (17, .v (.slice A389 ((W (Fld.mk k266 y267 y268 y269 y270 y271 y272 l273) (Tree.at_ (Tree.mk n1 s2 b3 l4 u5) q)).length) c390)), (51, .v (.int .i64 (((knownI l).toNat : Nat) : Int))), (52, .v (.int .i64 ((k2 : Nat) : Int))), (55, .v (.slice A l.length c)), (56, .v (.int .i64 ((l.length : Nat) : Int))), (57, .v (.int .i64 ((q : Nat) : Int))), (81, .v (.slice A3_ ((tagsK W l (Tree.mk n1 s2 b3 l4 u5) k2 ++ dm).length) c3_)), (83, .v (.int .u64 (IntKind.u64.wrap ((k2 : Nat) : Int))))]) (by kernel_rfl)
              have hE403 := hE404.cast (env' := [(0, .v (.slice A l.length c)), (1, .v (.int .i64 v)), (2, .v (.bool flex)), (7, .p 0 0), (9, .v (.slice A_ ((bodyB W l v (Tree.mk n1 s2 b3 l4 u5) 0).length) c_)), (11, .v (.int .i64 ((tagsN W l (Tree.mk n1 s2 b3 l4 u5) k2 + cn : Nat) : Int))), (14, .v (.int .i64 ((k2 : Nat) : Int))), (17, .v (.slice A389 ((W (Fld.mk k266 y267 y268 y269 y270 y271 y272 l273) (Tree.at_ (Tree.mk n1 s2 b3 l4 u5) q)).length) c390)), (51, .v (.int .i64 (((knownI l).toNat : Nat) : Int))), (52, .v (.int .i64 ((k2 : Nat) : Int))), (55, .v (.slice A l.length c)), (56, .v (.int .i64 ((l.length : Nat) : Int))), (57, .v (.int .i64 ((q : Nat) : Int))), (81, .v (.slice A3_ ((tagsK W l (Tree.mk n1 s2 b3 l4 u5) k2 ++ dm).length) c3_)), (83, .v (.int .u64 ((k2 : Nat) : Int)))]) (by rw [he402])
              clear hE401 hE404
              refine of_op (wpOp_call hE403 (f := 68) (vs := [.int .u64 ((k2 : Nat) : Int)]) (d := 84) (by kernel_rfl) Tryd.call68 (sUvarint k2 (by omega) _) ?_)
              rintro e_ w409 ⟨A407, c408, rfl, ho406, hs405⟩
              refine ⟨_, rfl, fun a410 hE411 => ?_⟩
              obtain ⟨hW412, hF413⟩ := hW394.frFresh hs405 (brow A407 c408 5 (uv k2)) (Nat.le_refl _) ho406
              clear hE403 hW394
              refine of_op (wpOp_append hW412 hE411 (k := 1) (d := 85) (t := 22) (e := 5) (size := 1) (bytes := 1) (A := A3_) (As := A407) (m0 := ((tagsK W l (Tree.mk n1 s2 b3 l4 u5) k2 ++ dm).length)) (c := c3_) (m := ((uv k2).length)) (cs := c408) (xs := (bc (tagsK W l (Tree.mk n1 s2 b3 l4 u5) k2 ++ dm))) (news := bc (uv k2)) (by kernel_rfl) (by kernel_rfl) rfl (own_src (hW412.own 3 _ rfl) (bc_one _)) (own_cap (hW412.own 3 _ rfl)) (by have h_ := congrArg List.length hB2; rw [tagB_pos he264 (by omega) (by simpa using hc349)] at h_; simp only [List.length_append] at h_ ⊢; omega) fun A414 c415 a416 w417 hF418 hW419 hE420 => ?_)
              clear hE411 hW412
              have er421 : (⟨A414, c415, 5, 1, (tagsK W l (Tree.mk n1 s2 b3 l4 u5) k2 ++ dm).length + (uv k2).length, bc (tagsK W l (Tree.mk n1 s2 b3 l4 u5) k2 ++ dm) ++ bc (uv k2)⟩ : Rw) = brow A414 c415 5 (tagsK W l (Tree.mk n1 s2 b3 l4 u5) k2 ++ dm ++ (uv k2)) := brow_eq (rfl) rfl
              obtain ⟨hW422, hF424⟩ := hW419.rowEq 1 [brow A_ c_ 5 (bodyB W l v (Tree.mk n1 s2 b3 l4 u5) 0), brow A414 c415 5 (tagsK W l (Tree.mk n1 s2 b3 l4 u5) k2 ++ dm ++ (uv k2)), brow A389 c390 5 (W (Fld.mk k266 y267 y268 y269 y270 y271 y272 l273) (Tree.at_ (Tree.mk n1 s2 b3 l4 u5) q)), brow A407 c408 5 (uv k2)] er421
              clear hW419
              have hE425 := EnvOk.pick hE420 (ks := [0, 1, 2, 7, 9, 11, 14, 17, 51, 52, 55, 56, 57, 81, 83, 84, 85]) (env' := [(0, .v (.slice A l.length c)), (1, .v (.int .i64 v)), (2, .v (.bool flex)), (7, .p 0 0), (9, .v (.slice A_ ((bodyB W l v (Tree.mk n1 s2 b3 l4 u5) 0).length) c_)), (11, .v (.int .i64 ((tagsN W l (Tree.mk n1 s2 b3 l4 u5) k2 + cn : Nat) : Int))), (14, .v (.int .i64 ((k2 : Nat) : Int))), (17, .v (.slice A389 ((W (Fld.mk k266 y267 y268 y269 y270 y271 y272 l273) (Tree.at_ (Tree.mk n1 s2 b3 l4 u5) q)).length) c390)), (51, .v (.int .i64 (((knownI l).toNat : Nat) : Int))), (52, .v (.int .i64 ((k2 : Nat) : Int))), (55, .v (.slice A l.length c)), (56, .v (.int .i64 ((l.length : Nat) : Int))), (57, .v (.int .i64 ((q : Nat) : Int))), (81, .v (.slice A3_ ((tagsK W l (Tree.mk n1 s2 b3 l4 u5) k2 ++ dm).length) c3_)), (83, .v (.int .u64 ((k2 : Nat) : Int))), (84, .v (.slice A407 ((uv k2).length) c408)), (85, .v (.slice A414 ((tagsK W l (Tree.mk n1 s2 b3 l4 u5) k2 ++ dm).length + (uv k2).length) c415))]) (by kernel_rfl)
              have hE423 := hE425.cast (env' := [(0, .v (.slice A l.length c)), (1, .v (.int .i64 v)), (2, .v (.bool flex)), (7, .p 0 0), (9, .v (.slice A_ ((bodyB W l v (Tree.mk n1 s2 b3 l4 u5) 0).length) c_)), (11, .v (.int .i64 ((tagsN W l (Tree.mk n1 s2 b3 l4 u5) k2 + cn : Nat) : Int))), (14, .v (.int .i64 ((k2 : Nat) : Int))), (17, .v (.slice A389 ((W (Fld.mk k266 y267 y268 y269 y270 y271 y272 l273) (Tree.at_ (Tree.mk n1 s2 b3 l4 u5) q)).length) c390)), (51, .v (.int .i64 (((knownI l).toNat : Nat) : Int))), (52, .v (.int .i64 ((k2 : Nat) : Int))), (55, .v (.slice A l.length c)), (56, .v (.int .i64 ((l.length : Nat) : Int))), (57, .v (.int .i64 ((q : Nat) : Int))), (81, .v (.slice A3_ ((tagsK W l (Tree.mk n1 s2 b3 l4 u5) k2 ++ dm).length) c3_)), (83, .v (.int .u64 ((k2 : Nat) : Int))), (84, .v (.slice A407 ((uv k2).length) c408)), (85, .v (.slice A414 ((tagsK W l (Tree.mk n1 s2 b3 l4 u5) k2 ++ dm ++ (uv k2)).length) c415))]) (by simp only [List.length_append, List.length_cons, List.length_nil, Nat.zero_add])
              clear hE420
              clear hE425
              refine go_rn [5, 6, 7] [8, 9, 10, 11, 12] [(0, .v (.slice A l.length c)), (1, .v (.int .i64 v)), (2, .v (.bool flex)), (7, .p 0 0), (9, .v (.slice A_ ((bodyB W l v (Tree.mk n1 s2 b3 l4 u5) 0).length) c_)), (11, .v (.int .i64 ((tagsN W l (Tree.mk n1 s2 b3 l4 u5) k2 + cn : Nat) : Int))), (14, .v (.int .i64 ((k2 : Nat) : Int))), (17, .v (.slice A389 ((W (Fld.mk k266 y267 y268 y269 y270 y271 y272 l273) (Tree.at_ (Tree.mk n1 s2 b3 l4 u5) q)).length) c390)), (51, .v (.int .i64 (((knownI l).toNat : Nat) : Int))), (52, .v (.int .i64 ((k2 : Nat) : Int))), (55, .v (.slice A l.length c)), (56, .v (.int .i64 ((l.length : Nat) : Int))), (57, .v (.int .i64 ((q : Nat) : Int))), (85, .v (.slice A414 ((tagsK W l (Tree.mk n1 s2 b3 l4 u5) k2 ++ dm ++ (uv k2)).length) c415)), (88, .v (.int .u64 (IntKind.u64.wrap (((W (Fld.mk k266 y267 y268 y269 y270 y271 y272 l273) (Tree.at_ (Tree.mk n1 s2 b3 l4 u5) q)).length : Nat) : Int))))] hW422 hE423 fun a426 hE427 => ?_
              clear hE423
              have he428 : IntKind.u64.wrap (((W (Fld.mk k266 y267 y268 y269 y270 y271 y272 l273) (Tree.at_ (Tree.mk n1 s2 b3 l4 u5) q)).length : Nat) : Int) = (((W (Fld.mk k266 y267 y268 y269 y270 y271 y272 l273) (Tree.at_ (Tree.mk n1 s2 b3 l4 u5) q)).length : Nat) : Int) := by simp only [wrap_u64, wrap_u32, wrap_u16, IntKind.wrap_i64, IntKind.wrap_i32]; omega
              have hE430 := EnvOk.pick hE427 (ks := [0, 1, 2, 7, 9, 11, 14, 17, 51, 52, 55, 56, 57, 85, 88]) (env' := [(0, .v (.slice A l.length c)), (1, .v (.int .i64 v)), (2, .v (.bool flex)), (7, .p 0 0), (9, .v (.slice A_ ((bodyB W l v (Tree.mk n1 s2 b3 l4 u5) 0).length) c_)), (11, .v (.int .i64 ((tagsN W l (Tree.mk n1 s2 b3 l4 u5) k2 + cn : Nat) : Int))), (14, .v (.int .i64 ((k2 : Nat) : Int))), (17, .v (.slice A389 ((W (Fld.mk k266 y267 y268 y269 y270 y271 y272 l273) (Tree.at_ (Tree.mk n1 s2 b3 l4 u5) q)).length) c390)), (51, .v (.int .i64 (((knownI l).toNat : Nat) : Int))), (52, .v (.int .i64 ((k2 : Nat) : Int))), (55, .v (.slice A l.length c)), (56, .v (.int .i64 ((l.length : Nat) : Int))), (57, .v (.int .i64 ((q : Nat) : Int))), (85, .v (.slice A414 ((tagsK W l (Tree.mk n1 s2 b3 l4 u5) k2 ++ dm ++ (uv k2)).length) c415)), (88, .v (.int .u64 (IntKind.u64.wrap (((W (Fld.mk k266 y267 y268 y269 y270 y271 y272 l273) (Tree.at_ (Tree.mk n1 s2 b3 l4 u5) q)).length : Nat) : Int))))]) (by kernel_rfl)
              have hE429 := hE430.cast (env' := [(0, .v (.slice A l.length c)), (1, .v (.int .i64 v)), (2, .v (.bool flex)), (7, .p 0 0), (9, .v (.slice A_ ((bodyB W l v (Tree.mk n1 s2 b3 l4 u5) 0).length) c_)), (11, .v (.int .i64 ((tagsN W l (Tree.mk n1 s2 b3 l4 u5) k2 + cn : Nat) : Int))), (14, .v (.int .i64 ((k2 : Nat) : Int))), (17, .v (.slice A389 ((W (Fld.mk k266 y267 y268 y269 y270 y271 y272 l273) (Tree.at_ (Tree.mk n1 s2 b3 l4 u5) q)).length) c390)), (51, .v (.int .i64 (((knownI l).toNat : Nat) : Int))), (52, .v (.int .i64 ((k2 : Nat) : Int))), (55, .v (.slice A l.length c)), (56, .v (.int .i64 ((l.length : Nat) : Int))), (57, .v (.int .i64 ((q : Nat) : Int))), (85, .v (.slice A414 ((tagsK W l (Tree.mk n1 s2 b3 l4 u5) k2 ++ dm ++ (uv k2)).length) c415)), (88, .v (.int .u64 (((W (Fld.mk k266 y267 y268 y269 y270 y271 y272 l273) (Tree.at_ (Tree.mk n1 s2 b3 l4 u5) q)).length : Nat) : Int)))]) (by rw [he428])
              clear hE427 hE430
              refine of_op (wpOp_call hE429 (f := 68) (vs := [.int .u64 (((W (Fld.mk k266 y267 y268 y269 y270 y271 y272 l273) (Tree.at_ (Tree.mk n1 s2 b3 l4 u5) q)).length : Nat) : Int)]) (d := 89) (by kernel_rfl) Tryd.call68 (sUvarint ((W (Fld.mk k266 y267 y268 y269 y270 y271 y272 l273) (Tree.at_ (Tree.mk n1 s2 b3 l4 u5) q)).length) (by omega) _) ?_)
              rintro e_ w435 ⟨A433, c434, rfl, ho432, hs431⟩
              refine ⟨_, rfl, fun a436 hE437 => ?_⟩
              obtain ⟨hW438, hF439⟩ := hW422.frFresh hs431 (brow A433 c434 5 (uv ((W (Fld.mk k266 y267 y268 y269 y270 y271 y272 l273) (Tree.at_ (Tree.mk n1 s2 b3 l4 u5) q)).length))) (Nat.le_refl _) ho432
              clear hE429 hW422
              refine of_op (wpOp_append hW438 hE437 (k := 1) (d := 90) (t := 22) (e := 5) (size := 1) (bytes := 1) (A := A414) (As := A433) (m0 := ((tagsK W l (Tree.mk n1 s2 b3 l4 u5) k2 ++ dm ++ (uv k2)).length)) (c := c415) (m := ((uv ((W (Fld.mk k266 y267 y268 y269 y270 y271 y272 l273) (Tree.at_ (Tree.mk n1 s2 b3 l4 u5) q)).length)).length)) (cs := c434) (xs := (bc (tagsK W l (Tree.mk n1 s2 b3 l4 u5) k2 ++ dm ++ (uv k2)))) (news := bc (uv ((W (Fld.mk k266 y267 y268 y269 y270 y271 y272 l273) (Tree.at_ (Tree.mk n1 s2 b3 l4 u5) q)).length))) (by kernel_rfl) (by kernel_rfl) rfl (own_src (hW438.own 4 _ rfl) (bc_one _)) (own_cap (hW438.own 4 _ rfl)) (by have h_ := congrArg List.length hB2; rw [tagB_pos he264 (by omega) (by simpa using hc349)] at h_; simp only [List.length_append] at h_ ⊢; omega) fun A440 c441 a442 w443 hF444 hW445 hE446 => ?_)
              clear hE437 hW438
              have er447 : (⟨A440, c441, 5, 1, (tagsK W l (Tree.mk n1 s2 b3 l4 u5) k2 ++ dm ++ (uv k2)).length + (uv ((W (Fld.mk k266 y267 y268 y269 y270 y271 y272 l273) (Tree.at_ (Tree.mk n1 s2 b3 l4 u5) q)).length)).length, bc (tagsK W l (Tree.mk n1 s2 b3 l4 u5) k2 ++ dm ++ (uv k2)) ++ bc (uv ((W (Fld.mk k266 y267 y268 y269 y270 y271 y272 l273) (Tree.at_ (Tree.mk n1 s2 b3 l4 u5) q)).length))⟩ : Rw) = brow A440 c441 5 (tagsK W l (Tree.mk n1 s2 b3 l4 u5) k2 ++ dm ++ (uv k2) ++ (uv ((W (Fld.mk k266 y267 y268 y269 y270 y271 y272 l273) (Tree.at_ (Tree.mk n1 s2 b3 l4 u5) q)).length))) := brow_eq (rfl) rfl
              obtain ⟨hW448, hF450⟩ := hW445.rowEq 1 [brow A_ c_ 5 (bodyB W l v (Tree.mk n1 s2 b3 l4 u5) 0), brow A440 c441 5 (tagsK W l (Tree.mk n1 s2 b3 l4 u5) k2 ++ dm ++ (uv k2) ++ (uv ((W (Fld.mk k266 y267 y268 y269 y270 y271 y272 l273) (Tree.at_ (Tree.mk n1 s2 b3 l4 u5) q)).length))), brow A389 c390 5 (W (Fld.mk k266 y267 y268 y269 y270 y271 y272 l273) (Tree.at_ (Tree.mk n1 s2 b3 l4 u5) q)), brow A407 c408 5 (uv k2), brow A433 c434 5 (uv ((W (Fld.mk k266 y267 y268 y269 y270 y271 y272 l273) (Tree.at_ (Tree.mk n1 s2 b3 l4 u5) q)).length))] er447
              clear hW445
              have hE451 := EnvOk.pick hE446 (ks := [0, 1, 2, 7, 9, 11, 14, 17, 51, 52, 55, 56, 57, 85, 88, 89, 90]) (env' := [(0, .v (.slice A l.length c)), (1, .v (.int .i64 v)), (2, .v (.bool flex)), (7, .p 0 0), (9, .v (.slice A_ ((bodyB W l v (Tree.mk n1 s2 b3 l4 u5) 0).length) c_)), (11, .v (.int .i64 ((tagsN W l (Tree.mk n1 s2 b3 l4 u5) k2 + cn : Nat) : Int))), (14, .v (.int .i64 ((k2 : Nat) : Int))), (17, .v (.slice A389 ((W (Fld.mk k266 y267 y268 y269 y270 y271 y272 l273) (Tree.at_ (Tree.mk n1 s2 b3 l4 u5) q)).length) c390)), (51, .v (.int .i64 (((knownI l).toNat : Nat) : Int))), (52, .v (.int .i64 ((k2 : Nat) : Int))), (55, .v (.slice A l.length c)), (56, .v (.int .i64 ((l.length : Nat) : Int))), (57, .v (.int .i64 ((q : Nat) : Int))), (85, .v (.slice A414 ((tagsK W l (Tree.mk n1 s2 b3 l4 u5) k2 ++ dm ++ (uv k2)).length) c415)), (88, .v (.int .u64 (((W (Fld.mk k266 y267 y268 y269 y270 y271 y272 l273) (Tree.at_ (Tree.mk n1 s2 b3 l4 u5) q)).length : Nat) : Int))), (89, .v (.slice A433 ((uv ((W (Fld.mk k266 y267 y268 y269 y270 y271 y272 l273) (Tree.at_ (Tree.mk n1 s2 b3 l4 u5) q)).length)).length) c434)), (90, .v (.slice A440 ((tagsK W l (Tree.mk n1 s2 b3 l4 u5) k2 ++ dm ++ (uv k2)).length + (uv ((W (Fld.mk k266 y267 y268 y269 y270 y271 y272 l273) (Tree.at_ (Tree.mk n1 s2 b3 l4 u5) q)).length)).length) c441))]) (by kernel_rfl)
              have hE449 := hE451.cast (env' := [(0, .v (.slice A l.length c)), (1, .v (.int .i64 v)), (2, .v (.bool flex)), (7, .p 0 0), (9, .v (.slice A_ ((bodyB W l v (Tree.mk n1 s2 b3 l4 u5) 0).length) c_)), (11, .v (.int .i64 ((tagsN W l (Tree.mk n1 s2 b3 l4 u5) k2 + cn : Nat) : Int))), (14, .v (.int .i64 ((k2 : Nat) : Int))), (17, .v (.slice A389 ((W (Fld.mk k266 y267 y268 y269 y270 y271 y272 l273) (Tree.at_ (Tree.mk n1 s2 b3 l4 u5) q)).length) c390)), (51, .v (.int .i64 (((knownI l).toNat : Nat) : Int))), (52, .v (.int .i64 ((k2 : Nat) : Int))), (55, .v (.slice A l.length c)), (56, .v (.int .i64 ((l.length : Nat) : Int))), (57, .v (.int .i64 ((q : Nat) : Int))), (85, .v (.slice A414 ((tagsK W l (Tree.mk n1 s2 b3 l4 u5) k2 ++ dm ++ (uv k2)).length) c415)), (88, .v (.int .u64 (((W (Fld.mk k266 y267 y268 y269 y270 y271 y272 l273) (Tree.at_ (Tree.mk n1 s2 b3 l4 u5) q)).length : Nat) : Int))), (89, .v (.slice A433 ((uv ((W (Fld.mk k266 y267 y268 y269 y270 y271 y272 l273) (Tree.at_ (Tree.mk n1 s2 b3 l4 u5) q)).length)).length) c434)), (90, .v (.slice A440 ((tagsK W l (Tree.mk n1 s2 b3 l4 u5) k2 ++ dm ++ (uv k2) ++ (uv ((W (Fld.mk k266 y267 y268 y269 y270 y271 y272 l273) (Tree.at_ (Tree.mk n1 s2 b3 l4 u5) q)).length))).length) c441))]) (by simp only [List.length_append, List.length_cons, List.length_nil, Nat.zero_add])
              clear hE446
              clear hE451
              refine go_rn [10] [11, 12] [(0, .v (.slice A l.length c)), (1, .v (.int .i64 v)), (2, .v (.bool flex)), (7, .p 0 0), (9, .v (.slice A_ ((bodyB W l v (Tree.mk n1 s2 b3 l4 u5) 0).length) c_)), (11, .v (.int .i64 ((tagsN W l (Tree.mk n1 s2 b3 l4 u5) k2 + cn : Nat) : Int))), (14, .v (.int .i64 ((k2 : Nat) : Int))), (51, .v (.int .i64 (((knownI l).toNat : Nat) : Int))), (52, .v (.int .i64 ((k2 : Nat) : Int))), (55, .v (.slice A l.length c)), (56, .v (.int .i64 ((l.length : Nat) : Int))), (57, .v (.int .i64 ((q : Nat) : Int))), (90, .v (.slice A440 ((tagsK W l (Tree.mk n1 s2 b3 l4 u5) k2 ++ dm ++ (uv k2) ++ (uv ((W (Fld.mk k266 y267 y268 y269 y270 y271 y272 l273) (Tree.at_ (Tree.mk n1 s2 b3 l4 u5) q)).length))).length) c441)), (91, .v (.slice A389 ((W (Fld.mk k266 y267 y268 y269 y270 y271 y272 l273) (Tree.at_ (Tree.mk n1 s2 b3 l4 u5) q)).length) c390))] hW448 hE449 fun a452 hE453 => ?_
              clear hE449
              refine of_op (wpOp_append hW448 hE453 (k := 1) (d := 92) (t := 22) (e := 5) (size := 1) (bytes := 1) (A := A440) (As := A389) (m0 := ((tagsK W l (Tree.mk n1 s2 b3 l4 u5) k2 ++ dm ++ (uv k2) ++ (uv ((W (Fld.mk k266 y267 y268 y269 y270 y271 y272 l273) (Tree.at_ (Tree.mk n1 s2 b3 l4 u5) q)).length))).length)) (c := c441) (m := ((W (Fld.mk k266 y267 y268 y269 y270 y271 y272 l273) (Tree.at_ (Tree.mk n1 s2 b3 l4 u5) q)).length)) (cs := c390) (xs := (bc (tagsK W l (Tree.mk n1 s2 b3 l4 u5) k2 ++ dm ++ (uv k2) ++ (uv ((W (Fld.mk k266 y267 y268 y269 y270 y271 y272 l273) (Tree.at_ (Tree.mk n1 s2 b3 l4 u5) q)).length))))) (news := bc (W (Fld.mk k266 y267 y268 y269 y270 y271 y272 l273) (Tree.at_ (Tree.mk n1 s2 b3 l4 u5) q))) (by kernel_rfl) (by kernel_rfl) rfl (own_src (hW448.own 2 _ rfl) (bc_one _)) (own_cap (hW448.own 2 _ rfl)) (by have h_ := congrArg List.length hB2; rw [tagB_pos he264 (by omega) (by simpa using hc349)] at h_; simp only [List.length_append] at h_ ⊢; omega) fun A454 c455 a456 w457 hF458 hW459 hE460 => ?_)
              clear hE453 hW448
              have er461 : (⟨A454, c455, 5, 1, (tagsK W l (Tree.mk n1 s2 b3 l4 u5) k2 ++ dm ++ (uv k2) ++ (uv ((W (Fld.mk k266 y267 y268 y269 y270 y271 y272 l273) (Tree.at_ (Tree.mk n1 s2 b3 l4 u5) q)).length))).length + (W (Fld.mk k266 y267 y268 y269 y270 y271 y272 l273) (Tree.at_ (Tree.mk n1 s2 b3 l4 u5) q)).length, bc (tagsK W l (Tree.mk n1 s2 b3 l4 u5) k2 ++ dm ++ (uv k2) ++ (uv ((W (Fld.mk k266 y267 y268 y269 y270 y271 y272 l273) (Tree.at_ (Tree.mk n1 s2 b3 l4 u5) q)).length))) ++ bc (W (Fld.mk k266 y267 y268 y269 y270 y271 y272 l273) (Tree.at_ (Tree.mk n1 s2 b3 l4 u5) q))⟩ : Rw) = brow A454 c455 5 (tagsK W l (Tree.mk n1 s2 b3 l4 u5) k2 ++ dm ++ (uv k2) ++ (uv ((W (Fld.mk k266 y267 y268 y269 y270 y271 y272 l273) (Tree.at_ (Tree.mk n1 s2 b3 l4 u5) q)).length)) ++ (W (Fld.mk k266 y267 y268 y269 y270 y271 y272 l273) (Tree.at_ (Tree.mk n1 s2 b3 l4 u5) q))) := brow_eq (rfl) rfl
              obtain ⟨hW462, hF464⟩ := hW459.rowEq 1 [brow A_ c_ 5 (bodyB W l v (Tree.mk n1 s2 b3 l4 u5) 0), brow A454 c455 5 (tagsK W l (Tree.mk n1 s2 b3 l4 u5) k2 ++ dm ++ (uv k2) ++ (uv ((W (Fld.mk k266 y267 y268 y269 y270 y271 y272 l273) (Tree.at_ (Tree.mk n1 s2 b3 l4 u5) q)).length)) ++ (W (Fld.mk k266 y267 y268 y269 y270 y271 y272 l273) (Tree.at_ (Tree.mk n1 s2 b3 l4 u5) q))), brow A389 c390 5 (W (Fld.mk k266 y267 y268 y269 y270 y271 y272 l273) (Tree.at_ (Tree.mk n1 s2 b3 l4 u5) q)), brow A407 c408 5 (uv k2), brow A433 c434 5 (uv ((W (Fld.mk k266 y267 y268 y269 y270 y271 y272 l273) (Tree.at_ (Tree.mk n1 s2 b3 l4 u5) q)).length))] er461
              clear hW459
              have hE465 := EnvOk.pick hE460 (ks := [0, 1, 2, 7, 9, 11, 14, 51, 52, 55, 56, 57, 90, 91, 92]) (env' := [(0, .v (.slice A l.length c)), (1, .v (.int .i64 v)), (2, .v (.bool flex)), (7, .p 0 0), (9, .v (.slice A_ ((bodyB W l v (Tree.mk n1 s2 b3 l4 u5) 0).length) c_)), (11, .v (.int .i64 ((tagsN W l (Tree.mk n1 s2 b3 l4 u5) k2 + cn : Nat) : Int))), (14, .v (.int .i64 ((k2 : Nat) : Int))), (51, .v (.int .i64 (((knownI l).toNat : Nat) : Int))), (52, .v (.int .i64 ((k2 : Nat) : Int))), (55, .v (.slice A l.length c)), (56, .v (.int .i64 ((l.length : Nat) : Int))), (57, .v (.int .i64 ((q : Nat) : Int))), (90, .v (.slice A440 ((tagsK W l (Tree.mk n1 s2 b3 l4 u5) k2 ++ dm ++ (uv k2) ++ (uv ((W (Fld.mk k266 y267 y268 y269 y270 y271 y272 l273) (Tree.at_ (Tree.mk n1 s2 b3 l4 u5) q)).length))).length) c441)), (91, .v (.slice A389 ((W (Fld.mk k266 y267 y268 y269 y270 y271 y272 l273) (Tree.at_ (Tree.mk n1 s2 b3 l4 u5) q)).length) c390)), (92, .v (.slice A454 ((tagsK W l (Tree.mk n1 s2 b3 l4 u5) k2 ++ dm ++ (uv k2) ++ (uv ((W (Fld.mk k266 y267 y268 y269 y270 y271 y272 l273) (Tree.at_ (Tree.mk n1 s2 b3 l4 u5) q)).length))).length + (W (Fld.mk k266 y267 y268 y269 y270 y271 y272 l273) (Tree.at_ (Tree.mk n1 s2 b3 l4 u5) q)).length) c455))]) (by kernel_rfl)
              have hE463 := hE465.cast (env' := [(0, .v (.slice A l.length c)), (1, .v (.int .i64 v)), (2, .v (.bool flex)), (7, .p 0 0), (9, .v (.slice A_ ((bodyB W l v (Tree.mk n1 s2 b3 l4 u5) 0).length) c_)), (11, .v (.int .i64 ((tagsN W l (Tree.mk n1 s2 b3 l4 u5) k2 + cn : Nat) : Int))), (14, .v (.int .i64 ((k2 : Nat) : Int))), (51, .v (.int .i64 (((knownI l).toNat : Nat) : Int))), (52, .v (.int .i64 ((k2 : Nat) : Int))), (55, .v (.slice A l.length c)), (56, .v (.int .i64 ((l.length : Nat) : Int))), (57, .v (.int .i64 ((q : Nat) : Int))), (90, .v (.slice A440 ((tagsK W l (Tree.mk n1 s2 b3 l4 u5) k2 ++ dm ++ (uv k2) ++ (uv ((W (Fld.mk k266 y267 y268 y269 y270 y271 y272 l273) (Tree.at_ (Tree.mk n1 s2 b3 l4 u5) q)).length))).length) c441)), (91, .v (.slice A389 ((W (Fld.mk k266 y267 y268 y269 y270 y271 y272 l273) (Tree.at_ (Tree.mk n1 s2 b3 l4 u5) q)).length) c390)), (92, .v (.slice A454 ((tagsK W l (Tree.mk n1 s2 b3 l4 u5) k2 ++ dm ++ (uv k2) ++ (uv ((W (Fld.mk k266 y267 y268 y269 y270 y271 y272 l273) (Tree.at_ (Tree.mk n1 s2 b3 l4 u5) q)).length)) ++ (W (Fld.mk k266 y267 y268 y269 y270 y271 y272 l273) (Tree.at_ (Tree.mk n1 s2 b3 l4 u5) q))).length) c455))]) (by simp only [List.length_append, List.length_cons, List.length_nil, Nat.zero_add])
              clear hE460
              clear hE465
              refine go_rn [12] [] [(0, .v (.slice A l.length c)), (1, .v (.int .i64 v)), (2, .v (.bool flex)), (7, .p 0 0), (9, .v (.slice A_ ((bodyB W l v (Tree.mk n1 s2 b3 l4 u5) 0).length) c_)), (10, .v (.slice A454 ((tagsK W l (Tree.mk n1 s2 b3 l4 u5) k2 ++ dm ++ (uv k2) ++ (uv ((W (Fld.mk k266 y267 y268 y269 y270 y271 y272 l273) (Tree.at_ (Tree.mk n1 s2 b3 l4 u5) q)).length)) ++ (W (Fld.mk k266 y267 y268 y269 y270 y271 y272 l273) (Tree.at_ (Tree.mk n1 s2 b3 l4 u5) q))).length) c455)), (11, .v (.int .i64 ((tagsN W l (Tree.mk n1 s2 b3 l4 u5) k2 + cn : Nat) : Int))), (14, .v (.int .i64 ((k2 : Nat) : Int))), (51, .v (.int .i64 (((knownI l).toNat : Nat) : Int))), (52, .v (.int .i64 ((k2 : Nat) : Int))), (55, .v (.slice A l.length c)), (56, .v (.int .i64 ((l.length : Nat) : Int))), (57, .v (.int .i64 ((q : Nat) : Int)))] hW462 hE463 fun a466 hE467 => ?_
              clear hE463
              refine wpOps_nil ?_
              refine then_normal ?_
              refine go_region [0, 1, 2] (by kernel_rfl) ?_
              refine go_rn [0, 1, 2] [] [(0, .v (.slice A l.length c)), (1, .v (.int .i64 v)), (2, .v (.bool flex)), (7, .p 0 0), (9, .v (.slice A_ ((bodyB W l v (Tree.mk n1 s2 b3 l4 u5) 0).length) c_)), (10, .v (.slice A454 ((tagsK W l (Tree.mk n1 s2 b3 l4 u5) k2 ++ dm ++ (uv k2) ++ (uv ((W (Fld.mk k266 y267 y268 y269 y270 y271 y272 l273) (Tree.at_ (Tree.mk n1 s2 b3 l4 u5) q)).length)) ++ (W (Fld.mk k266 y267 y268 y269 y270 y271 y272 l273) (Tree.at_ (Tree.mk n1 s2 b3 l4 u5) q))).length) c455)), (11, .v (.int .i64 (IntKind.i64.wrap (((tagsN W l (Tree.mk n1 s2 b3 l4 u5) k2 + cn : Nat) : Int) + 1)))), (14, .v (.int .i64 ((k2 : Nat) : Int))), (51, .v (.int .i64 (((knownI l).toNat : Nat) : Int))), (52, .v (.int .i64 ((k2 : Nat) : Int))), (55, .v (.slice A l.length c)), (56, .v (.int .i64 ((l.length : Nat) : Int))), (57, .v (.int .i64 ((q : Nat) : Int)))] hW462 hE467 fun a468 hE469 => ?_
              clear hE467
              refine wpOps_nil ?_
              refine block_normal ?_
              refine then_normal ?_
              refine go_region [0, 1] (by kernel_rfl) ?_
              refine go_rn [0, 1] [] [(0, .v (.slice A l.length c)), (1, .v (.int .i64 v)), (2, .v (.bool flex)), (7, .p 0 0), (9, .v (.slice A_ ((bodyB W l v (Tree.mk n1 s2 b3 l4 u5) 0).length) c_)), (10, .v (.slice A454 ((tagsK W l (Tree.mk n1 s2 b3 l4 u5) k2 ++ dm ++ (uv k2) ++ (uv ((W (Fld.mk k266 y267 y268 y269 y270 y271 y272 l273) (Tree.at_ (Tree.mk n1 s2 b3 l4 u5) q)).length)) ++ (W (Fld.mk k266 y267 y268 y269 y270 y271 y272 l273) (Tree.at_ (Tree.mk n1 s2 b3 l4 u5) q))).length) c455)), (11, .v (.int .i64 (IntKind.i64.wrap (((tagsN W l (Tree.mk n1 s2 b3 l4 u5) k2 + cn : Nat) : Int) + 1)))), (14, .v (.int .i64 ((k2 : Nat) : Int))), (51, .v (.int .i64 (((knownI l).toNat : Nat) : Int))), (52, .v (.int .i64 ((k2 : Nat) : Int))), (55, .v (.slice A l.length c)), (56, .v (.int .i64 ((l.length : Nat) : Int))), (57, .v (.int .i64 (IntKind.i64.wrap (((q : Nat) : Int) + 1))))] hW462 hE469 fun a470 hE471 => ?_
              clear hE469
              refine wpOps_nil ?_
              refine then_normal ?_
              obtain ⟨hE472, hW473, hF474⟩ := hW462.cutB hE471 1 [⟨b21, 0, [.int .i64 n1, .slice A6 s2.length c7, .bool b3, .slice A8 l4.length c9, .slice A10 u5.length c11], true⟩] [(0, .v (.slice A l.length c)), (1, .v (.int .i64 v)), (2, .v (.bool flex)), (7, .p 0 0), (9, .v (.slice A_ ((bodyB W l v (Tree.mk n1 s2 b3 l4 u5) 0).length) c_)), (10, .v (.slice A454 ((tagsK W l (Tree.mk n1 s2 b3 l4 u5) k2 ++ dm ++ (uv k2) ++ (uv ((W (Fld.mk k266 y267 y268 y269 y270 y271 y272 l273) (Tree.at_ (Tree.mk n1 s2 b3 l4 u5) q)).length)) ++ (W (Fld.mk k266 y267 y268 y269 y270 y271 y272 l273) (Tree.at_ (Tree.mk n1 s2 b3 l4 u5) q))).length) c455)), (11, .v (.int .i64 (IntKind.i64.wrap (((tagsN W l (Tree.mk n1 s2 b3 l4 u5) k2 + cn : Nat) : Int) + 1)))), (14, .v (.int .i64 ((k2 : Nat) : Int))), (51, .v (.int .i64 (((knownI l).toNat : Nat) : Int))), (52, .v (.int .i64 ((k2 : Nat) : Int))), (55, .v (.slice A l.length c)), (56, .v (.int .i64 ((l.length : Nat) : Int))), (57, .v (.int .i64 (IntKind.i64.wrap (((q : Nat) : Int) + 1))))]
              obtain ⟨hW475, hF476⟩ := hW473.cutR 2 [brow A_ c_ 5 (bodyB W l v (Tree.mk n1 s2 b3 l4 u5) 0), brow A454 c455 5 (tagsK W l (Tree.mk n1 s2 b3 l4 u5) k2 ++ dm ++ (uv k2) ++ (uv ((W (Fld.mk k266 y267 y268 y269 y270 y271 y272 l273) (Tree.at_ (Tree.mk n1 s2 b3 l4 u5) q)).length)) ++ (W (Fld.mk k266 y267 y268 y269 y270 y271 y272 l273) (Tree.at_ (Tree.mk n1 s2 b3 l4 u5) q)))]
              have er477 : (tagsK W l (Tree.mk n1 s2 b3 l4 u5) k2 ++ dm ++ (uv k2) ++ (uv ((W (Fld.mk k266 y267 y268 y269 y270 y271 y272 l273) (Tree.at_ (Tree.mk n1 s2 b3 l4 u5) q)).length)) ++ (W (Fld.mk k266 y267 y268 y269 y270 y271 y272 l273) (Tree.at_ (Tree.mk n1 s2 b3 l4 u5) q))) = (tagsK W l (Tree.mk n1 s2 b3 l4 u5) k2 ++ (dm ++ (uv k2 ++ uv (W (Fld.mk k266 y267 y268 y269 y270 y271 y272 l273) (Tree.at_ (Tree.mk n1 s2 b3 l4 u5) q)).length ++ W (Fld.mk k266 y267 y268 y269 y270 y271 y272 l273) (Tree.at_ (Tree.mk n1 s2 b3 l4 u5) q)))) := by simp only [List.append_assoc]
              have er478 := congrArg (brow A454 c455 5) er477
              obtain ⟨hW479, hF480⟩ := hW475.rowEq 1 [brow A_ c_ 5 (bodyB W l v (Tree.mk n1 s2 b3 l4 u5) 0), brow A454 c455 5 (tagsK W l (Tree.mk n1 s2 b3 l4 u5) k2 ++ (dm ++ (uv k2 ++ uv (W (Fld.mk k266 y267 y268 y269 y270 y271 y272 l273) (Tree.at_ (Tree.mk n1 s2 b3 l4 u5) q)).length ++ W (Fld.mk k266 y267 y268 y269 y270 y271 y272 l273) (Tree.at_ (Tree.mk n1 s2 b3 l4 u5) q))))] er478
              clear hW475
              rw [er477] at hE472
              have he481 : IntKind.i64.wrap (((q : Nat) : Int) + 1) = ((q + 1 : Nat) : Int) := wrap_succ (by omega)
              rw [he481] at hE472
              have he482 : IntKind.i64.wrap (((tagsN W l (Tree.mk n1 s2 b3 l4 u5) k2 + cn : Nat) : Int) + 1) = ((tagsN W l (Tree.mk n1 s2 b3 l4 u5) k2 + (cn + 1) : Nat) : Int) := by rw [wrap_i64 (by omega) (by omega)]; omega
              rw [he482] at hE472
              exact ⟨l.length - (q + 1), by omega, q + 1, A454, c455, (dm ++ (uv k2 ++ uv (W (Fld.mk k266 y267 y268 y269 y270 y271 y272 l273) (Tree.at_ (Tree.mk n1 s2 b3 l4 u5) q)).length ++ W (Fld.mk k266 y267 y268 y269 y270 y271 y272 l273) (Tree.at_ (Tree.mk n1 s2 b3 l4 u5) q))), (cn + 1), rfl, by omega, by rw [List.append_assoc, ← tagB_pos he264 (by omega) (by simpa using hc349)]; exact hB2, by rw [Nat.add_assoc, ← tagN_pos he264 (by omega) (by simpa using hc349)]; exact hN2, hE472.pk, hW479, (Fr.trans (Fr.trans (Fr.trans (Fr.trans (Fr.trans (Fr.trans (Fr.trans (Fr.trans (Fr.trans (Fr.trans (Fr.trans (Fr.trans (Fr.trans (Fr.trans (Fr.trans (Fr.trans (Fr.trans (Fr.trans (Fr.trans hF251 hF290) hF296) hF300) hF338) hF345) hF352) hF385) hF395) hF413) hF418) hF424) hF439) hF444) hF450) hF458) hF464) hF474) hF476) hF480)⟩
            ·
              refine wp_skip ?_
              refine block_normal ?_
              refine then_normal ?_
              refine go_region [0, 1] (by kernel_rfl) ?_
              refine go_rn [0, 1] [] [(0, .v (.slice A l.length c)), (1, .v (.int .i64 v)), (2, .v (.bool flex)), (7, .p 0 0), (9, .v (.slice A_ ((bodyB W l v (Tree.mk n1 s2 b3 l4 u5) 0).length) c_)), (10, .v (.slice A3_ ((tagsK W l (Tree.mk n1 s2 b3 l4 u5) k2 ++ dm).length) c3_)), (11, .v (.int .i64 ((tagsN W l (Tree.mk n1 s2 b3 l4 u5) k2 + cn : Nat) : Int))), (14, .v (.int .i64 ((k2 : Nat) : Int))), (51, .v (.int .i64 (((knownI l).toNat : Nat) : Int))), (52, .v (.int .i64 ((k2 : Nat) : Int))), (55, .v (.slice A l.length c)), (56, .v (.int .i64 ((l.length : Nat) : Int))), (57, .v (.int .i64 (IntKind.i64.wrap (((q : Nat) : Int) + 1))))] hW344 hE348 fun a484 hE485 => ?_
              clear hE348
              refine wpOps_nil ?_
              refine then_normal ?_
              obtain ⟨hE486, hW487, hF488⟩ := hW344.cutB hE485 1 [⟨b21, 0, [.int .i64 n1, .slice A6 s2.length c7, .bool b3, .slice A8 l4.length c9, .slice A10 u5.length c11], true⟩] [(0, .v (.slice A l.length c)), (1, .v (.int .i64 v)), (2, .v (.bool flex)), (7, .p 0 0), (9, .v (.slice A_ ((bodyB W l v (Tree.mk n1 s2 b3 l4 u5) 0).length) c_)), (10, .v (.slice A3_ ((tagsK W l (Tree.mk n1 s2 b3 l4 u5) k2 ++ dm).length) c3_)), (11, .v (.int .i64 ((tagsN W l (Tree.mk n1 s2 b3 l4 u5) k2 + cn : Nat) : Int))), (14, .v (.int .i64 ((k2 : Nat) : Int))), (51, .v (.int .i64 (((knownI l).toNat : Nat) : Int))), (52, .v (.int .i64 ((k2 : Nat) : Int))), (55, .v (.slice A l.length c)), (56, .v (.int .i64 ((l.length : Nat) : Int))), (57, .v (.int .i64 (IntKind.i64.wrap (((q : Nat) : Int) + 1))))]
              have he489 : IntKind.i64.wrap (((q : Nat) : Int) + 1) = ((q + 1 : Nat) : Int) := wrap_succ (by omega)
              rw [he489] at hE486
              exact ⟨l.length - (q + 1), by omega, q + 1, A3_, c3_, dm, cn, rfl, by omega, by rw [← tagB_neg2 he264 (by simpa using hc349)]; exact hB2, by rw [← tagN_neg2 he264 (by simpa using hc349)]; exact hN2, hE486.pk, hW487, (Fr.trans (Fr.trans (Fr.trans (Fr.trans (Fr.trans (Fr.trans hF251 hF290) hF296) hF300) hF338) hF345) hF488)⟩
          ·
            have hf490 : y270 ≠ ((k2 : Nat) : Int) := by simpa using hc305
            have hE491 := hE304.cast (env' := [(0, .v (.slice A l.length c)), (1, .v (.int .i64 v)), (2, .v (.bool flex)), (7, .p 0 0), (9, .v (.slice A_ ((bodyB W l v (Tree.mk n1 s2 b3 l4 u5) 0).length) c_)), (10, .v (.slice A3_ ((tagsK W l (Tree.mk n1 s2 b3 l4 u5) k2 ++ dm).length) c3_)), (11, .v (.int .i64 ((tagsN W l (Tree.mk n1 s2 b3 l4 u5) k2 + cn : Nat) : Int))), (14, .v (.int .i64 ((k2 : Nat) : Int))), (15, .v (.int .i64 ((q : Nat) : Int))), (16, .p 1 0), (51, .v (.int .i64 (((knownI l).toNat : Nat) : Int))), (52, .v (.int .i64 ((k2 : Nat) : Int))), (55, .v (.slice A l.length c)), (56, .v (.int .i64 ((l.length : Nat) : Int))), (57, .v (.int .i64 ((q : Nat) : Int))), (66, .v (.bool false))]) (by rw [hc305])
            clear hE304
            refine go_rnD [5, 6, 7, 8, 9, 10, 11] [(0, .v (.slice A l.length c)), (1, .v (.int .i64 v)), (2, .v (.bool flex)), (7, .p 0 0), (9, .v (.slice A_ ((bodyB W l v (Tree.mk n1 s2 b3 l4 u5) 0).length) c_)), (10, .v (.slice A3_ ((tagsK W l (Tree.mk n1 s2 b3 l4 u5) k2 ++ dm).length) c3_)), (11, .v (.int .i64 ((tagsN W l (Tree.mk n1 s2 b3 l4 u5) k2 + cn : Nat) : Int))), (14, .v (.int .i64 ((k2 : Nat) : Int))), (15, .v (.int .i64 ((q : Nat) : Int))), (16, .p 1 0), (51, .v (.int .i64 (((knownI l).toNat : Nat) : Int))), (52, .v (.int .i64 ((k2 : Nat) : Int))), (55, .v (.slice A l.length c)), (56, .v (.int .i64 ((l.length : Nat) : Int))), (57, .v (.int .i64 ((q : Nat) : Int))), (73, .v (.bool false))] 0 (panicFree_then (panicFree_block (panicFree_then (panicFree_then (panicFree_block (panicFree_block (panicFree_then (panicFree_then (panicFree_block (panicFree_then panicFree_body)))))))))) (fun _ h => h.cells) hT302 hE491 fun a492 hE493 => ?_
            clear hE491
            refine anyC_done (by kernel_rfl) ?_ _
            refine then_normal ?_
            refine cond_false hE493 (b := false) (by kernel_rfl) rfl ?_
            refine wp_skip ?_
            refine block_normal ?_
            refine then_normal ?_
            refine go_region [0, 1] (by kernel_rfl) ?_
            refine go_rn [0, 1] [] [(0, .v (.slice A l.length c)), (1, .v (.int .i64 v)), (2, .v (.bool flex)), (7, .p 0 0), (9, .v (.slice A_ ((bodyB W l v (Tree.mk n1 s2 b3 l4 u5) 0).length) c_)), (10, .v (.slice A3_ ((tagsK W l (Tree.mk n1 s2 b3 l4 u5) k2 ++ dm).length) c3_)), (11, .v (.int .i64 ((tagsN W l (Tree.mk n1 s2 b3 l4 u5) k2 + cn : Nat) : Int))), (14, .v (.int .i64 ((k2 : Nat) : Int))), (51, .v (.int .i64 (((knownI l).toNat : Nat) : Int))), (52, .v (.int .i64 ((k2 : Nat) : Int))), (55, .v (.slice A l.length c)), (56, .v (.int .i64 ((l.length : Nat) : Int))), (57, .v (.int .i64 (IntKind.i64.wrap (((q : Nat) : Int) + 1))))] hW301 hE493 fun a494 hE495 => ?_
            clear hE493
            refine wpOps_nil ?_
            refine then_normal ?_
            obtain ⟨hE496, hW497, hF498⟩ := hW301.cutB hE495 1 [⟨b21, 0, [.int .i64 n1, .slice A6 s2.length c7, .bool b3, .slice A8 l4.length c9, .slice A10 u5.length c11], true⟩] [(0, .v (.slice A l.length c)), (1, .v (.int .i64 v)), (2, .v (.bool flex)), (7, .p 0 0), (9, .v (.slice A_ ((bodyB W l v (Tree.mk n1 s2 b3 l4 u5) 0).length) c_)), (10, .v (.slice A3_ ((tagsK W l (Tree.mk n1 s2 b3 l4 u5) k2 ++ dm).length) c3_)), (11, .v (.int .i64 ((tagsN W l (Tree.mk n1 s2 b3 l4 u5) k2 + cn : Nat) : Int))), (14, .v (.int .i64 ((k2 : Nat) : Int))), (51, .v (.int .i64 (((knownI l).toNat : Nat) : Int))), (52, .v (.int .i64 ((k2 : Nat) : Int))), (55, .v (.slice A l.length c)), (56, .v (.int .i64 ((l.length : Nat) : Int))), (57, .v (.int .i64 (IntKind.i64.wrap (((q : Nat) : Int) + 1))))]
            have he499 : IntKind.i64.wrap (((q : Nat) : Int) + 1) = ((q + 1 : Nat) : Int) := wrap_succ (by omega)
            rw [he499] at hE496
            exact ⟨l.length - (q + 1), by omega, q + 1, A3_, c3_, dm, cn, rfl, by omega, by rw [← tagB_neg1 he264 (by omega)]; exact hB2, by rw [← tagN_neg1 he264 (by omega)]; exact hN2, hE496.pk, hW497, (Fr.trans (Fr.trans (Fr.trans (Fr.trans hF251 hF290) hF296) hF300) hF498)⟩
        ·
          have hf500 := of_decide_eq_false hc254
          refine wp_exit ?_
          refine then_exit ?_
          refine then_exit ?_
          refine block_exit ?_
          refine block_normal ?_
          refine then_normal ?_
          refine go_region [0, 1] (by kernel_rfl) ?_
          refine go_rn [0, 1] [] [(0, .v (.slice A l.length c)), (1, .v (.int .i64 v)), (2, .v (.bool flex)), (7, .p 0 0), (9, .v (.slice A_ ((bodyB W l v (Tree.mk n1 s2 b3 l4 u5) 0).length) c_)), (10, .v (.slice A3_ ((tagsK W l (Tree.mk n1 s2 b3 l4 u5) k2 ++ dm).length) c3_)), (11, .v (.int .i64 ((tagsN W l (Tree.mk n1 s2 b3 l4 u5) k2 + cn : Nat) : Int))), (51, .v (.int .i64 (((knownI l).toNat : Nat) : Int))), (52, .v (.int .i64 (IntKind.i64.wrap (((k2 : Nat) : Int) + 1))))] hW248 hE253 fun a501 hE502 => ?_
          clear hE253
          refine wpOps_nil ?_
          refine then_normal ?_
          have er503 : (tagsK W l (Tree.mk n1 s2 b3 l4 u5) k2 ++ dm) = (tagsK W l (Tree.mk n1 s2 b3 l4 u5) (k2 + 1)) := by rw [tagsK, ← hB2, tagB_end (by omega), List.append_nil]
          have er504 := congrArg (brow A3_ c3_ 5) er503
          obtain ⟨hW505, hF506⟩ := hW248.rowEq 1 [brow A_ c_ 5 (bodyB W l v (Tree.mk n1 s2 b3 l4 u5) 0), brow A3_ c3_ 5 (tagsK W l (Tree.mk n1 s2 b3 l4 u5) (k2 + 1))] er504
          clear hW248
          rw [er503] at hE502
          have he507 : IntKind.i64.wrap (((k2 : Nat) : Int) + 1) = ((k2 + 1 : Nat) : Int) := wrap_succ (by omega)
          rw [he507] at hE502
          have he508 : ((tagsN W l (Tree.mk n1 s2 b3 l4 u5) k2 + cn : Nat) : Int) = ((tagsN W l (Tree.mk n1 s2 b3 l4 u5) (k2 + 1) : Nat) : Int) := by rw [tagsN, ← hN2, tagN_end (by omega), Nat.add_zero]
          rw [he508] at hE502
          exact ⟨(knownI l).toNat - (k2 + 1), by omega, k2 + 1, A3_, c3_, rfl, by omega, hE502.pk, hW505, (Fr.trans (Fr.trans (Fr.trans hF231 hF243) hF251) hF506)⟩
      ·
        have hf509 := of_decide_eq_false hc234
        refine wp_exit ?_
        refine then_exit ?_
        refine then_exit ?_
        refine block_exit ?_
        refine then_normal ?_
        refine wp_seq ?_
        refine go_seq_region [0, 1, 2, 3, 4, 5] (by kernel_rfl) ?_
        refine go_rn [0, 1, 2] [3, 4, 5] [(9, .v (.slice A_ ((bodyB W l v (Tree.mk n1 s2 b3 l4 u5) 0).length) c_)), (10, .v (.slice A2_ ((tagsK W l (Tree.mk n1 s2 b3 l4 u5) k2).length) c2_)), (11, .v (.int .i64 ((tagsN W l (Tree.mk n1 s2 b3 l4 u5) k2 : Nat) : Int))), (97, .v (.slice A l.length c)), (99, .v (.slice A10 u5.length c11))] hW228 hE233 fun a510 hE511 => ?_
        clear hE233
        refine of_op (wpOp_call hE511 (f := 42) (vs := [.slice A l.length c, .slice A10 u5.length c11]) (d := 100) (by kernel_rfl) Tryd.call42 (sUnknown _ _ l _ _ u5 _ _ ⟨xfs, (h1.move hW228.step nilM hW228.imm), (fun i_ x_ h_ => ((h2 i_ x_ h_).move hW228.step nilM hW228.imm))⟩ (h17.move hW228.step nilM hW228.imm)) ?_)
        rintro e_ w516 ⟨A514, c515, rfl, hr513, hs512⟩
        have hr517 := hr513.move (Step.refl _ Nil) nilM (hW228.laid (G := F) hs512)
        refine ⟨_, rfl, fun a518 hE519 => ?_⟩
        have hW520 := hW228.next_nil hs512
        have hF521 := hW228.frN hs512
        clear hE511
        refine go_rn [4, 5] [] [(9, .v (.slice A_ ((bodyB W l v (Tree.mk n1 s2 b3 l4 u5) 0).length) c_)), (10, .v (.slice A2_ ((tagsK W l (Tree.mk n1 s2 b3 l4 u5) k2).length) c2_)), (11, .v (.int .i64 ((tagsN W l (Tree.mk n1 s2 b3 l4 u5) k2 : Nat) : Int))), (100, .v (.slice A514 ((unknownT l u5).length) c515)), (101, .v (.int .i64 (((unknownT l u5).length : Nat) : Int))), (102, .v (.int .i64 0))] hW520 hE519 fun a522 hE523 => ?_
        clear hE519
        refine wpOps_nil ?_
        refine then_normal ?_
        refine wp_block ?_
        obtain ⟨cs524, h525, h526⟩ := hr517.ex
        have hsm527 := h525.small
        have hkk2 : k2 = (knownI l).toNat := by omega
        have hc2 := hcnt k2
        have hm2 := hmono k2 (by omega)
        have er528 : (tagsK W l (Tree.mk n1 s2 b3 l4 u5) k2) = (tagsK W l (Tree.mk n1 s2 b3 l4 u5) k2 ++ tagsB ((unknownT l u5).take 0)) := (List.append_nil _).symm
        have er529 := congrArg (brow A2_ c2_ 5) er528
        obtain ⟨hW530, hF531⟩ := hW520.rowEq 1 [brow A_ c_ 5 (bodyB W l v (Tree.mk n1 s2 b3 l4 u5) 0), brow A2_ c2_ 5 (tagsK W l (Tree.mk n1 s2 b3 l4 u5) k2 ++ tagsB ((unknownT l u5).take 0))] er529
        clear hW520
        rw [er528] at hE523
        refine wp_loop_ghost (fun n_ a_ w_ => ∃ (k : Nat) (A4_ : Option Addr) (c4_ : Nat), n_ = (unknownT l u5).length - k ∧ k ≤ (unknownT l u5).length ∧ LInv hW530 132 [⟨b21, 0, [.int .i64 n1, .slice A6 s2.length c7, .bool b3, .slice A8 l4.length c9, .slice A10 u5.length c11], true⟩] [brow A_ c_ 5 (bodyB W l v (Tree.mk n1 s2 b3 l4 u5) 0), brow A4_ c4_ 5 (tagsK W l (Tree.mk n1 s2 b3 l4 u5) k2 ++ tagsB ((unknownT l u5).take k))] [(9, .v (.slice A_ ((bodyB W l v (Tree.mk n1 s2 b3 l4 u5) 0).length) c_)), (10, .v (.slice A4_ ((tagsK W l (Tree.mk n1 s2 b3 l4 u5) k2 ++ tagsB ((unknownT l u5).take k)).length) c4_)), (11, .v (.int .i64 ((tagsN W l (Tree.mk n1 s2 b3 l4 u5) k2 + k : Nat) : Int))), (100, .v (.slice A514 ((unknownT l u5).length) c515)), (101, .v (.int .i64 (((unknownT l u5).length : Nat) : Int))), (102, .v (.int .i64 ((k : Nat) : Int)))] a_ w_) ((unknownT l u5).length) ⟨0, A2_, c2_, by omega, by omega, hE523.pk, hW530, Fr.refl _ _ _⟩ ?_
        clear hE523
        rintro n532 a533 w534 ⟨k, A4_, c4_, hn537, hk538, hE535, hW536, hF539⟩
        refine go_sp [(9, .v (.slice A_ ((bodyB W l v (Tree.mk n1 s2 b3 l4 u5) 0).length) c_)), (10, .v (.slice A4_ ((tagsK W l (Tree.mk n1 s2 b3 l4 u5) k2 ++ tagsB ((unknownT l u5).take k)).length) c4_)), (11, .v (.int .i64 ((tagsN W l (Tree.mk n1 s2 b3 l4 u5) k2 + k : Nat) : Int))), (100, .v (.slice A514 ((unknownT l u5).length) c515)), (101, .v (.int .i64 (((unknownT l u5).length : Nat) : Int))), (102, .v (.int .i64 ((k : Nat) : Int))), (103, .v (.bool (decide (((k : Nat) : Int) < (((unknownT l u5).length : Nat) : Int)))))] hW536 hE535 fun a540 hE541 => ?_
        clear hE535
        refine wp_seq ?_
        refine cond_of hE541 (b := decide (((k : Nat) : Int) < (((unknownT l u5).length : Nat) : Int))) (by kernel_rfl) (fun hc542 => ?_) (fun hc542 => ?_)
        ·
          have hf543 := of_decide_eq_true hc542
          refine wp_skip ?_
          refine then_normal ?_
          refine wp_seq ?_
          refine wp_block ?_
          refine go_seq_region [0, 1, 2, 3] (by kernel_rfl) ?_
          obtain ⟨b544, o545, hA546, hl547, hat548⟩ := Slots.get h525 (i := k) (by omega)
          obtain ⟨⟨k549, s550⟩, he551⟩ : ∃ x, (unknownT l u5)[k]? = some x := ⟨_, List.getElem?_eq_getElem (by omega)⟩
          obtain ⟨⟨A552, c553, hcs554, hb555⟩, h556, h557⟩ := h526 k k549 s550 he551
          rw [hcs554] at hat548
          refine of_op (wpOp_index hE541 (t := 24) (A := A514) (m := ((unknownT l u5).length)) (q := ((k : Nat) : Int)) (d := 104) (by kernel_rfl) (e := 70) (size := 2) (bytes := 32) (by kernel_rfl) hA546 rfl (by omega) fun a558 hE559 => ?_)
          clear hE541
          refine of_op (wpOp_load hE559 (t := 70) (b := b544) (o := o545 + k * 2) (d := 105) (by kernel_rfl) (cs := [.int .u32 k549, .slice A552 s550.length c553]) (v := .agg #[.int .u32 k549, .slice A552 s550.length c553]) (by kernel_rfl) (AtF.move hat548 (Fr.trans hF531 hF539).step immM (Fr.trans hF531 hF539).to').at_ fun a560 hE561 => ?_)
          clear hE559
          refine of_op (wpOp_alloc hW536 hE561 (d := 19) (cs := [.int .u32 0, .slice none 0 0]) (by kernel_rfl) fun b562 a563 w564 hb565 hz566 hF567 hW568 hE569 => ?_)
          clear hE561 hW536
          refine of_op (wpOp_store hW568 hE569 (oi := 1) (cs := [.int .u32 k549, .slice A552 s550.length c553]) (by kernel_rfl) fun w570 hF571 hW572 hE573 => ?_)
          clear hE569 hW568
          refine wpOps_nil ?_
          refine then_normal ?_
          refine go_seq_region [0, 1, 2, 3] (by kernel_rfl) ?_
          refine go_rn [0, 1] [2, 3] [(9, .v (.slice A_ ((bodyB W l v (Tree.mk n1 s2 b3 l4 u5) 0).length) c_)), (10, .v (.slice A4_ ((tagsK W l (Tree.mk n1 s2 b3 l4 u5) k2 ++ tagsB ((unknownT l u5).take k)).length) c4_)), (11, .v (.int .i64 ((tagsN W l (Tree.mk n1 s2 b3 l4 u5) k2 + k : Nat) : Int))), (19, .p 1 0), (100, .v (.slice A514 ((unknownT l u5).length) c515)), (101, .v (.int .i64 (((unknownT l u5).length : Nat) : Int))), (102, .v (.int .i64 ((k : Nat) : Int))), (107, .v (.slice A552 s550.length c553))] hW572 hE573 fun a574 hE575 => ?_
          clear hE573
          have hwl577 := whole_le s550
          refine of_op (wpOp_call hE575 (f := 43) (vs := [.slice A552 s550.length c553]) (d := 108) (by kernel_rfl) Tryd.call43 (sWhole _ _ s550 (hb555.move (Fr.trans (Fr.trans (Fr.trans hF531 hF539) hF567) hF571).step immM (Fr.trans (Fr.trans (Fr.trans hF531 hF539) hF567) hF571).to').le _) ?_)
          rintro e_ w578 ⟨rfl, hs576⟩
          refine ⟨_, rfl, fun a579 hE580 => ?_⟩
          have hW581 := hW572.next_nil hs576
          have hF582 := hW572.frN hs576
          clear hE575 hW572
          refine go_rn [3] [] [(9, .v (.slice A_ ((bodyB W l v (Tree.mk n1 s2 b3 l4 u5) 0).length) c_)), (10, .v (.slice A4_ ((tagsK W l (Tree.mk n1 s2 b3 l4 u5) k2 ++ tagsB ((unknownT l u5).take k)).length) c4_)), (11, .v (.int .i64 ((tagsN W l (Tree.mk n1 s2 b3 l4 u5) k2 + k : Nat) : Int))), (19, .p 1 0), (20, .v (.slice A552 ((whole s550).length) c553)), (100, .v (.slice A514 ((unknownT l u5).length) c515)), (101, .v (.int .i64 (((unknownT l u5).length : Nat) : Int))), (102, .v (.int .i64 ((k : Nat) : Int)))] hW581 hE580 fun a583 hE584 => ?_
          clear hE580
          refine wpOps_nil ?_
          refine then_normal ?_
          refine go_seq_region [0, 1, 2, 3, 4, 5, 6, 7, 8, 9, 10, 11, 12, 13] (by kernel_rfl) ?_
          refine go_rn [0, 1, 2, 3] [4, 5, 6, 7, 8, 9, 10, 11, 12, 13] [(9, .v (.slice A_ ((bodyB W l v (Tree.mk n1 s2 b3 l4 u5) 0).length) c_)), (11, .v (.int .i64 ((tagsN W l (Tree.mk n1 s2 b3 l4 u5) k2 + k : Nat) : Int))), (20, .v (.slice A552 ((whole s550).length) c553)), (100, .v (.slice A514 ((unknownT l u5).length) c515)), (101, .v (.int .i64 (((unknownT l u5).length : Nat) : Int))), (102, .v (.int .i64 ((k : Nat) : Int))), (109, .v (.slice A4_ ((tagsK W l (Tree.mk n1 s2 b3 l4 u5) k2 ++ tagsB ((unknownT l u5).take k)).length) c4_)), (112, .v (.int .u64 (IntKind.u64.wrap k549)))] hW581 hE584 fun a585 hE586 => ?_
          clear hE584
          have he587 : IntKind.u64.wrap k549 = ((k549.toNat : Nat) : Int) := by simp only [wrap_u64, wrap_u32, wrap_u16, IntKind.wrap_i64, IntKind.wrap_i32]; omega
          have hE589 := EnvOk.pick hE586 (ks := [9, 11, 20, 100, 101, 102, 109, 112]) (env' := [(9, .v (.slice A_ ((bodyB W l v (Tree.mk n1 s2 b3 l4 u5) 0).length) c_)), (11, .v (.int .i64 ((tagsN W l (Tree.mk n1 s2 b3 l4 u5) k2 + k : Nat) : Int))), (20, .v (.slice A552 ((whole s550).length) c553)), (100, .v (.slice A514 ((unknownT l u5).length) c515)), (101, .v (.int .i64 (((unknownT l u5).length : Nat) : Int))), (102, .v (.int .i64 ((k : Nat) : Int))), (109, .v (.slice A4_ ((tagsK W l (Tree.mk n1 s2 b3 l4 u5) k2 ++ tagsB ((unknownT l u5).take k)).length) c4_)), (112, .v (.int .u64 (IntKind.u64.wrap k549)))]) (by kernel_rfl)
          have hE588 := hE589.cast (env' := [(9, .v (.slice A_ ((bodyB W l v (Tree.mk n1 s2 b3 l4 u5) 0).length) c_)), (11, .v (.int .i64 ((tagsN W l (Tree.mk n1 s2 b3 l4 u5) k2 + k : Nat) : Int))), (20, .v (.slice A552 ((whole s550).length) c553)), (100, .v (.slice A514 ((unknownT l u5).length) c515)), (101, .v (.int .i64 (((unknownT l u5).length : Nat) : Int))), (102, .v (.int .i64 ((k : Nat) : Int))), (109, .v (.slice A4_ ((tagsK W l (Tree.mk n1 s2 b3 l4 u5) k2 ++ tagsB ((unknownT l u5).take k)).length) c4_)), (112, .v (.int .u64 ((k549.toNat : Nat) : Int)))]) (by rw [he587])
          clear hE586 hE589
          refine of_op (wpOp_call hE588 (f := 68) (vs := [.int .u64 ((k549.toNat : Nat) : Int)]) (d := 113) (by kernel_rfl) Tryd.call68 (sUvarint k549.toNat (by omega) _) ?_)
          rintro e_ w594 ⟨A592, c593, rfl, ho591, hs590⟩
          refine ⟨_, rfl, fun a595 hE596 => ?_⟩
          obtain ⟨hW597, hF598⟩ := hW581.frFresh hs590 (brow A592 c593 5 (uv k549.toNat)) (Nat.le_refl _) ho591
          clear hE588 hW581
          refine of_op (wpOp_append hW597 hE596 (k := 1) (d := 114) (t := 22) (e := 5) (size := 1) (bytes := 1) (A := A4_) (As := A592) (m0 := ((tagsK W l (Tree.mk n1 s2 b3 l4 u5) k2 ++ tagsB ((unknownT l u5).take k)).length)) (c := c4_) (m := ((uv k549.toNat).length)) (cs := c593) (xs := (bc (tagsK W l (Tree.mk n1 s2 b3 l4 u5) k2 ++ tagsB ((unknownT l u5).take k)))) (news := bc (uv k549.toNat)) (by kernel_rfl) (by kernel_rfl) rfl (own_src (hW597.own 2 _ rfl) (bc_one _)) (own_cap (hW597.own 2 _ rfl)) (by have h_ := tagsB_le (l := (unknownT l u5)) (k + 1); rw [tagsB_succ he551] at h_; simp only [List.length_append] at h_ ⊢; omega) fun A599 c600 a601 w602 hF603 hW604 hE605 => ?_)
          clear hE596 hW597
          have er606 : (⟨A599, c600, 5, 1, (tagsK W l (Tree.mk n1 s2 b3 l4 u5) k2 ++ tagsB ((unknownT l u5).take k)).length + (uv k549.toNat).length, bc (tagsK W l (Tree.mk n1 s2 b3 l4 u5) k2 ++ tagsB ((unknownT l u5).take k)) ++ bc (uv k549.toNat)⟩ : Rw) = brow A599 c600 5 (tagsK W l (Tree.mk n1 s2 b3 l4 u5) k2 ++ tagsB ((unknownT l u5).take k) ++ (uv k549.toNat)) := brow_eq (rfl) rfl
          obtain ⟨hW607, hF609⟩ := hW604.rowEq 1 [brow A_ c_ 5 (bodyB W l v (Tree.mk n1 s2 b3 l4 u5) 0), brow A599 c600 5 (tagsK W l (Tree.mk n1 s2 b3 l4 u5) k2 ++ tagsB ((unknownT l u5).take k) ++ (uv k549.toNat)), brow A592 c593 5 (uv k549.toNat)] er606
          clear hW604
          have hE610 := EnvOk.pick hE605 (ks := [9, 11, 20, 100, 101, 102, 109, 112, 113, 114]) (env' := [(9, .v (.slice A_ ((bodyB W l v (Tree.mk n1 s2 b3 l4 u5) 0).length) c_)), (11, .v (.int .i64 ((tagsN W l (Tree.mk n1 s2 b3 l4 u5) k2 + k : Nat) : Int))), (20, .v (.slice A552 ((whole s550).length) c553)), (100, .v (.slice A514 ((unknownT l u5).length) c515)), (101, .v (.int .i64 (((unknownT l u5).length : Nat) : Int))), (102, .v (.int .i64 ((k : Nat) : Int))), (109, .v (.slice A4_ ((tagsK W l (Tree.mk n1 s2 b3 l4 u5) k2 ++ tagsB ((unknownT l u5).take k)).length) c4_)), (112, .v (.int .u64 ((k549.toNat : Nat) : Int))), (113, .v (.slice A592 ((uv k549.toNat).length) c593)), (114, .v (.slice A599 ((tagsK W l (Tree.mk n1 s2 b3 l4 u5) k2 ++ tagsB ((unknownT l u5).take k)).length + (uv k549.toNat).length) c600))]) (by kernel_rfl)
          have hE608 := hE610.cast (env' := [(9, .v (.slice A_ ((bodyB W l v (Tree.mk n1 s2 b3 l4 u5) 0).length) c_)), (11, .v (.int .i64 ((tagsN W l (Tree.mk n1 s2 b3 l4 u5) k2 + k : Nat) : Int))), (20, .v (.slice A552 ((whole s550).length) c553)), (100, .v (.slice A514 ((unknownT l u5).length) c515)), (101, .v (.int .i64 (((unknownT l u5).length : Nat) : Int))), (102, .v (.int .i64 ((k : Nat) : Int))), (109, .v (.slice A4_ ((tagsK W l (Tree.mk n1 s2 b3 l4 u5) k2 ++ tagsB ((unknownT l u5).take k)).length) c4_)), (112, .v (.int .u64 ((k549.toNat : Nat) : Int))), (113, .v (.slice A592 ((uv k549.toNat).length) c593)), (114, .v (.slice A599 ((tagsK W l (Tree.mk n1 s2 b3 l4 u5) k2 ++ tagsB ((unknownT l u5).take k) ++ (uv k549.toNat)).length) c600))]) (by simp only [List.length_append, List.length_cons, List.length_nil, Nat.zero_add])
          clear hE605
          clear hE610
          refine go_rn [6, 7, 8] [9, 10, 11, 12, 13] [(9, .v (.slice A_ ((bodyB W l v (Tree.mk n1 s2 b3 l4 u5) 0).length) c_)), (11, .v (.int .i64 ((tagsN W l (Tree.mk n1 s2 b3 l4 u5) k2 + k : Nat) : Int))), (20, .v (.slice A552 ((whole s550).length) c553)), (100, .v (.slice A514 ((unknownT l u5).length) c515)), (101, .v (.int .i64 (((unknownT l u5).length : Nat) : Int))), (102, .v (.int .i64 ((k : Nat) : Int))), (114, .v (.slice A599 ((tagsK W l (Tree.mk n1 s2 b3 l4 u5) k2 ++ tagsB ((unknownT l u5).take k) ++ (uv k549.toNat)).length) c600)), (117, .v (.int .u64 (IntKind.u64.wrap (((whole s550).length : Nat) : Int))))] hW607 hE608 fun a611 hE612 => ?_
          clear hE608
          have he613 : IntKind.u64.wrap (((whole s550).length : Nat) : Int) = (((whole s550).length : Nat) : Int) := by simp only [wrap_u64, wrap_u32, wrap_u16, IntKind.wrap_i64, IntKind.wrap_i32]; omega
          have hE615 := EnvOk.pick hE612 (ks := [9, 11, 20, 100, 101, 102, 114, 117]) (env' := [(9, .v (.slice A_ ((bodyB W l v (Tree.mk n1 s2 b3 l4 u5) 0).length) c_)), (11, .v (.int .i64 ((tagsN W l (Tree.mk n1 s2 b3 l4 u5) k2 + k : Nat) : Int))), (20, .v (.slice A552 ((whole s550).length) c553)), (100, .v (.slice A514 ((unknownT l u5).length) c515)), (101, .v (.int .i64 (((unknownT l u5).length : Nat) : Int))), (102, .v (.int .i64 ((k : Nat) : Int))), (114, .v (.slice A599 ((tagsK W l (Tree.mk n1 s2 b3 l4 u5) k2 ++ tagsB ((unknownT l u5).take k) ++ (uv k549.toNat)).length) c600)), (117, .v (.int .u64 (IntKind.u64.wrap (((whole s550).length : Nat) : Int))))]) (by kernel_rfl)
          have hE614 := hE615.cast (env' := [(9, .v (.slice A_ ((bodyB W l v (Tree.mk n1 s2 b3 l4 u5) 0).length) c_)), (11, .v (.int .i64 ((tagsN W l (Tree.mk n1 s2 b3 l4 u5) k2 + k : Nat) : Int))), (20, .v (.slice A552 ((whole s550).length) c553)), (100, .v (.slice A514 ((unknownT l u5).length) c515)), (101, .v (.int .i64 (((unknownT l u5).length : Nat) : Int))), (102, .v (.int .i64 ((k : Nat) : Int))), (114, .v (.slice A599 ((tagsK W l (Tree.mk n1 s2 b3 l4 u5) k2 ++ tagsB ((unknownT l u5).take k) ++ (uv k549.toNat)).length) c600)), (117, .v (.int .u64 (((whole s550).length : Nat) : Int)))]) (by rw [he613])
          clear hE612 hE615
          refine of_op (wpOp_call hE614 (f := 68) (vs := [.int .u64 (((whole s550).length : Nat) : Int)]) (d := 118) (by kernel_rfl) Tryd.call68 (sUvarint ((whole s550).length) (by omega) _) ?_)
          rintro e_ w620 ⟨A618, c619, rfl, ho617, hs616⟩
          refine ⟨_, rfl, fun a621 hE622 => ?_⟩
          obtain ⟨hW623, hF624⟩ := hW607.frFresh hs616 (brow A618 c619 5 (uv ((whole s550).length))) (Nat.le_refl _) ho617
          clear hE614 hW607
          refine of_op (wpOp_append hW623 hE622 (k := 1) (d := 119) (t := 22) (e := 5) (size := 1) (bytes := 1) (A := A599) (As := A618) (m0 := ((tagsK W l (Tree.mk n1 s2 b3 l4 u5) k2 ++ tagsB ((unknownT l u5).take k) ++ (uv k549.toNat)).length)) (c := c600) (m := ((uv ((whole s550).length)).length)) (cs := c619) (xs := (bc (tagsK W l (Tree.mk n1 s2 b3 l4 u5) k2 ++ tagsB ((unknownT l u5).take k) ++ (uv k549.toNat)))) (news := bc (uv ((whole s550).length))) (by kernel_rfl) (by kernel_rfl) rfl (own_src (hW623.own 3 _ rfl) (bc_one _)) (own_cap (hW623.own 3 _ rfl)) (by have h_ := tagsB_le (l := (unknownT l u5)) (k + 1); rw [tagsB_succ he551] at h_; simp only [List.length_append] at h_ ⊢; omega) fun A625 c626 a627 w628 hF629 hW630 hE631 => ?_)
          clear hE622 hW623
          have er632 : (⟨A625, c626, 5, 1, (tagsK W l (Tree.mk n1 s2 b3 l4 u5) k2 ++ tagsB ((unknownT l u5).take k) ++ (uv k549.toNat)).length + (uv ((whole s550).length)).length, bc (tagsK W l (Tree.mk n1 s2 b3 l4 u5) k2 ++ tagsB ((unknownT l u5).take k) ++ (uv k549.toNat)) ++ bc (uv ((whole s550).length))⟩ : Rw) = brow A625 c626 5 (tagsK W l (Tree.mk n1 s2 b3 l4 u5) k2 ++ tagsB ((unknownT l u5).take k) ++ (uv k549.toNat) ++ (uv ((whole s550).length))) := brow_eq (rfl) rfl
          obtain ⟨hW633, hF635⟩ := hW630.rowEq 1 [brow A_ c_ 5 (bodyB W l v (Tree.mk n1 s2 b3 l4 u5) 0), brow A625 c626 5 (tagsK W l (Tree.mk n1 s2 b3 l4 u5) k2 ++ tagsB ((unknownT l u5).take k) ++ (uv k549.toNat) ++ (uv ((whole s550).length))), brow A592 c593 5 (uv k549.toNat), brow A618 c619 5 (uv ((whole s550).length))] er632
          clear hW630
          have hE636 := EnvOk.pick hE631 (ks := [9, 11, 20, 100, 101, 102, 114, 117, 118, 119]) (env' := [(9, .v (.slice A_ ((bodyB W l v (Tree.mk n1 s2 b3 l4 u5) 0).length) c_)), (11, .v (.int .i64 ((tagsN W l (Tree.mk n1 s2 b3 l4 u5) k2 + k : Nat) : Int))), (20, .v (.slice A552 ((whole s550).length) c553)), (100, .v (.slice A514 ((unknownT l u5).length) c515)), (101, .v (.int .i64 (((unknownT l u5).length : Nat) : Int))), (102, .v (.int .i64 ((k : Nat) : Int))), (114, .v (.slice A599 ((tagsK W l (Tree.mk n1 s2 b3 l4 u5) k2 ++ tagsB ((unknownT l u5).take k) ++ (uv k549.toNat)).length) c600)), (117, .v (.int .u64 (((whole s550).length : Nat) : Int))), (118, .v (.slice A618 ((uv ((whole s550).length)).length) c619)), (119, .v (.slice A625 ((tagsK W l (Tree.mk n1 s2 b3 l4 u5) k2 ++ tagsB ((unknownT l u5).take k) ++ (uv k549.toNat)).length + (uv ((whole s550).length)).length) c626))]) (by kernel_rfl)
          have hE634 := hE636.cast (env' := [(9, .v (.slice A_ ((bodyB W l v (Tree.mk n1 s2 b3 l4 u5) 0).length) c_)), (11, .v (.int .i64 ((tagsN W l (Tree.mk n1 s2 b3 l4 u5) k2 + k : Nat) : Int))), (20, .v (.slice A552 ((whole s550).length) c553)), (100, .v (.slice A514 ((unknownT l u5).length) c515)), (101, .v (.int .i64 (((unknownT l u5).length : Nat) : Int))), (102, .v (.int .i64 ((k : Nat) : Int))), (114, .v (.slice A599 ((tagsK W l (Tree.mk n1 s2 b3 l4 u5) k2 ++ tagsB ((unknownT l u5).take k) ++ (uv k549.toNat)).length) c600)), (117, .v (.int .u64 (((whole s550).length : Nat) : Int))), (118, .v (.slice A618 ((uv ((whole s550).length)).length) c619)), (119, .v (.slice A625 ((tagsK W l (Tree.mk n1 s2 b3 l4 u5) k2 ++ tagsB ((unknownT l u5).take k) ++ (uv k549.toNat) ++ (uv ((whole s550).length))).length) c626))]) (by simp only [List.length_append, List.length_cons, List.length_nil, Nat.zero_add])
          clear hE631
          clear hE636
          refine go_rn [11] [12, 13] [(9, .v (.slice A_ ((bodyB W l v (Tree.mk n1 s2 b3 l4 u5) 0).length) c_)), (11, .v (.int .i64 ((tagsN W l (Tree.mk n1 s2 b3 l4 u5) k2 + k : Nat) : Int))), (100, .v (.slice A514 ((unknownT l u5).length) c515)), (101, .v (.int .i64 (((unknownT l u5).length : Nat) : Int))), (102, .v (.int .i64 ((k : Nat) : Int))), (119, .v (.slice A625 ((tagsK W l (Tree.mk n1 s2 b3 l4 u5) k2 ++ tagsB ((unknownT l u5).take k) ++ (uv k549.toNat) ++ (uv ((whole s550).length))).length) c626)), (120, .v (.slice A552 ((whole s550).length) c553))] hW633 hE634 fun a637 hE638 => ?_
          clear hE634
          refine of_op (wpOp_append hW633 hE638 (k := 1) (d := 121) (t := 22) (e := 5) (size := 1) (bytes := 1) (A := A625) (As := A552) (m0 := ((tagsK W l (Tree.mk n1 s2 b3 l4 u5) k2 ++ tagsB ((unknownT l u5).take k) ++ (uv k549.toNat) ++ (uv ((whole s550).length))).length)) (c := c626) (m := ((whole s550).length)) (cs := c553) (xs := (bc (tagsK W l (Tree.mk n1 s2 b3 l4 u5) k2 ++ tagsB ((unknownT l u5).take k) ++ (uv k549.toNat) ++ (uv ((whole s550).length))))) (news := bc (whole s550)) (by kernel_rfl) (by kernel_rfl) rfl ((hb555.take 32767).move (Fr.trans (Fr.trans (Fr.trans (Fr.trans (Fr.trans (Fr.trans (Fr.trans (Fr.trans (Fr.trans (Fr.trans hF531 hF539) hF567) hF571) hF582) hF598) hF603) hF609) hF624) hF629) hF635).step immM (Fr.trans (Fr.trans (Fr.trans (Fr.trans (Fr.trans (Fr.trans (Fr.trans (Fr.trans (Fr.trans (Fr.trans hF531 hF539) hF567) hF571) hF582) hF598) hF603) hF609) hF624) hF629) hF635).to').src ((hb555.take 32767).move (Fr.trans (Fr.trans (Fr.trans (Fr.trans (Fr.trans (Fr.trans (Fr.trans (Fr.trans (Fr.trans (Fr.trans hF531 hF539) hF567) hF571) hF582) hF598) hF603) hF609) hF624) hF629) hF635).step immM (Fr.trans (Fr.trans (Fr.trans (Fr.trans (Fr.trans (Fr.trans (Fr.trans (Fr.trans (Fr.trans (Fr.trans hF531 hF539) hF567) hF571) hF582) hF598) hF603) hF609) hF624) hF629) hF635).to').cap (by have h_ := tagsB_le (l := (unknownT l u5)) (k + 1); rw [tagsB_succ he551] at h_; simp only [List.length_append] at h_ ⊢; omega) fun A639 c640 a641 w642 hF643 hW644 hE645 => ?_)
          clear hE638 hW633
          have er646 : (⟨A639, c640, 5, 1, (tagsK W l (Tree.mk n1 s2 b3 l4 u5) k2 ++ tagsB ((unknownT l u5).take k) ++ (uv k549.toNat) ++ (uv ((whole s550).length))).length + (whole s550).length, bc (tagsK W l (Tree.mk n1 s2 b3 l4 u5) k2 ++ tagsB ((unknownT l u5).take k) ++ (uv k549.toNat) ++ (uv ((whole s550).length))) ++ bc (whole s550)⟩ : Rw) = brow A639 c640 5 (tagsK W l (Tree.mk n1 s2 b3 l4 u5) k2 ++ tagsB ((unknownT l u5).take k) ++ (uv k549.toNat) ++ (uv ((whole s550).length)) ++ (whole s550)) := brow_eq (rfl) rfl
          obtain ⟨hW647, hF649⟩ := hW644.rowEq 1 [brow A_ c_ 5 (bodyB W l v (Tree.mk n1 s2 b3 l4 u5) 0), brow A639 c640 5 (tagsK W l (Tree.mk n1 s2 b3 l4 u5) k2 ++ tagsB ((unknownT l u5).take k) ++ (uv k549.toNat) ++ (uv ((whole s550).length)) ++ (whole s550)), brow A592 c593 5 (uv k549.toNat), brow A618 c619 5 (uv ((whole s550).length))] er646
          clear hW644
          have hE650 := EnvOk.pick hE645 (ks := [9, 11, 100, 101, 102, 119, 120, 121]) (env' := [(9, .v (.slice A_ ((bodyB W l v (Tree.mk n1 s2 b3 l4 u5) 0).length) c_)), (11, .v (.int .i64 ((tagsN W l (Tree.mk n1 s2 b3 l4 u5) k2 + k : Nat) : Int))), (100, .v (.slice A514 ((unknownT l u5).length) c515)), (101, .v (.int .i64 (((unknownT l u5).length : Nat) : Int))), (102, .v (.int .i64 ((k : Nat) : Int))), (119, .v (.slice A625 ((tagsK W l (Tree.mk n1 s2 b3 l4 u5) k2 ++ tagsB ((unknownT l u5).take k) ++ (uv k549.toNat) ++ (uv ((whole s550).length))).length) c626)), (120, .v (.slice A552 ((whole s550).length) c553)), (121, .v (.slice A639 ((tagsK W l (Tree.mk n1 s2 b3 l4 u5) k2 ++ tagsB ((unknownT l u5).take k) ++ (uv k549.toNat) ++ (uv ((whole s550).length))).length + (whole s550).length) c640))]) (by kernel_rfl)
          have hE648 := hE650.cast (env' := [(9, .v (.slice A_ ((bodyB W l v (Tree.mk n1 s2 b3 l4 u5) 0).length) c_)), (11, .v (.int .i64 ((tagsN W l (Tree.mk n1 s2 b3 l4 u5) k2 + k : Nat) : Int))), (100, .v (.slice A514 ((unknownT l u5).length) c515)), (101, .v (.int .i64 (((unknownT l u5).length : Nat) : Int))), (102, .v (.int .i64 ((k : Nat) : Int))), (119, .v (.slice A625 ((tagsK W l (Tree.mk n1 s2 b3 l4 u5) k2 ++ tagsB ((unknownT l u5).take k) ++ (uv k549.toNat) ++ (uv ((whole s550).length))).length) c626)), (120, .v (.slice A552 ((whole s550).length) c553)), (121, .v (.slice A639 ((tagsK W l (Tree.mk n1 s2 b3 l4 u5) k2 ++ tagsB ((unknownT l u5).take k) ++ (uv k549.toNat) ++ (uv ((whole s550).length)) ++ (whole s550)).length) c640))]) (by simp only [List.length_append, List.length_cons, List.length_nil, Nat.zero_add])
          clear hE645
          clear hE650
          refine go_rn [13] [] [(9, .v (.slice A_ ((bodyB W l v (Tree.mk n1 s2 b3 l4 u5) 0).length) c_)), (10, .v (.slice A639 ((tagsK W l (Tree.mk n1 s2 b3 l4 u5) k2 ++ tagsB ((unknownT l u5).take k) ++ (uv k549.toNat) ++ (uv ((whole s550).length)) ++ (whole s550)).length) c640)), (11, .v (.int .i64 ((tagsN W l (Tree.mk n1 s2 b3 l4 u5) k2 + k : Nat) : Int))), (100, .v (.slice A514 ((unknownT l u5).length) c515)), (101, .v (.int .i64 (((unknownT l u5).length : Nat) : Int))), (102, .v (.int .i64 ((k : Nat) : Int)))] hW647 hE648 fun a651 hE652 => ?_
          clear hE648
          refine wpOps_nil ?_
          refine then_normal ?_
          refine go_region [0, 1, 2] (by kernel_rfl) ?_
          refine go_rn [0, 1, 2] [] [(9, .v (.slice A_ ((bodyB W l v (Tree.mk n1 s2 b3 l4 u5) 0).length) c_)), (10, .v (.slice A639 ((tagsK W l (Tree.mk n1 s2 b3 l4 u5) k2 ++ tagsB ((unknownT l u5).take k) ++ (uv k549.toNat) ++ (uv ((whole s550).length)) ++ (whole s550)).length) c640)), (11, .v (.int .i64 (IntKind.i64.wrap (((tagsN W l (Tree.mk n1 s2 b3 l4 u5) k2 + k : Nat) : Int) + 1)))), (100, .v (.slice A514 ((unknownT l u5).length) c515)), (101, .v (.int .i64 (((unknownT l u5).length : Nat) : Int))), (102, .v (.int .i64 ((k : Nat) : Int)))] hW647 hE652 fun a653 hE654 => ?_
          clear hE652
          refine wpOps_nil ?_
          refine block_normal ?_
          refine then_normal ?_
          refine go_region [0, 1] (by kernel_rfl) ?_
          refine go_rn [0, 1] [] [(9, .v (.slice A_ ((bodyB W l v (Tree.mk n1 s2 b3 l4 u5) 0).length) c_)), (10, .v (.slice A639 ((tagsK W l (Tree.mk n1 s2 b3 l4 u5) k2 ++ tagsB ((unknownT l u5).take k) ++ (uv k549.toNat) ++ (uv ((whole s550).length)) ++ (whole s550)).length) c640)), (11, .v (.int .i64 (IntKind.i64.wrap (((tagsN W l (Tree.mk n1 s2 b3 l4 u5) k2 + k : Nat) : Int) + 1)))), (100, .v (.slice A514 ((unknownT l u5).length) c515)), (101, .v (.int .i64 (((unknownT l u5).length : Nat) : Int))), (102, .v (.int .i64 (IntKind.i64.wrap (((k : Nat) : Int) + 1))))] hW647 hE654 fun a655 hE656 => ?_
          clear hE654
          refine wpOps_nil ?_
          refine then_normal ?_
          obtain ⟨hE657, hW658, hF659⟩ := hW647.cutB hE656 1 [⟨b21, 0, [.int .i64 n1, .slice A6 s2.length c7, .bool b3, .slice A8 l4.length c9, .slice A10 u5.length c11], true⟩] [(9, .v (.slice A_ ((bodyB W l v (Tree.mk n1 s2 b3 l4 u5) 0).length) c_)), (10, .v (.slice A639 ((tagsK W l (Tree.mk n1 s2 b3 l4 u5) k2 ++ tagsB ((unknownT l u5).take k) ++ (uv k549.toNat) ++ (uv ((whole s550).length)) ++ (whole s550)).length) c640)), (11, .v (.int .i64 (IntKind.i64.wrap (((tagsN W l (Tree.mk n1 s2 b3 l4 u5) k2 + k : Nat) : Int) + 1)))), (100, .v (.slice A514 ((unknownT l u5).length) c515)), (101, .v (.int .i64 (((unknownT l u5).length : Nat) : Int))), (102, .v (.int .i64 (IntKind.i64.wrap (((k : Nat) : Int) + 1))))]
          obtain ⟨hW660, hF661⟩ := hW658.cutR 2 [brow A_ c_ 5 (bodyB W l v (Tree.mk n1 s2 b3 l4 u5) 0), brow A639 c640 5 (tagsK W l (Tree.mk n1 s2 b3 l4 u5) k2 ++ tagsB ((unknownT l u5).take k) ++ (uv k549.toNat) ++ (uv ((whole s550).length)) ++ (whole s550))]
          have er662 : (tagsK W l (Tree.mk n1 s2 b3 l4 u5) k2 ++ tagsB ((unknownT l u5).take k) ++ (uv k549.toNat) ++ (uv ((whole s550).length)) ++ (whole s550)) = (tagsK W l (Tree.mk n1 s2 b3 l4 u5) k2 ++ tagsB ((unknownT l u5).take (k + 1))) := by rw [tagsB_succ he551]; simp only [List.append_assoc]
          have er663 := congrArg (brow A639 c640 5) er662
          obtain ⟨hW664, hF665⟩ := hW660.rowEq 1 [brow A_ c_ 5 (bodyB W l v (Tree.mk n1 s2 b3 l4 u5) 0), brow A639 c640 5 (tagsK W l (Tree.mk n1 s2 b3 l4 u5) k2 ++ tagsB ((unknownT l u5).take (k + 1)))] er663
          clear hW660
          rw [er662] at hE657
          have he666 : IntKind.i64.wrap (((k : Nat) : Int) + 1) = ((k + 1 : Nat) : Int) := wrap_succ (by omega)
          rw [he666] at hE657
          have he667 : IntKind.i64.wrap (((tagsN W l (Tree.mk n1 s2 b3 l4 u5) k2 + k : Nat) : Int) + 1) = ((tagsN W l (Tree.mk n1 s2 b3 l4 u5) k2 + (k + 1) : Nat) : Int) := by rw [wrap_i64 (by omega) (by omega)]; omega
          rw [he667] at hE657
          exact ⟨(unknownT l u5).length - (k + 1), by omega, k + 1, A639, c640, rfl, by omega, hE657.pk, hW664, (Fr.trans (Fr.trans (Fr.trans (Fr.trans (Fr.trans (Fr.trans (Fr.trans (Fr.trans (Fr.trans (Fr.trans (Fr.trans (Fr.trans (Fr.trans (Fr.trans hF539 hF567) hF571) hF582) hF598) hF603) hF609) hF624) hF629) hF635) hF643) hF649) hF659) hF661) hF665)⟩
        ·
          have hf668 := of_decide_eq_false hc542
          refine wp_exit ?_
          refine then_exit ?_
          refine then_exit ?_
          refine block_exit ?_
          refine then_normal ?_
          refine go_seq_region [0, 1, 2, 3, 4, 5, 6, 7] (by kernel_rfl) ?_
          refine go_rn [0, 1, 2] [3, 4, 5, 6, 7] [(10, .v (.slice A4_ ((tagsK W l (Tree.mk n1 s2 b3 l4 u5) k2 ++ tagsB ((unknownT l u5).take k)).length) c4_)), (125, .v (.slice A_ ((bodyB W l v (Tree.mk n1 s2 b3 l4 u5) 0).length) c_)), (127, .v (.int .u64 (IntKind.u64.wrap ((tagsN W l (Tree.mk n1 s2 b3 l4 u5) k2 + k : Nat) : Int))))] hW536 hE541 fun a669 hE670 => ?_
          clear hE541
          have he671 : IntKind.u64.wrap ((tagsN W l (Tree.mk n1 s2 b3 l4 u5) k2 + k : Nat) : Int) = ((tagsN W l (Tree.mk n1 s2 b3 l4 u5) k2 + k : Nat) : Int) := by simp only [wrap_u64, wrap_u32, wrap_u16, IntKind.wrap_i64, IntKind.wrap_i32]; omega
          have hE673 := EnvOk.pick hE670 (ks := [10, 125, 127]) (env' := [(10, .v (.slice A4_ ((tagsK W l (Tree.mk n1 s2 b3 l4 u5) k2 ++ tagsB ((unknownT l u5).take k)).length) c4_)), (125, .v (.slice A_ ((bodyB W l v (Tree.mk n1 s2 b3 l4 u5) 0).length) c_)), (127, .v (.int .u64 (IntKind.u64.wrap ((tagsN W l (Tree.mk n1 s2 b3 l4 u5) k2 + k : Nat) : Int))))]) (by kernel_rfl)
          have hE672 := hE673.cast (env' := [(10, .v (.slice A4_ ((tagsK W l (Tree.mk n1 s2 b3 l4 u5) k2 ++ tagsB ((unknownT l u5).take k)).length) c4_)), (125, .v (.slice A_ ((bodyB W l v (Tree.mk n1 s2 b3 l4 u5) 0).length) c_)), (127, .v (.int .u64 ((tagsN W l (Tree.mk n1 s2 b3 l4 u5) k2 + k : Nat) : Int)))]) (by rw [he671])
          clear hE670 hE673
          refine of_op (wpOp_call hE672 (f := 68) (vs := [.int .u64 ((tagsN W l (Tree.mk n1 s2 b3 l4 u5) k2 + k : Nat) : Int)]) (d := 128) (by kernel_rfl) Tryd.call68 (sUvarint (tagsN W l (Tree.mk n1 s2 b3 l4 u5) k2 + k) (by omega) _) ?_)
          rintro e_ w678 ⟨A676, c677, rfl, ho675, hs674⟩
          refine ⟨_, rfl, fun a679 hE680 => ?_⟩
          obtain ⟨hW681, hF682⟩ := hW536.frFresh hs674 (brow A676 c677 5 (uv (tagsN W l (Tree.mk n1 s2 b3 l4 u5) k2 + k))) (Nat.le_refl _) ho675
          clear hE672 hW536
          refine of_op (wpOp_append hW681 hE680 (k := 0) (d := 129) (t := 22) (e := 5) (size := 1) (bytes := 1) (A := A_) (As := A676) (m0 := ((bodyB W l v (Tree.mk n1 s2 b3 l4 u5) 0).length)) (c := c_) (m := ((uv (tagsN W l (Tree.mk n1 s2 b3 l4 u5) k2 + k)).length)) (cs := c677) (xs := (bc (bodyB W l v (Tree.mk n1 s2 b3 l4 u5) 0))) (news := bc (uv (tagsN W l (Tree.mk n1 s2 b3 l4 u5) k2 + k))) (by kernel_rfl) (by kernel_rfl) rfl (own_src (hW681.own 2 _ rfl) (bc_one _)) (own_cap (hW681.own 2 _ rfl)) (by have hkk3 : k = (unknownT l u5).length := (by omega); subst hkk3; subst hkk2; simp only [List.length_append, List.take_length] at *; omega) fun A683 c684 a685 w686 hF687 hW688 hE689 => ?_)
          clear hE680 hW681
          have er690 : (⟨A683, c684, 5, 1, (bodyB W l v (Tree.mk n1 s2 b3 l4 u5) 0).length + (uv (tagsN W l (Tree.mk n1 s2 b3 l4 u5) k2 + k)).length, bc (bodyB W l v (Tree.mk n1 s2 b3 l4 u5) 0) ++ bc (uv (tagsN W l (Tree.mk n1 s2 b3 l4 u5) k2 + k))⟩ : Rw) = brow A683 c684 5 (bodyB W l v (Tree.mk n1 s2 b3 l4 u5) 0 ++ (uv (tagsN W l (Tree.mk n1 s2 b3 l4 u5) k2 + k))) := brow_eq (rfl) rfl
          obtain ⟨hW691, hF693⟩ := hW688.rowEq 0 [brow A683 c684 5 (bodyB W l v (Tree.mk n1 s2 b3 l4 u5) 0 ++ (uv (tagsN W l (Tree.mk n1 s2 b3 l4 u5) k2 + k))), brow A4_ c4_ 5 (tagsK W l (Tree.mk n1 s2 b3 l4 u5) k2 ++ tagsB ((unknownT l u5).take k)), brow A676 c677 5 (uv (tagsN W l (Tree.mk n1 s2 b3 l4 u5) k2 + k))] er690
          clear hW688
          have hE694 := EnvOk.pick hE689 (ks := [10, 125, 127, 128, 129]) (env' := [(10, .v (.slice A4_ ((tagsK W l (Tree.mk n1 s2 b3 l4 u5) k2 ++ tagsB ((unknownT l u5).take k)).length) c4_)), (125, .v (.slice A_ ((bodyB W l v (Tree.mk n1 s2 b3 l4 u5) 0).length) c_)), (127, .v (.int .u64 ((tagsN W l (Tree.mk n1 s2 b3 l4 u5) k2 + k : Nat) : Int))), (128, .v (.slice A676 ((uv (tagsN W l (Tree.mk n1 s2 b3 l4 u5) k2 + k)).length) c677)), (129, .v (.slice A683 ((bodyB W l v (Tree.mk n1 s2 b3 l4 u5) 0).length + (uv (tagsN W l (Tree.mk n1 s2 b3 l4 u5) k2 + k)).length) c684))]) (by kernel_rfl)
          have hE692 := hE694.cast (env' := [(10, .v (.slice A4_ ((tagsK W l (Tree.mk n1 s2 b3 l4 u5) k2 ++ tagsB ((unknownT l u5).take k)).length) c4_)), (125, .v (.slice A_ ((bodyB W l v (Tree.mk n1 s2 b3 l4 u5) 0).length) c_)), (127, .v (.int .u64 ((tagsN W l (Tree.mk n1 s2 b3 l4 u5) k2 + k : Nat) : Int))), (128, .v (.slice A676 ((uv (tagsN W l (Tree.mk n1 s2 b3 l4 u5) k2 + k)).length) c677)), (129, .v (.slice A683 ((bodyB W l v (Tree.mk n1 s2 b3 l4 u5) 0 ++ (uv (tagsN W l (Tree.mk n1 s2 b3 l4 u5) k2 + k))).length) c684))]) (by simp only [List.length_append, List.length_cons, List.length_nil, Nat.zero_add])
          clear hE689
          clear hE694
          refine go_rn [5] [6, 7] [(129, .v (.slice A683 ((bodyB W l v (Tree.mk n1 s2 b3 l4 u5) 0 ++ (uv (tagsN W l (Tree.mk n1 s2 b3 l4 u5) k2 + k))).length) c684)), (130, .v (.slice A4_ ((tagsK W l (Tree.mk n1 s2 b3 l4 u5) k2 ++ tagsB ((unknownT l u5).take k)).length) c4_))] hW691 hE692 fun a695 hE696 => ?_
          clear hE692
          refine of_op (wpOp_append hW691 hE696 (k := 0) (d := 131) (t := 22) (e := 5) (size := 1) (bytes := 1) (A := A683) (As := A4_) (m0 := ((bodyB W l v (Tree.mk n1 s2 b3 l4 u5) 0 ++ (uv (tagsN W l (Tree.mk n1 s2 b3 l4 u5) k2 + k))).length)) (c := c684) (m := ((tagsK W l (Tree.mk n1 s2 b3 l4 u5) k2 ++ tagsB ((unknownT l u5).take k)).length)) (cs := c4_) (xs := (bc (bodyB W l v (Tree.mk n1 s2 b3 l4 u5) 0 ++ (uv (tagsN W l (Tree.mk n1 s2 b3 l4 u5) k2 + k))))) (news := bc (tagsK W l (Tree.mk n1 s2 b3 l4 u5) k2 ++ tagsB ((unknownT l u5).take k))) (by kernel_rfl) (by kernel_rfl) rfl (own_src (hW691.own 1 _ rfl) (bc_one _)) (own_cap (hW691.own 1 _ rfl)) (by have hkk3 : k = (unknownT l u5).length := (by omega); subst hkk3; subst hkk2; simp only [List.length_append, List.take_length] at *; omega) fun A697 c698 a699 w700 hF701 hW702 hE703 => ?_)
          clear hE696 hW691
          have er704 : (⟨A697, c698, 5, 1, (bodyB W l v (Tree.mk n1 s2 b3 l4 u5) 0 ++ (uv (tagsN W l (Tree.mk n1 s2 b3 l4 u5) k2 + k))).length + (tagsK W l (Tree.mk n1 s2 b3 l4 u5) k2 ++ tagsB ((unknownT l u5).take k)).length, bc (bodyB W l v (Tree.mk n1 s2 b3 l4 u5) 0 ++ (uv (tagsN W l (Tree.mk n1 s2 b3 l4 u5) k2 + k))) ++ bc (tagsK W l (Tree.mk n1 s2 b3 l4 u5) k2 ++ tagsB ((unknownT l u5).take k))⟩ : Rw) = brow A697 c698 5 (bodyB W l v (Tree.mk n1 s2 b3 l4 u5) 0 ++ (uv (tagsN W l (Tree.mk n1 s2 b3 l4 u5) k2 + k)) ++ (tagsK W l (Tree.mk n1 s2 b3 l4 u5) k2 ++ tagsB ((unknownT l u5).take k))) := brow_eq (rfl) rfl
          obtain ⟨hW705, hF707⟩ := hW702.rowEq 0 [brow A697 c698 5 (bodyB W l v (Tree.mk n1 s2 b3 l4 u5) 0 ++ (uv (tagsN W l (Tree.mk n1 s2 b3 l4 u5) k2 + k)) ++ (tagsK W l (Tree.mk n1 s2 b3 l4 u5) k2 ++ tagsB ((unknownT l u5).take k))), brow A4_ c4_ 5 (tagsK W l (Tree.mk n1 s2 b3 l4 u5) k2 ++ tagsB ((unknownT l u5).take k)), brow A676 c677 5 (uv (tagsN W l (Tree.mk n1 s2 b3 l4 u5) k2 + k))] er704
          clear hW702
          have hE708 := EnvOk.pick hE703 (ks := [129, 130, 131]) (env' := [(129, .v (.slice A683 ((bodyB W l v (Tree.mk n1 s2 b3 l4 u5) 0 ++ (uv (tagsN W l (Tree.mk n1 s2 b3 l4 u5) k2 + k))).length) c684)), (130, .v (.slice A4_ ((tagsK W l (Tree.mk n1 s2 b3 l4 u5) k2 ++ tagsB ((unknownT l u5).take k)).length) c4_)), (131, .v (.slice A697 ((bodyB W l v (Tree.mk n1 s2 b3 l4 u5) 0 ++ (uv (tagsN W l (Tree.mk n1 s2 b3 l4 u5) k2 + k))).length + (tagsK W l (Tree.mk n1 s2 b3 l4 u5) k2 ++ tagsB ((unknownT l u5).take k)).length) c698))]) (by kernel_rfl)
          have hE706 := hE708.cast (env' := [(129, .v (.slice A683 ((bodyB W l v (Tree.mk n1 s2 b3 l4 u5) 0 ++ (uv (tagsN W l (Tree.mk n1 s2 b3 l4 u5) k2 + k))).length) c684)), (130, .v (.slice A4_ ((tagsK W l (Tree.mk n1 s2 b3 l4 u5) k2 ++ tagsB ((unknownT l u5).take k)).length) c4_)), (131, .v (.slice A697 ((bodyB W l v (Tree.mk n1 s2 b3 l4 u5) 0 ++ (uv (tagsN W l (Tree.mk n1 s2 b3 l4 u5) k2 + k)) ++ (tagsK W l (Tree.mk n1 s2 b3 l4 u5) k2 ++ tagsB ((unknownT l u5).take k))).length) c698))]) (by simp only [List.length_append, List.length_cons, List.length_nil, Nat.zero_add])
          clear hE703
          clear hE708
          refine go_rn [7] [] [(8, .v (.slice A697 ((bodyB W l v (Tree.mk n1 s2 b3 l4 u5) 0 ++ (uv (tagsN W l (Tree.mk n1 s2 b3 l4 u5) k2 + k)) ++ (tagsK W l (Tree.mk n1 s2 b3 l4 u5) k2 ++ tagsB ((unknownT l u5).take k))).length) c698))] hW705 hE706 fun a709 hE710 => ?_
          clear hE706
          refine wpOps_nil ?_
          refine then_normal ?_
          refine wp_ret ?_
          refine leave hE710 hW705.cells (v := .slice A697 ((bodyB W l v (Tree.mk n1 s2 b3 l4 u5) 0 ++ (uv (tagsN W l (Tree.mk n1 s2 b3 l4 u5) k2 + k)) ++ (tagsK W l (Tree.mk n1 s2 b3 l4 u5) k2 ++ tagsB ((unknownT l u5).take k))).length) c698) (by kernel_rfl) ?_
          have hkk3 : k = (unknownT l u5).length := by omega
          exact fresh_end hW705 (k := 0) rfl (by rw [show flex = true by simpa using hc201, partW_flex, hkk3, hkk2, List.take_length])

end Go.Proofs.YthfdlmnfjcpioaaDoor.ME

/- Contracts: printed by tools/sp.py. Own work. -/
namespace Go.Proofs.YthfdlmnfjcpioaaDoor.ME
open Go
set_option linter.unusedVariables false
set_option linter.unusedSimpArgs false
set_option maxRecDepth 20000

theorem sPartOK : ∀ d, PartOK d
  | 0 => fun A c l v flex ct t w F hl hd ht hr => sPart (fun _ _ => []) A c l v flex ct t w F (fun cf f ct t w F hm hf ht hr => by
      obtain ⟨i, hi⟩ := List.mem_iff_getElem?.1 hm
      have h := depths_get hi
      obtain ⟨k, x1, x2, x3, x4, x5, x6, l, A, c, xs, rfl, _⟩ := hf.open_
      rw [depth_mk] at h; omega) hl ht hr
  | d + 1 => fun A c l v flex ct t w F hl hd ht hr => sPart (fun f t => fieldD d f v flex t) A c l v flex ct t w F (fun cf f ct t w F hm hf ht hr => sField (sPartOK d) cf f v flex ct t w F hf (by
      obtain ⟨i, hi⟩ := List.mem_iff_getElem?.1 hm
      have h := depths_get hi
      obtain ⟨k, x1, x2, x3, x4, x5, x6, l, A, c, xs, rfl, _⟩ := hf.open_
      rw [depth_mk] at h
      show depths l ≤ d
      omega) ht hr) hl ht hr

theorem sWrite {d : Nat} (A : Option Addr) (c : Nat) (l : List Fld) (x v : Int) (ct : List Value) (t : Tree) (w : World) (F : Nat → Nat → Prop) (hl : FldsR w F A c l) (hd : depths l ≤ d) (ht : TreeR w F ct t) (hroom : (writeB d l x v t).length ≤ 1099511627776) :
    Calls Tryd.prog 13 #[.agg #[.slice A l.length c, .int .i64 x], .int .i64 v, .agg ct.toArray] w (FreshB w 5 (writeB d l x v t)) := by
  obtain ⟨xfs, h1, h2⟩ := hl.ex
  have hsm := h1.small
  obtain ⟨n1, s2, b3, l4, u5, A6, c7, A8, c9, A10, c11, xs12, rfl, rfl, h14, h15, h16, h17⟩ := ht.open_
  have hsm19 := h14.small
  have hsm20 := h15.small
  refine enter (n := 21) Tryd.func13 rfl Tryd.ntmps13 (by kernel_rfl) fun a hE => ?_
  have hW := WOk.start w Nil
  refine go_seq_region [0, 1, 2] (by kernel_rfl) ?_
  refine of_op (wpOp_box hW hE (d := 3) (cs := [.slice A l.length c, .int .i64 x]) (by kernel_rfl) fun b21 a22 w23 hb24 hz25 hF26 hW27 hE28 => ?_)
  clear hE hW
  refine of_op (wpOp_box hW27 hE28 (d := 5) (cs := [.int .i64 n1, .slice A6 s2.length c7, .bool b3, .slice A8 l4.length c9, .slice A10 u5.length c11]) (by kernel_rfl) fun b29 a30 w31 hb32 hz33 hF34 hW35 hE36 => ?_)
  clear hE28 hW27
  refine go_rn [2] [] [(1, .v (.int .i64 v)), (3, .p 0 0), (5, .p 1 0)] hW35 hE36 fun a37 hE38 => ?_
  clear hE36
  refine wpOps_nil ?_
  refine then_normal ?_
  refine go_seq_region [0, 1, 2, 3, 4, 5, 6, 7, 8, 9, 10, 11, 12, 13, 14] (by kernel_rfl) ?_
  refine go_rn [0, 1, 2, 3, 4, 5, 6] [7, 8, 9, 10, 11, 12, 13, 14] [(1, .v (.int .i64 v)), (3, .p 0 0), (5, .p 1 0), (8, .v (.slice A l.length c)), (9, .v (.int .i64 v)), (13, .v (.bool (decide (x ≥ 0))))] hW35 hE38 fun a39 hE40 => ?_
  clear hE38
  refine (Bool.eq_false_or_eq_true (decide (x ≥ 0))).elim (fun hc41 => ?_) (fun hc41 => ?_)
  ·
    have hf42 := of_decide_eq_true hc41
    have hE43 := hE40.cast (env' := [(1, .v (.int .i64 v)), (3, .p 0 0), (5, .p 1 0), (8, .v (.slice A l.length c)), (9, .v (.int .i64 v)), (13, .v (.bool true))]) (by rw [hc41])
    clear hE40
    refine go_rn [7, 8, 9, 10, 11, 12] [13, 14] [(8, .v (.slice A l.length c)), (9, .v (.int .i64 v)), (18, .v (.bool (decide (v ≥ x)))), (19, .v (.agg #[.int .i64 n1, .slice A6 s2.length c7, .bool b3, .slice A8 l4.length c9, .slice A10 u5.length c11]))] hW35 hE43 fun a44 hE45 => ?_
    clear hE43
    refine of_op (wpOp_call hE45 (f := 36) (vs := [.slice A l.length c, .int .i64 v, .bool (decide (v ≥ x)), .agg #[.int .i64 n1, .slice A6 s2.length c7, .bool b3, .slice A8 l4.length c9, .slice A10 u5.length c11]]) (d := 20) (by kernel_rfl) Tryd.call36 (sPartOK _ _ _ l v (decide (v ≥ x)) _ (Tree.mk n1 s2 b3 l4 u5) _ _ ⟨xfs, (h1.move hW35.step nilM hW35.imm), (fun i_ x_ h_ => ((h2 i_ x_ h_).move hW35.step nilM hW35.imm))⟩ hd (ht.move hW35.step nilM hW35.imm) (by simpa [writeB, hc41] using hroom)) ?_)
    rintro e_ w50 ⟨A48, c49, rfl, ho47, hs46⟩
    refine ⟨_, rfl, fun a51 hE52 => ?_⟩
    obtain ⟨hW53, hF54⟩ := hW35.frFresh hs46 (brow A48 c49 5 (partB d l v (decide (v ≥ x)) (Tree.mk n1 s2 b3 l4 u5))) (Nat.le_refl _) ho47
    clear hE45 hW35
    refine go_rn [14] [] [(6, .v (.slice A48 ((partB d l v (decide (v ≥ x)) (Tree.mk n1 s2 b3 l4 u5)).length) c49))] hW53 hE52 fun a55 hE56 => ?_
    clear hE52
    refine wpOps_nil ?_
    refine then_normal ?_
    refine wp_ret ?_
    refine leave hE56 hW53.cells (v := .slice A48 ((partB d l v (decide (v ≥ x)) (Tree.mk n1 s2 b3 l4 u5)).length) c49) (by kernel_rfl) ?_
    exact fresh_end hW53 (k := 0) rfl (by simp [writeB, hc41])
  ·
    have hf57 := of_decide_eq_false hc41
    have hE58 := hE40.cast (env' := [(1, .v (.int .i64 v)), (3, .p 0 0), (5, .p 1 0), (8, .v (.slice A l.length c)), (9, .v (.int .i64 v)), (13, .v (.bool false))]) (by rw [hc41])
    clear hE40
    refine go_rn [7, 8, 9, 10, 11, 12] [13, 14] [(8, .v (.slice A l.length c)), (9, .v (.int .i64 v)), (18, .v (.bool false)), (19, .v (.agg #[.int .i64 n1, .slice A6 s2.length c7, .bool b3, .slice A8 l4.length c9, .slice A10 u5.length c11]))] hW35 hE58 fun a59 hE60 => ?_
    clear hE58
    refine of_op (wpOp_call hE60 (f := 36) (vs := [.slice A l.length c, .int .i64 v, .bool false, .agg #[.int .i64 n1, .slice A6 s2.length c7, .bool b3, .slice A8 l4.length c9, .slice A10 u5.length c11]]) (d := 20) (by kernel_rfl) Tryd.call36 (sPartOK _ _ _ l v false _ (Tree.mk n1 s2 b3 l4 u5) _ _ ⟨xfs, (h1.move hW35.step nilM hW35.imm), (fun i_ x_ h_ => ((h2 i_ x_ h_).move hW35.step nilM hW35.imm))⟩ hd (ht.move hW35.step nilM hW35.imm) (by simpa [writeB, hc41] using hroom)) ?_)
    rintro e_ w65 ⟨A63, c64, rfl, ho62, hs61⟩
    refine ⟨_, rfl, fun a66 hE67 => ?_⟩
    obtain ⟨hW68, hF69⟩ := hW35.frFresh hs61 (brow A63 c64 5 (partB d l v false (Tree.mk n1 s2 b3 l4 u5))) (Nat.le_refl _) ho62
    clear hE60 hW35
    refine go_rn [14] [] [(6, .v (.slice A63 ((partB d l v false (Tree.mk n1 s2 b3 l4 u5)).length) c64))] hW68 hE67 fun a70 hE71 => ?_
    clear hE67
    refine wpOps_nil ?_
    refine then_normal ?_
    refine wp_ret ?_
    refine leave hE71 hW68.cells (v := .slice A63 ((partB d l v false (Tree.mk n1 s2 b3 l4 u5)).length) c64) (by kernel_rfl) ?_
    exact fresh_end hW68 (k := 0) rfl (by simp [writeB, hc41])

end Go.Proofs.YthfdlmnfjcpioaaDoor.ME

/- Contracts: printed by tools/sp.py. Own work. -/
namespace Go.Proofs.YthfdlmnfjcpioaaDoor.ME
open Go
set_option linter.unusedVariables false
set_option linter.unusedSimpArgs false
set_option maxRecDepth 20000

def sUpdateMetadataResponseF : List Fld := [(Fld.mk 2 0 (-1) (-1) (-1) 0 0 [])]
def sUpdateMetadataResponseX : Int := 6
theorem sUpdateMetadataResponse (w : World) (F : Nat → Nat → Prop) : Calls Tryd.prog 21 #[] w (GivesM w F sUpdateMetadataResponseF sUpdateMetadataResponseX) := by
  refine enter (n := 4) Tryd.func21 rfl Tryd.ntmps21 (by kernel_rfl) fun a hE => ?_
  have hW := WOk.start w Nil
  refine go_seq_region [0] (by kernel_rfl) ?_
  refine of_op (wpOp_alloc hW hE (d := 0) (cs := [.slice none 0 0, .int .i64 0]) (by kernel_rfl) fun b1 a2 w3 hb4 hz5 hF6 hW7 hE8 => ?_)
  clear hE hW
  refine wpOps_nil ?_
  refine then_normal ?_
  refine go_seq_region [0, 1, 2, 3] (by kernel_rfl) ?_
  refine go_rn [0] [1, 2, 3] [(0, .p 0 0), (1, .v (.agg #[.int .i64 2, .int .i64 0, .int .i64 (-1), .int .i64 (-1), .int .i64 (-1), .int .i64 0, .int .i64 0, .slice none 0 0]))] hW7 hE8 fun a9 hE10 => ?_
  clear hE8
  refine of_op (wpOp_lit hW7 hE10 (e := 56) (size := 8) (len := 1) (cs := [.int .i64 2, .int .i64 0, .int .i64 (-1), .int .i64 (-1), .int .i64 (-1), .int .i64 0, .int .i64 0, .slice none 0 0]) (d := 2) (by kernel_rfl) (by kernel_rfl) fun b11 a12 w13 hb14 hz15 hF16 hW17 hE18 => ?_)
  clear hE10 hW7
  refine go_rn [2] [3] [(0, .p 0 0), (3, .v (.agg #[.slice (some ⟨b11, 0, none⟩) 1 1, .int .i64 6]))] hW17 hE18 fun a19 hE20 => ?_
  clear hE18
  refine of_op (wpOp_store hW17 hE20 (oi := 0) (cs := [.slice (some ⟨b11, 0, none⟩) 1 1, .int .i64 6]) (by kernel_rfl) fun w21 hF22 hW23 hE24 => ?_)
  clear hE20 hW17
  refine wpOps_nil ?_
  refine then_normal ?_
  refine wp_ret ?_
  refine leave hE24 hW23.cells (v := .agg #[.slice (some ⟨b11, 0, none⟩) 1 1, .int .i64 6]) (by kernel_rfl) ?_
  have hfl25 := Flds.slots (F := F) hW23 (k := 0) (n := 1) (xs := [.int .i64 2, .int .i64 0, .int .i64 (-1), .int .i64 (-1), .int .i64 (-1), .int .i64 0, .int .i64 0, .slice none 0 0]) rfl (Flds.snoc (Flds.nil _ _) (c := [.int .i64 2, .int .i64 0, .int .i64 (-1), .int .i64 (-1), .int .i64 (-1), .int .i64 0, .int .i64 0, .slice none 0 0]) (x := (Fld.mk 2 0 (-1) (-1) (-1) 0 0 [])) (FldR.mk (l := []) _ (noFlds w21 (Fp F w)).1 (noFlds w21 (Fp F w)).2)) rfl (by decide)
  exact ⟨_, _, rfl, ⟨_, hfl25.1, hfl25.2⟩, hW23.step⟩

end Go.Proofs.YthfdlmnfjcpioaaDoor.ME

/- Printed by tools/mk.py. Own work. -/
namespace Go.Proofs.YthfdlmnfjcpioaaDoor.ME
open Go
open Go.RowKit
set_option linter.unusedVariables false
set_option linter.unusedSimpArgs false
set_option maxRecDepth 20000

def canUpdateMetadataResponse (T : Tree) : Prop := (True) ∧ canU T.U ∧ True
theorem canfitUpdateMetadataResponse (v : Int) (t : Tree) : canUpdateMetadataResponse (fitT v 8 sUpdateMetadataResponseF t) := by
  unfold canUpdateMetadataResponse
  exact ⟨(trivial), (canU_fit), (trivial)⟩

set_option maxHeartbeats 4000000 in
theorem pureUpdateMetadataResponse (v : Int) (h0 : 0 ≤ v) (h1 : v < 32768) (t : Tree) : tUpdateMetadataResponse v (fitT v 8 sUpdateMetadataResponseF t) = writeB 8 sUpdateMetadataResponseF sUpdateMetadataResponseX v t := by
  have f5 : ((fitT v 8 sUpdateMetadataResponseF t).at_ 0).N = (t.at_ 0).N := fit_N (d := 7) (show sUpdateMetadataResponseF[0]? = _ from rfl) (by decide)
  unfold tUpdateMetadataResponse
  simp only [fit_U, tagsR_whole, wholeU_len, List.flatMap_map, List.length_map, f5]
  try simp only [be4_i32', be2_i16, be8_i64, be1_i8, be2_wrap, sixteenB_uuid, bool8, be8_f64]
  by_cases c0 : v ≥ 6 <;> first | (exfalso; omega) | simp [writeB, sUpdateMetadataResponseX, sUpdateMetadataResponseF, partB, partW, bodyB, Fld.tag, Fld.has, fieldB, Fld.kind, Fld.null, Fld.of, Fld.sub, valueB, widthI, tagsN, tagsK, knownI, countedB, uv0, nul_no, c0, h0]

end Go.Proofs.YthfdlmnfjcpioaaDoor.ME

/- Lists of a message, laid anew: data against trees. Own work. -/
namespace Go.Proofs.YthfdlmnfjcpioaaDoor.ME
open Go
open Go.RowKit
set_option linter.unusedVariables false
set_option linter.unusedSimpArgs false

/-- what is known of data stays known where nothing of it is written -/
def Moves (ok : World → (Nat → Nat → Prop) → DV → Prop) : Prop := ∀ {w w' : World} {F F' M : Nat → Nat → Prop} (d : DV), Step w w' M → (∀ b o, F b o → b < w.heap.size → ¬ M b o) → (∀ b o, F b o → b < w.heap.size → F' b o) → ok w F d → ok w' F' d
section
variable {w w' w0 : World} {F F' M : Nat → Nat → Prop} {size : Nat} {cells : DV → List Value} {ok : World → (Nat → Nat → Prop) → DV → Prop} {rel : DV → Tree → Prop} {xs : List Value} {ds : List DV} {ts : List Tree} {A : Option Addr} {c : Nat} {f : Nat → DV} {tb : Tb} {rs rs' : List Rw}
end
/-- a number as a datum -/
def dvN (n : Int) : DV := .mk n false ByteArray.empty [] none 0 0 none [] (fun _ => .leaf)
def dvP (m : Option Nat) (u : List (Int × Bs)) (fs : List DV) : DV := .mk 0 false ByteArray.empty [] none 0 0 m u (fun i => fs.getD i .leaf)

/-- slots that hold addresses, in a table -/
theorem EnvOk.retable {n : Nat} {env : Env} {a : Act} (tb : Tb) (h : EnvOk n [] env a) : EnvOk n tb env a := h.table fun i hi => absurd hi (Nat.not_lt_zero i)

end Go.Proofs.YthfdlmnfjcpioaaDoor.ME

/- Reading: parts of octets, and the reader's state. Own work. -/
namespace Go.Proofs.YthfdlmnfjcpioaaDoor.ME
open Go
open Go.RowKit
set_option linter.unusedVariables false
set_option linter.unusedSimpArgs false

/-- the address behind the first j octets -/
def cutA (A : Option Addr) (cp j : Nat) : Option Addr := if cp = j then A else A.map (·.add j)
theorem getD_drop (s : Bs) (j i : Nat) : (s.drop j).getD i 0 = s.getD (j + i) 0 := by
  rw [List.getD_eq_getElem?_getD, List.getD_eq_getElem?_getD, List.getElem?_drop]
theorem Octs.drop {w : World} {F : Nat → Nat → Prop} {A : Option Addr} {c : Nat} {s : Bs} (h : Octs w F A c s) {j : Nat} (hj : j ≤ s.length) : Octs w F (cutA A c j) (c - j) (s.drop j) := by
  have hle := h.le
  have hsm := h.small
  unfold Octs
  rw [List.length_drop]
  refine ⟨by omega, by omega, fun hA => ?_, fun ad hA hn => ?_⟩
  · have hn : A = none := by
      unfold cutA at hA
      split at hA
      · exact hA
      · cases A with
        | none => rfl
        | some _ => cases hA
    have := h.none_ hn
    omega
  · have hA' : A.map (·.add j) = some ad := by
      unfold cutA at hA
      rwa [if_neg (by omega)] at hA
    cases hq : A with
    | none => rw [hq] at hA'; cases hA'
    | some ad0 =>
      rw [hq] at hA'
      obtain ⟨b, o, rfl, h2⟩ := h.some_ ad0 hq (by omega)
      simp only [Option.map_some, Option.some.injEq, add_none] at hA'
      subst hA'
      refine ⟨b, o + j, rfl, fun i hi => ?_⟩
      rw [getD_drop, show o + j + i * 1 = o + (j + i) * 1 by omega]
      exact h2 (j + i) (by omega)
theorem Octs.cutS {w : World} {F : Nat → Nat → Prop} {A : Option Addr} {c : Nat} {s : Bs} (h : Octs w F A c s) {j : Nat} (hj : j ≤ s.length) : Octs w F A j (s.take j) := by
  have h1 := h.take j
  refine ⟨by rw [List.length_take]; omega, h1.small, fun hA => ?_, h1.some_⟩
  have := h.none_ hA
  rw [List.length_take]; omega

section
variable {P : Program} {ops : Array Oper} {Q : Exit → Act → World → Prop} {n : Nat} {tb : Tb} {env : Env} {rs : List Rw} {w0 : World} {M : Nat → Nat → Prop} {a : Act} {w : World}
theorem run_cut_lo {t e : TypeId} {bytes : Nat} (ht : rowTy P t = some (e, 1, bytes)) {A : Option Addr} {m cp : Nat} {k : IntKind} {q : Int} (h0 : 0 ≤ q) (h1 : q ≤ m) :
    (Instr.sliceAt t (.slice A m cp) (some (.int k q)) none none).run P w = .ok (.slice (cutA A cp q.toNat) (m - q.toNat) (cp - q.toNat)) w := by
  obtain ⟨ht', inf, z, hi, hz, hzs, hs1, rfl, hsz, hbp⟩ := rowTy_ok ht
  unfold Instr.sliceAt
  simp only [Sem.run_bind, run_underlying ht', Result.andThen_ok]
  unfold Instr.slice
  have hb : (0 ≤ q ∧ q ≤ (m : Int)) := ⟨h0, h1⟩
  simp only [Sem.run_bind, run_underlying ht', Result.andThen_ok, Instr.sliceBounds, Instr.sliceBound, asIntOf, Sem.run_pure, if_pos hb, run_sizeOf' hi, hs1, Nat.mul_one]
  rfl
theorem run_cut_hm {t e : TypeId} {bytes : Nat} (ht : rowTy P t = some (e, 1, bytes)) {A : Option Addr} {m cp : Nat} {k : IntKind} {q : Int} (h0 : 0 ≤ q) (h1 : q ≤ cp) :
    (Instr.sliceAt t (.slice A m cp) none (some (.int k q)) (some (.int k q))).run P w = .ok (.slice A q.toNat q.toNat) w := by
  obtain ⟨ht', inf, z, hi, hz, hzs, hs1, rfl, hsz, hbp⟩ := rowTy_ok ht
  unfold Instr.sliceAt
  simp only [Sem.run_bind, run_underlying ht', Result.andThen_ok]
  unfold Instr.slice
  have hb : (0 ≤ q ∧ q ≤ (cp : Int)) := ⟨h0, h1⟩
  have hb2 : (0 ≤ q ∧ q ≤ ((q.toNat : Nat) : Int)) := ⟨h0, by omega⟩
  simp only [Sem.run_bind, run_underlying ht', Result.andThen_ok, Instr.sliceBounds, Instr.sliceBound, asIntOf, Sem.run_pure, if_pos hb, if_pos hb2, run_sizeOf' hi]
  cases A with
  | none => simp
  | some ad => simp [Addr.add]
theorem wpOp_cut_lo {i d j : Nat} {N : Act → World → Prop} {t e : TypeId} {bytes m cp : Nat} {A : Option Addr} {q : Int} (hE : EnvOk n tb env a) (h : cutE tb env ops n i = some (t, .slice A m cp, some q, none, d)) (ht : rowTy P t = some (e, 1, bytes)) (hq : q = (j : Int)) (hj : j ≤ m)
    (K : ∀ a', EnvOk n tb ((d, .v (.slice (cutA A cp j) (m - j) (cp - j))) :: env) a' → N a' w) : wpOp P ops Q i N a w := by
  have h0 : 0 ≤ q := by omega
  have h1 : q ≤ m := by omega
  obtain rfl : j = q.toNat := by omega
  unfold cutE at h
  split at h
  · rename_i t' x lo hi d' ho
    have hd : d' < n := (opAt_ok hE ho).choose_spec.2.2.2.1
    split at h
    · simp at h
    · rename_i s l hs
      split at h
      · rename_i k q' hs2
        simp only [Option.some.injEq, Prod.mk.injEq, true_and] at h
        obtain ⟨rfl, hsv, rfl, rfl⟩ := h
        have e1 := (opd_ok hE hs).1
        have e2 := (opd_ok hE hs2).1
        refine wpOp_value hE ho (v := .slice (cutA A cp q'.toNat) (m - q'.toNat) (cp - q'.toNat)) (w' := w) (fun o' hop => ?_) (K _ (hE.put hd (.v _) trivial))
        unfold execOp
        rw [hop]
        rw [hsv] at e1
        simp only [SV.val] at e2
        simp only [e1, e2, Option.map_none, Option.map_some, Sem.run_bind, run_cut_lo ht h0 h1, Result.andThen_ok, Sem.run_pure]
      · cases h
    · split at h <;> simp at h
    · split at h <;> simp at h
    · cases h
  · cases h
/-- 'x[:q:q]' -/
def cutmE (tb : Tb) (env : Env) (ops : Array Oper) (n i : Nat) : Option (TypeId × Value × IntKind × Int × IntKind × Int × Nat) :=
  match opAt env ops n i with
  | some (.slice t x none (some h) (some m), d) => match opd env x, opd env h, opd env m with
    | some s, some (.v (.int k p)), some (.v (.int k' q)) => some (t, s.val tb, k, p, k', q, d)
    | _, _, _ => none
  | _ => none
theorem wpOp_cutm {i d j : Nat} {N : Act → World → Prop} {t e : TypeId} {bytes m cp : Nat} {A : Option Addr} {k : IntKind} {q : Int} (hE : EnvOk n tb env a) (h : cutmE tb env ops n i = some (t, .slice A m cp, k, q, k, q, d)) (ht : rowTy P t = some (e, 1, bytes)) (hq : q = (j : Int)) (hj : j ≤ cp)
    (K : ∀ a', EnvOk n tb ((d, .v (.slice A j j)) :: env) a' → N a' w) : wpOp P ops Q i N a w := by
  have h0 : 0 ≤ q := by omega
  have h1 : q ≤ cp := by omega
  obtain rfl : j = q.toNat := by omega
  unfold cutmE at h
  split at h
  · rename_i t' x hh mm d' ho
    have hd : d' < n := (opAt_ok hE ho).choose_spec.2.2.2.1
    split at h
    · rename_i s k1 p1 k2 q2 g1 g2 g3
      simp only [Option.some.injEq, Prod.mk.injEq] at h
      obtain ⟨rfl, hsv, rfl, rfl, rfl, rfl, rfl⟩ := h
      have f1 := (opd_ok hE g1).1
      have f2 := (opd_ok hE g2).1
      have f3 := (opd_ok hE g3).1
      rw [hsv] at f1
      simp only [SV.val] at f2 f3
      refine wpOp_value hE ho (v := .slice A q2.toNat q2.toNat) (w' := w) (fun o' hop => ?_) (K _ (hE.put hd (.v _) trivial))
      unfold execOp
      rw [hop]
      simp only [f1, f2, f3, Option.map_none, Option.map_some, Sem.run_bind, run_cut_hm ht h0 h1, Result.andThen_ok, Sem.run_pure]
    · cases h
  · cases h
end

/-- the octets that a reader has before it -/
structure RdS (w : World) (F : Nat → Nat → Prop) (A : Option Addr) (n c : Nat) (s : Bs) : Prop where
  len : n = s.length
  oct : Octs w F A c s
theorem RdS.move {w w' : World} {F F' M : Nat → Nat → Prop} {A : Option Addr} {n c : Nat} {s : Bs} (h : RdS w F A n c s) (hs : Step w w' M) (hM : ∀ b o, F b o → b < w.heap.size → ¬ M b o) (hF : ∀ b o, F b o → b < w.heap.size → F' b o) : RdS w' F' A n c s := ⟨h.len, Octs.move h.oct hs hM hF⟩
theorem RdS.cast {w : World} {F : Nat → Nat → Prop} {A : Option Addr} {n c : Nat} {s t : Bs} (h : RdS w F A n c s) (e : s = t) : RdS w F A n c t := e ▸ h
theorem RdS.drop {w : World} {F : Nat → Nat → Prop} {A : Option Addr} {n c j : Nat} {s t : Bs} (h : RdS w F A n c (s ++ t)) (hj : j = s.length) : RdS w F (cutA A c j) (n - j) (c - j) t := by
  subst hj
  have h1 := h.oct.drop (j := s.length) (by rw [List.length_append]; omega)
  rw [List.drop_left] at h1
  exact ⟨by rw [h.len, List.length_append]; omega, h1⟩
theorem RdS.front {w : World} {F : Nat → Nat → Prop} {A : Option Addr} {n c j : Nat} {s t : Bs} (h : RdS w F A n c (s ++ t)) (hj : j = s.length) : Octs w F A j s := by
  subst hj
  have h1 := h.oct.cutS (j := s.length) (by rw [List.length_append]; omega)
  rwa [List.take_left] at h1
/-- the reader's two cells, and nothing else of what was there, may be written -/
def RdM (br : Nat) : Nat → Nat → Prop := fun b o => b = br ∧ o < 2
def RdPost (w : World) (br : Nat) (F : Nat → Nat → Prop) (rest : Bs) (Q : Value → World → Prop) : Ending → World → Prop := fun e w' =>
  ∃ v A' n' c', e = .returned v ∧ Str w' br [.slice A' n' c', .bool false] ∧ RdS w' F A' n' c' rest ∧ Step w w' (RdM br) ∧ Q v w'
theorem WOk.startStr {w : World} {p : Nat} {cs : List Value} (h : Str w p cs) (hn : Nat.blt 0 cs.length = true := by kernel_rfl) : WOk w (fun b o => b = p ∧ o < cs.length) w [⟨p, 0, cs, true⟩] [] := by
  have hn' : 0 < cs.length := by simpa [Nat.blt_eq] using hn
  exact (WOk.start w _).add ⟨p, 0, cs, true⟩ (World.lt_of_cell (h.at_ 0 _ (List.getElem?_eq_getElem hn'))) (fun j v hj => by rw [Nat.zero_add]; exact h.at_ j v hj) (fun _ j hj => ⟨.inr ⟨rfl, by rw [Nat.zero_add]; exact hj⟩, by rw [Nat.zero_add]; exact h.frz j hj⟩) (fun i o hi => by simp at hi) (fun i r hi => by simp at hi)
/-- a call has written one of the known places anew -/
theorem WOk.wrote {w0 w w' : World} {M : Nat → Nat → Prop} {tb : Tb} {rs : List Rw} {p : Nat} {cs cs' : List Value} (hW : WOk w0 M w tb rs) (i : Nat) (tb' : Tb) (hi : tb[i]? = some ⟨p, 0, cs, true⟩) (hst : Step w w' (fun b o => b = p ∧ o < cs.length)) (hs : Str w' p cs') (ht : tb.set i ⟨p, 0, cs', true⟩ = tb' := by rfl) (hl : cs'.length = cs.length := by rfl) :
    WOk w0 M w' tb' rs ∧ Fr w tb rs w' tb' rs ∧ ∀ {G : Nat → Nat → Prop} (b o : Nat), Fp (Imm G w0 w tb rs) w b o → b < w'.heap.size → Imm G w0 w' tb' rs b o := by
  subst ht
  have key : ∀ (j : Nat) (o : Ob), (tb.set i ⟨p, 0, cs', true⟩)[j]? = some o → (j = i ∧ o = ⟨p, 0, cs', true⟩) ∨ (j ≠ i ∧ tb[j]? = some o) := fun j o hj => by
    rcases set_get hj with ⟨h1, h2, _⟩ | ⟨h1, h2⟩
    · exact .inl ⟨h1, h2⟩
    · exact .inr ⟨h1, h2⟩
  have far : ∀ (j : Nat) (o : Ob), j ≠ i → tb[j]? = some o → ∀ q, q < o.cells.length → ¬ (o.blk = p ∧ o.off + q < cs.length) := fun j o hne hj q hq e => by
    rcases hW.apart j i o _ hne hj hi (.inr rfl) with h1 | h1 | h1
    · exact h1 e.1
    · simp only [Nat.le_zero] at h1; omega
    · simp only [Nat.zero_add] at h1; omega
  have act : ∀ b o, Act_ (tb.set i ⟨p, 0, cs', true⟩) rs b o → Act_ tb rs b o := fun b o ha => by
    rcases ha with ⟨j, ob, hj, h1, h2, h3, h4⟩ | ha
    · rcases key j ob hj with ⟨rfl, rfl⟩ | ⟨_, hj⟩
      · exact .inl ⟨j, _, hi, rfl, h2, h3, by simpa [hl] using h4⟩
      · exact .inl ⟨j, ob, hj, h1, h2, h3, h4⟩
    · exact .inr ha
  refine ⟨⟨hW.step.trans hst fun b o hb e => ?_, ?_, ?_, ?_, ?_, ?_, hW.ownM, ?_, hW.rr⟩, ⟨fun b o _ hn ha => hn (act b o ha), hst.mono fun b o _ e => .inl ⟨i, _, hi, rfl, e.1.symm, Nat.zero_le _, by simpa using e.2⟩⟩, fun b o hf hb => ?_⟩
  rotate_right
  · rcases hf with hf | hf
    · exact ⟨hf.1, hb, fun ha => hf.2.2 (act b o ha)⟩
    · exact ⟨.inr (Nat.le_trans hW.step.size hf), hb, fun ha => by have := hW.act_live (act b o ha); omega⟩
  · have h1 := (hW.rw_ i _ hi rfl o e.2).1
    simp only [Nat.zero_add] at h1
    rcases h1 with h1 | h1
    · have := e.1; omega
    · rw [e.1]; exact h1
  · intro j o hj q v hv
    rcases key j o hj with ⟨rfl, rfl⟩ | ⟨hne, hj⟩
    · dsimp only
      rw [Nat.zero_add]
      exact hs.at_ q v hv
    · exact hst.cell (far j o hne hj q (List.getElem?_eq_some_iff.1 hv).1) (hW.cells j o hj q v hv)
  · intro j o hj
    rcases key j o hj with ⟨rfl, rfl⟩ | ⟨_, hj⟩
    · have h1 := hW.live j _ hi
      exact Nat.lt_of_lt_of_le h1 hst.size
    · exact Nat.lt_of_lt_of_le (hW.live j o hj) hst.size
  · intro j o hj hr q hq
    rcases key j o hj with ⟨rfl, rfl⟩ | ⟨hne, hj⟩
    · dsimp only at hq ⊢
      refine ⟨(hW.rw_ j _ hi rfl q (by simpa [hl] using hq)).1, ?_⟩
      rw [Nat.zero_add]
      exact hs.frz q hq
    · obtain ⟨h1, h2⟩ := hW.rw_ j o hj hr q hq
      exact ⟨h1, hst.frozen (far j o hne hj q hq) (hW.cells j o hj q _ (List.getElem?_eq_getElem hq)) h2⟩
  · intro j k o o' hjk hj hk hw
    rcases key j o hj with ⟨rfl, rfl⟩ | ⟨hne, hj'⟩
    · rcases key k o' hk with ⟨rfl, rfl⟩ | ⟨hne', hk'⟩
      · exact absurd rfl hjk
      · have := hW.apart j k _ o' hjk hi hk' (.inl rfl)
        simpa [hl] using this
    · rcases key k o' hk with ⟨rfl, rfl⟩ | ⟨hne', hk'⟩
      · have := hW.apart j k o _ hjk hj' hi (.inr rfl)
        simpa [hl] using this
      · exact hW.apart j k o o' hjk hj' hk' hw
  · intro j r hj
    refine own_keep (hW.own j r hj) fun g hg => (hst.keeps g (own_live (hW.own j r hj) hg)).1 fun o e => ?_
    exact hW.rtb j r hj g hg i _ hi e.1.symm
  · intro j r hj g hg k o hk
    rcases key k o hk with ⟨rfl, rfl⟩ | ⟨_, hk⟩
    · have h1 := hW.rtb j r hj g hg k _ hi
      exact h1
    · exact hW.rtb j r hj g hg k o hk
/-- a row that is not written any more -/
theorem WOk.giveUp {G : Nat → Nat → Prop} {w0 w : World} {tb : Tb} {rs : List Rw} {A : Option Addr} {c e : Nat} {s : Bs} (hW : WOk w0 Nil w tb rs) (k : Nat) (rs' : List Rw) (hk : rs[k]? = some (brow A c e s)) (hsm : s.length ≤ 1099511627776) (hr : rs.take k = rs' := by rfl) : Octs w (Imm G w0 w tb rs') A c s := by
  subst hr
  refine octs_own (hW.own k _ hk) hsm fun g hg o => ?_
  have hb := own_live (hW.own k _ hk) (r := brow A c e s) hg
  refine ⟨?_, hb, fun ha => ?_⟩
  · rcases hW.ownM k _ hk g hg with h2 | h2
    · exact .inr h2
    · exact (h2 0).elim
  · rcases ha with ⟨i, ob, h2, _, h3, _⟩ | ⟨i, r, h2, h3⟩
    · exact hW.rtb k _ hk g hg i ob h2 h3
    · rw [List.getElem?_take] at h2
      split at h2
      · rename_i hlt
        exact hW.rr k i _ r (by omega) hk h2 g hg h3
      · cases h2
theorem imm_blk {G : Nat → Nat → Prop} {w0 w : World} {tb : Tb} {rs : List Rw} {r : Rw} {A : Option Addr} (k : Nat) (hk : rs[k]? = some r) (hA : r.A = A := by rfl) : ∀ b o, Imm G w0 w tb rs b o → ¬ Blk A b o := fun b o h hB => by
  subst hA
  exact h.2.2 (.inr ⟨k, r, hk, hB⟩)
/-- a struct that is not written any more -/
theorem WOk.strImm {G : Nat → Nat → Prop} {w0 w : World} {tb : Tb} {rs : List Rw} {p : Nat} {cs : List Value} (hW : WOk w0 Nil w tb rs) (i : Nat) (hi : tb[i]? = some ⟨p, 0, cs, true⟩) : AtF w (Imm G w0 w [] rs) p 0 cs := fun j v hj => by
  have h1 := hW.cells i _ hi j v hj
  have hlt : j < cs.length := (List.getElem?_eq_some_iff.1 hj).1
  refine ⟨⟨?_, hW.live i _ hi, fun ha => ?_⟩, h1⟩
  · rcases (hW.rw_ i _ hi rfl j hlt).1 with h2 | h2
    · exact .inr h2
    · exact h2.elim
  · rcases ha with ⟨k, ob, h2, _⟩ | ⟨k, r, h2, h3⟩
    · simp at h2
    · exact hW.rtb k r h2 p h3 i _ hi rfl
theorem imm_not {G : Nat → Nat → Prop} {w0 w : World} {tb : Tb} {rs : List Rw} {p : Nat} {cs : List Value} (i : Nat) (hi : tb[i]? = some ⟨p, 0, cs, true⟩) : ∀ b o, Imm G w0 w tb rs b o → ¬ (b = p ∧ o < cs.length) := fun b o h e => by
  obtain ⟨rfl, h2⟩ := e
  exact h.2.2 (.inl ⟨i, _, hi, rfl, rfl, Nat.zero_le _, by simpa using h2⟩)

end Go.Proofs.YthfdlmnfjcpioaaDoor.ME

/- Reading: numbers out of octets. Plain facts. Own work. -/
namespace Go.Proofs.YthfdlmnfjcpioaaDoor.ME
open Go
set_option linter.unusedVariables false
set_option linter.unusedSimpArgs false

theorem scope_ret {Q : Exit → Act → World → Prop} {a : Act} {w : World} (h : Q .ret a w) : Exit.noGoto Q .ret a w := h
theorem or_join (k : IntKind) (n : Nat) (hn : n = k.bits) (hk : ∀ z : Int, 0 ≤ z → z < 2 ^ n → k.wrap z = z) (i : Nat) (y x : Int) (h0 : 0 ≤ y) (h1 : y < 2 ^ i) (h2 : y < 2 ^ n) (h3 : 0 ≤ x) (h4 : x % 2 ^ i = 0) (h5 : x < 2 ^ n) :
    k.wrap (BitVec.ofInt n y ||| BitVec.ofInt n x).toNat = y + x := by
  subst hn
  exact bits_join_low k k.bits (Nat.le_refl _) hk i y x h0 h1 h2 h3 h4 h5
theorem or16 (i : Nat) (y x : Int) (h0 : 0 ≤ y) (h1 : y < 2 ^ i) (h2 : y < 2 ^ 16) (h3 : 0 ≤ x) (h4 : x % 2 ^ i = 0) (h5 : x < 2 ^ 16) : IntKind.u16.wrap (BitVec.ofInt 16 y ||| BitVec.ofInt 16 x).toNat = y + x :=
  or_join .u16 16 rfl (fun z a b => by rw [wrap_u16]; omega) i y x h0 h1 h2 h3 h4 h5
theorem or32 (i : Nat) (y x : Int) (h0 : 0 ≤ y) (h1 : y < 2 ^ i) (h2 : y < 2 ^ 32) (h3 : 0 ≤ x) (h4 : x % 2 ^ i = 0) (h5 : x < 2 ^ 32) : IntKind.u32.wrap (BitVec.ofInt 32 y ||| BitVec.ofInt 32 x).toNat = y + x :=
  or_join .u32 32 rfl (fun z a b => by rw [wrap_u32]; omega) i y x h0 h1 h2 h3 h4 h5
theorem and128 (n : Nat) (h : n < 256) : (IntKind.u8.wrap (BitVec.ofInt 8 ((n : Nat) : Int) &&& BitVec.ofInt 8 128).toNat == 0) = decide (n < 128) := by
  have : ∀ m : Fin 256, (IntKind.u8.wrap (BitVec.ofInt 8 ((m.val : Nat) : Int) &&& BitVec.ofInt 8 128).toNat == 0) = decide (m.val < 128) := by decide +kernel
  exact this ⟨n, h⟩
theorem and127b (n : Nat) (h : n < 256) : IntKind.u8.wrap (BitVec.ofInt 8 ((n : Nat) : Int) &&& BitVec.ofInt 8 127).toNat = ((n % 128 : Nat) : Int) := by
  have : ∀ m : Fin 256, IntKind.u8.wrap (BitVec.ofInt 8 ((m.val : Nat) : Int) &&& BitVec.ofInt 8 127).toNat = ((m.val % 128 : Nat) : Int) := by decide +kernel
  exact this ⟨n, h⟩
/-- one octet of some -/
def oc (s : Bs) (i : Nat) : Nat := (s.getD i 0).toNat
theorem oc_lt (s : Bs) (i : Nat) : oc s i < 256 := (s.getD i 0).toNat_lt
theorem oc_cons (b : UInt8) (s : Bs) (i : Nat) : oc (b :: s) (i + 1) = oc s i := rfl
theorem oc_zero (b : UInt8) (s : Bs) : oc (b :: s) 0 = b.toNat := rfl
theorem oc_by8 (x : Int) (s : Bs) : ((oc (by8 x :: s) 0 : Nat) : Int) = x % 256 := by rw [oc_zero, by8_toNat]
def be16 (s : Bs) : Int := ((oc s 0 : Nat) : Int) * 256 + oc s 1
theorem be16_be (x : Int) (s : Bs) : be16 (be 2 x ++ s) = IntKind.u16.wrap x := by
  rw [wrap_u16]
  simp only [be, List.cons_append, List.nil_append, be16, oc_cons, oc_by8, Int.reducePow]
  omega
theorem i8w (x : Int) : IntKind.i8.wrap x = (x + 128) % 256 - 128 := by simp [IntKind.wrap, IntKind.signed, IntKind.bits]; omega
theorem i16w (x : Int) : IntKind.i16.wrap x = (x + 32768) % 65536 - 32768 := by simp [IntKind.wrap, IntKind.signed, IntKind.bits]; omega
theorem i32w (x : Int) : IntKind.i32.wrap x = (x + 2147483648) % 4294967296 - 2147483648 := by simp [IntKind.wrap, IntKind.signed, IntKind.bits]; omega
theorem i64w (x : Int) : IntKind.i64.wrap x = (x + 9223372036854775808) % 18446744073709551616 - 9223372036854775808 := by simp [IntKind.wrap, IntKind.signed, IntKind.bits]; omega
theorem i16_u16 (x : Int) : IntKind.i16.wrap (IntKind.u16.wrap x) = IntKind.i16.wrap x := by rw [i16w, i16w, wrap_u16]; omega
theorem ww8 (x : Int) : IntKind.i8.wrap (IntKind.i8.wrap x) = IntKind.i8.wrap x := by rw [i8w, i8w]; omega
theorem ww16 (x : Int) : IntKind.i16.wrap (IntKind.i16.wrap x) = IntKind.i16.wrap x := by rw [i16w, i16w]; omega
theorem ww32 (x : Int) : IntKind.i32.wrap (IntKind.i32.wrap x) = IntKind.i32.wrap x := by rw [i32w, i32w]; omega
/-- the octets of a number in groups of seven bits, one by one -/
theorem uv_oc {x : Nat} (s : Bs) : oc (uv x ++ s) 0 = if x < 128 then x else x % 128 + 128 := by
  by_cases h : x < 128
  · rw [uv_small h, if_pos h]
    show (UInt8.ofNat x).toNat = x
    rw [UInt8.toNat_ofNat']; omega
  · rw [uv_big (by omega), if_neg h]
    show (UInt8.ofNat (x % 128 + 128)).toNat = _
    rw [UInt8.toNat_ofNat']; omega
theorem uv_oc1 {x : Nat} (h : 128 ≤ x) (s : Bs) (i : Nat) : oc (uv x ++ s) (i + 1) = oc (uv (x / 128) ++ s) i := by
  rw [uv_big h]; rfl

theorem u16_le (b0 b1 : Nat) (h0 : b0 < 256) (h1 : b1 < 256) : IntKind.u16.wrap (BitVec.ofInt 16 (IntKind.u16.wrap (((b1 : Nat) : Int))) ||| BitVec.ofInt 16 (IntKind.u16.wrap (IntKind.u16.wrap (((b0 : Nat) : Int)) * 256))).toNat = ((b0 : Nat) : Int) * 256 + ((b1 : Nat) : Int) := by
  have e1 : IntKind.u16.wrap (BitVec.ofInt 16 (IntKind.u16.wrap (((b1 : Nat) : Int))) ||| BitVec.ofInt 16 (IntKind.u16.wrap (IntKind.u16.wrap (((b0 : Nat) : Int)) * 256))).toNat = ((b1 : Nat) : Int) + ((b0 : Nat) : Int) * 256 := by
    rw [or16 8 _ _ (by first | omega | (simp only [wrap_u16]; omega)) (by first | omega | (simp only [wrap_u16]; omega)) (by first | omega | (simp only [wrap_u16]; omega)) (by first | omega | (simp only [wrap_u16]; omega)) (by first | omega | (simp only [wrap_u16]; omega)) (by first | omega | (simp only [wrap_u16]; omega))]; first | omega | (simp only [wrap_u16]; omega)
  rw [e1]
  omega
theorem uv_1 (b0 : Nat) (h0 : b0 < 256) : IntKind.u32.wrap (IntKind.u8.wrap (BitVec.ofInt 8 ((b0 : Nat) : Int) &&& BitVec.ofInt 8 127).toNat) = ((b0 % 128 : Nat) : Int) := by
  rw [and127b b0 h0, wrap_u32]; omega
theorem uv_2 (b0 b1 : Nat) (h0 : b0 < 256) (h1 : b1 < 256) : IntKind.u32.wrap (BitVec.ofInt 32 (IntKind.u32.wrap (IntKind.u8.wrap (BitVec.ofInt 8 ((b0 : Nat) : Int) &&& BitVec.ofInt 8 127).toNat)) ||| BitVec.ofInt 32 (IntKind.u32.wrap (IntKind.u32.wrap (IntKind.u8.wrap (BitVec.ofInt 8 ((b1 : Nat) : Int) &&& BitVec.ofInt 8 127).toNat) * 128))).toNat = ((b0 % 128 : Nat) : Int) + ((b1 % 128 : Nat) : Int) * 128 := by
  have e1 : IntKind.u32.wrap (BitVec.ofInt 32 (IntKind.u32.wrap (IntKind.u8.wrap (BitVec.ofInt 8 ((b0 : Nat) : Int) &&& BitVec.ofInt 8 127).toNat)) ||| BitVec.ofInt 32 (IntKind.u32.wrap (IntKind.u32.wrap (IntKind.u8.wrap (BitVec.ofInt 8 ((b1 : Nat) : Int) &&& BitVec.ofInt 8 127).toNat) * 128))).toNat = ((b0 % 128 : Nat) : Int) + ((b1 % 128 : Nat) : Int) * 128 := by
    rw [and127b b1 h1, and127b b0 h0]; rw [or32 7 _ _ (by first | omega | (simp only [wrap_u32]; omega)) (by first | omega | (simp only [wrap_u32]; omega)) (by first | omega | (simp only [wrap_u32]; omega)) (by first | omega | (simp only [wrap_u32]; omega)) (by first | omega | (simp only [wrap_u32]; omega)) (by first | omega | (simp only [wrap_u32]; omega))]; first | omega | (simp only [wrap_u32]; omega)
  rw [e1]
theorem uv_3 (b0 b1 b2 : Nat) (h0 : b0 < 256) (h1 : b1 < 256) (h2 : b2 < 256) : IntKind.u32.wrap (BitVec.ofInt 32 (IntKind.u32.wrap (BitVec.ofInt 32 (IntKind.u32.wrap (IntKind.u8.wrap (BitVec.ofInt 8 ((b0 : Nat) : Int) &&& BitVec.ofInt 8 127).toNat)) ||| BitVec.ofInt 32 (IntKind.u32.wrap (IntKind.u32.wrap (IntKind.u8.wrap (BitVec.ofInt 8 ((b1 : Nat) : Int) &&& BitVec.ofInt 8 127).toNat) * 128))).toNat) ||| BitVec.ofInt 32 (IntKind.u32.wrap (IntKind.u32.wrap (IntKind.u8.wrap (BitVec.ofInt 8 ((b2 : Nat) : Int) &&& BitVec.ofInt 8 127).toNat) * 16384))).toNat = ((b0 % 128 : Nat) : Int) + ((b1 % 128 : Nat) : Int) * 128 + ((b2 % 128 : Nat) : Int) * 16384 := by
  have e1 : IntKind.u32.wrap (BitVec.ofInt 32 (IntKind.u32.wrap (IntKind.u8.wrap (BitVec.ofInt 8 ((b0 : Nat) : Int) &&& BitVec.ofInt 8 127).toNat)) ||| BitVec.ofInt 32 (IntKind.u32.wrap (IntKind.u32.wrap (IntKind.u8.wrap (BitVec.ofInt 8 ((b1 : Nat) : Int) &&& BitVec.ofInt 8 127).toNat) * 128))).toNat = ((b0 % 128 : Nat) : Int) + ((b1 % 128 : Nat) : Int) * 128 := by
    rw [and127b b1 h1, and127b b0 h0]; rw [or32 7 _ _ (by first | omega | (simp only [wrap_u32]; omega)) (by first | omega | (simp only [wrap_u32]; omega)) (by first | omega | (simp only [wrap_u32]; omega)) (by first | omega | (simp only [wrap_u32]; omega)) (by first | omega | (simp only [wrap_u32]; omega)) (by first | omega | (simp only [wrap_u32]; omega))]; first | omega | (simp only [wrap_u32]; omega)
  have e2 : IntKind.u32.wrap (BitVec.ofInt 32 (((b0 % 128 : Nat) : Int) + ((b1 % 128 : Nat) : Int) * 128) ||| BitVec.ofInt 32 (IntKind.u32.wrap (IntKind.u32.wrap (IntKind.u8.wrap (BitVec.ofInt 8 ((b2 : Nat) : Int) &&& BitVec.ofInt 8 127).toNat) * 16384))).toNat = ((b0 % 128 : Nat) : Int) + ((b1 % 128 : Nat) : Int) * 128 + ((b2 % 128 : Nat) : Int) * 16384 := by
    rw [and127b b2 h2]; rw [or32 14 _ _ (by first | omega | (simp only [wrap_u32]; omega)) (by first | omega | (simp only [wrap_u32]; omega)) (by first | omega | (simp only [wrap_u32]; omega)) (by first | omega | (simp only [wrap_u32]; omega)) (by first | omega | (simp only [wrap_u32]; omega)) (by first | omega | (simp only [wrap_u32]; omega))]; first | omega | (simp only [wrap_u32]; omega)
  rw [e1, e2]
theorem uv_4 (b0 b1 b2 b3 : Nat) (h0 : b0 < 256) (h1 : b1 < 256) (h2 : b2 < 256) (h3 : b3 < 256) : IntKind.u32.wrap (BitVec.ofInt 32 (IntKind.u32.wrap (BitVec.ofInt 32 (IntKind.u32.wrap (BitVec.ofInt 32 (IntKind.u32.wrap (IntKind.u8.wrap (BitVec.ofInt 8 ((b0 : Nat) : Int) &&& BitVec.ofInt 8 127).toNat)) ||| BitVec.ofInt 32 (IntKind.u32.wrap (IntKind.u32.wrap (IntKind.u8.wrap (BitVec.ofInt 8 ((b1 : Nat) : Int) &&& BitVec.ofInt 8 127).toNat) * 128))).toNat) ||| BitVec.ofInt 32 (IntKind.u32.wrap (IntKind.u32.wrap (IntKind.u8.wrap (BitVec.ofInt 8 ((b2 : Nat) : Int) &&& BitVec.ofInt 8 127).toNat) * 16384))).toNat) ||| BitVec.ofInt 32 (IntKind.u32.wrap (IntKind.u32.wrap (IntKind.u8.wrap (BitVec.ofInt 8 ((b3 : Nat) : Int) &&& BitVec.ofInt 8 127).toNat) * 2097152))).toNat = ((b0 % 128 : Nat) : Int) + ((b1 % 128 : Nat) : Int) * 128 + ((b2 % 128 : Nat) : Int) * 16384 + ((b3 % 128 : Nat) : Int) * 2097152 := by
  have e1 : IntKind.u32.wrap (BitVec.ofInt 32 (IntKind.u32.wrap (IntKind.u8.wrap (BitVec.ofInt 8 ((b0 : Nat) : Int) &&& BitVec.ofInt 8 127).toNat)) ||| BitVec.ofInt 32 (IntKind.u32.wrap (IntKind.u32.wrap (IntKind.u8.wrap (BitVec.ofInt 8 ((b1 : Nat) : Int) &&& BitVec.ofInt 8 127).toNat) * 128))).toNat = ((b0 % 128 : Nat) : Int) + ((b1 % 128 : Nat) : Int) * 128 := by
    rw [and127b b1 h1, and127b b0 h0]; rw [or32 7 _ _ (by first | omega | (simp only [wrap_u32]; omega)) (by first | omega | (simp only [wrap_u32]; omega)) (by first | omega | (simp only [wrap_u32]; omega)) (by first | omega | (simp only [wrap_u32]; omega)) (by first | omega | (simp only [wrap_u32]; omega)) (by first | omega | (simp only [wrap_u32]; omega))]; first | omega | (simp only [wrap_u32]; omega)
  have e2 : IntKind.u32.wrap (BitVec.ofInt 32 (((b0 % 128 : Nat) : Int) + ((b1 % 128 : Nat) : Int) * 128) ||| BitVec.ofInt 32 (IntKind.u32.wrap (IntKind.u32.wrap (IntKind.u8.wrap (BitVec.ofInt 8 ((b2 : Nat) : Int) &&& BitVec.ofInt 8 127).toNat) * 16384))).toNat = ((b0 % 128 : Nat) : Int) + ((b1 % 128 : Nat) : Int) * 128 + ((b2 % 128 : Nat) : Int) * 16384 := by
    rw [and127b b2 h2]; rw [or32 14 _ _ (by first | omega | (simp only [wrap_u32]; omega)) (by first | omega | (simp only [wrap_u32]; omega)) (by first | omega | (simp only [wrap_u32]; omega)) (by first | omega | (simp only [wrap_u32]; omega)) (by first | omega | (simp only [wrap_u32]; omega)) (by first | omega | (simp only [wrap_u32]; omega))]; first | omega | (simp only [wrap_u32]; omega)
  have e3 : IntKind.u32.wrap (BitVec.ofInt 32 (((b0 % 128 : Nat) : Int) + ((b1 % 128 : Nat) : Int) * 128 + ((b2 % 128 : Nat) : Int) * 16384) ||| BitVec.ofInt 32 (IntKind.u32.wrap (IntKind.u32.wrap (IntKind.u8.wrap (BitVec.ofInt 8 ((b3 : Nat) : Int) &&& BitVec.ofInt 8 127).toNat) * 2097152))).toNat = ((b0 % 128 : Nat) : Int) + ((b1 % 128 : Nat) : Int) * 128 + ((b2 % 128 : Nat) : Int) * 16384 + ((b3 % 128 : Nat) : Int) * 2097152 := by
    rw [and127b b3 h3]; rw [or32 21 _ _ (by first | omega | (simp only [wrap_u32]; omega)) (by first | omega | (simp only [wrap_u32]; omega)) (by first | omega | (simp only [wrap_u32]; omega)) (by first | omega | (simp only [wrap_u32]; omega)) (by first | omega | (simp only [wrap_u32]; omega)) (by first | omega | (simp only [wrap_u32]; omega))]; first | omega | (simp only [wrap_u32]; omega)
  rw [e1, e2, e3]
theorem uv_5 (b0 b1 b2 b3 b4 : Nat) (h0 : b0 < 256) (h1 : b1 < 256) (h2 : b2 < 256) (h3 : b3 < 256) (h4 : b4 < 16) : IntKind.u32.wrap (BitVec.ofInt 32 (IntKind.u32.wrap (BitVec.ofInt 32 (IntKind.u32.wrap (BitVec.ofInt 32 (IntKind.u32.wrap (BitVec.ofInt 32 (IntKind.u32.wrap (IntKind.u8.wrap (BitVec.ofInt 8 ((b0 : Nat) : Int) &&& BitVec.ofInt 8 127).toNat)) ||| BitVec.ofInt 32 (IntKind.u32.wrap (IntKind.u32.wrap (IntKind.u8.wrap (BitVec.ofInt 8 ((b1 : Nat) : Int) &&& BitVec.ofInt 8 127).toNat) * 128))).toNat) ||| BitVec.ofInt 32 (IntKind.u32.wrap (IntKind.u32.wrap (IntKind.u8.wrap (BitVec.ofInt 8 ((b2 : Nat) : Int) &&& BitVec.ofInt 8 127).toNat) * 16384))).toNat) ||| BitVec.ofInt 32 (IntKind.u32.wrap (IntKind.u32.wrap (IntKind.u8.wrap (BitVec.ofInt 8 ((b3 : Nat) : Int) &&& BitVec.ofInt 8 127).toNat) * 2097152))).toNat) ||| BitVec.ofInt 32 (IntKind.u32.wrap (IntKind.u32.wrap (((b4 : Nat) : Int)) * 268435456))).toNat = ((b0 % 128 : Nat) : Int) + ((b1 % 128 : Nat) : Int) * 128 + ((b2 % 128 : Nat) : Int) * 16384 + ((b3 % 128 : Nat) : Int) * 2097152 + ((b4 : Nat) : Int) * 268435456 := by
  have e1 : IntKind.u32.wrap (BitVec.ofInt 32 (IntKind.u32.wrap (IntKind.u8.wrap (BitVec.ofInt 8 ((b0 : Nat) : Int) &&& BitVec.ofInt 8 127).toNat)) ||| BitVec.ofInt 32 (IntKind.u32.wrap (IntKind.u32.wrap (IntKind.u8.wrap (BitVec.ofInt 8 ((b1 : Nat) : Int) &&& BitVec.ofInt 8 127).toNat) * 128))).toNat = ((b0 % 128 : Nat) : Int) + ((b1 % 128 : Nat) : Int) * 128 := by
    rw [and127b b1 h1, and127b b0 h0]; rw [or32 7 _ _ (by first | omega | (simp only [wrap_u32]; omega)) (by first | omega | (simp only [wrap_u32]; omega)) (by first | omega | (simp only [wrap_u32]; omega)) (by first | omega | (simp only [wrap_u32]; omega)) (by first | omega | (simp only [wrap_u32]; omega)) (by first | omega | (simp only [wrap_u32]; omega))]; first | omega | (simp only [wrap_u32]; omega)
  have e2 : IntKind.u32.wrap (BitVec.ofInt 32 (((b0 % 128 : Nat) : Int) + ((b1 % 128 : Nat) : Int) * 128) ||| BitVec.ofInt 32 (IntKind.u32.wrap (IntKind.u32.wrap (IntKind.u8.wrap (BitVec.ofInt 8 ((b2 : Nat) : Int) &&& BitVec.ofInt 8 127).toNat) * 16384))).toNat = ((b0 % 128 : Nat) : Int) + ((b1 % 128 : Nat) : Int) * 128 + ((b2 % 128 : Nat) : Int) * 16384 := by
    rw [and127b b2 h2]; rw [or32 14 _ _ (by first | omega | (simp only [wrap_u32]; omega)) (by first | omega | (simp only [wrap_u32]; omega)) (by first | omega | (simp only [wrap_u32]; omega)) (by first | omega | (simp only [wrap_u32]; omega)) (by first | omega | (simp only [wrap_u32]; omega)) (by first | omega | (simp only [wrap_u32]; omega))]; first | omega | (simp only [wrap_u32]; omega)
  have e3 : IntKind.u32.wrap (BitVec.ofInt 32 (((b0 % 128 : Nat) : Int) + ((b1 % 128 : Nat) : Int) * 128 + ((b2 % 128 : Nat) : Int) * 16384) ||| BitVec.ofInt 32 (IntKind.u32.wrap (IntKind.u32.wrap (IntKind.u8.wrap (BitVec.ofInt 8 ((b3 : Nat) : Int) &&& BitVec.ofInt 8 127).toNat) * 2097152))).toNat = ((b0 % 128 : Nat) : Int) + ((b1 % 128 : Nat) : Int) * 128 + ((b2 % 128 : Nat) : Int) * 16384 + ((b3 % 128 : Nat) : Int) * 2097152 := by
    rw [and127b b3 h3]; rw [or32 21 _ _ (by first | omega | (simp only [wrap_u32]; omega)) (by first | omega | (simp only [wrap_u32]; omega)) (by first | omega | (simp only [wrap_u32]; omega)) (by first | omega | (simp only [wrap_u32]; omega)) (by first | omega | (simp only [wrap_u32]; omega)) (by first | omega | (simp only [wrap_u32]; omega))]; first | omega | (simp only [wrap_u32]; omega)
  have e4 : IntKind.u32.wrap (BitVec.ofInt 32 (((b0 % 128 : Nat) : Int) + ((b1 % 128 : Nat) : Int) * 128 + ((b2 % 128 : Nat) : Int) * 16384 + ((b3 % 128 : Nat) : Int) * 2097152) ||| BitVec.ofInt 32 (IntKind.u32.wrap (IntKind.u32.wrap (((b4 : Nat) : Int)) * 268435456))).toNat = ((b0 % 128 : Nat) : Int) + ((b1 % 128 : Nat) : Int) * 128 + ((b2 % 128 : Nat) : Int) * 16384 + ((b3 % 128 : Nat) : Int) * 2097152 + ((b4 : Nat) : Int) * 268435456 := by
    rw [or32 28 _ _ (by first | omega | (simp only [wrap_u32]; omega)) (by first | omega | (simp only [wrap_u32]; omega)) (by first | omega | (simp only [wrap_u32]; omega)) (by first | omega | (simp only [wrap_u32]; omega)) (by first | omega | (simp only [wrap_u32]; omega)) (by first | omega | (simp only [wrap_u32]; omega))]; first | omega | (simp only [wrap_u32]; omega)
  rw [e1, e2, e3, e4]

theorem imm_n {G : Nat → Nat → Prop} {w0 w : World} {tb : Tb} {rs : List Rw} {p n : Nat} {cs : List Value} (i : Nat) (hi : tb[i]? = some ⟨p, 0, cs, true⟩) (hn : cs.length = n := by rfl) : ∀ b o, Imm G w0 w tb rs b o → ¬ (b = p ∧ o < n) := by
  subst hn
  exact imm_not i hi
theorem imm_rd {G : Nat → Nat → Prop} {w0 w : World} {tb : Tb} {rs : List Rw} {p : Nat} {x y : Value} (i : Nat) (hi : tb[i]? = some ⟨p, 0, [x, y], true⟩) : ∀ b o, Imm G w0 w tb rs b o → ¬ RdM p b o := imm_not i hi
theorem imm_cut {G : Nat → Nat → Prop} {w0 w : World} {tb : Tb} {rs : List Rw} {b o : Nat} (h : Imm G w0 w tb rs b o) : Imm G w0 w [] rs b o := by
  refine ⟨h.1, h.2.1, fun ha => h.2.2 ?_⟩
  rcases ha with ⟨i, ob, hi, _⟩ | ha
  · simp at hi
  · exact .inr ha
theorem WOk.immM {G : Nat → Nat → Prop} {w0 w : World} {M : Nat → Nat → Prop} {tb : Tb} {rs : List Rw} (h : WOk w0 M w tb rs) (hd : ∀ b o, G b o → ¬ M b o) : ∀ b o, G b o → b < w0.heap.size → Imm G w0 w tb rs b o := by
  refine fun b o hg hb => ⟨.inl hg, Nat.lt_of_lt_of_le hb h.step.size, fun ha => hd b o hg ?_⟩
  rcases ha with ⟨i, ob, hi, hr, rfl, h1, h2⟩ | ⟨i, r, hi, hr⟩
  · have := (h.rw_ i ob hi hr (o - ob.off) (by omega)).1
    rw [show ob.off + (o - ob.off) = o by omega] at this
    rcases this with h3 | h3
    · omega
    · exact h3
  · rcases h.ownM i r hi b hr with h3 | h3
    · omega
    · exact h3 o

end Go.Proofs.YthfdlmnfjcpioaaDoor.ME

/- Printed by tools/rd.py. Own work. -/
namespace Go.Proofs.YthfdlmnfjcpioaaDoor.ME
open Go
open Go.RowKit
set_option linter.unusedVariables false
set_option linter.unusedSimpArgs false
set_option maxRecDepth 20000

theorem rBE16 {A : Option Addr} {c : Nat} (s : Bs) {w : World} {F : Nat → Nat → Prop} (ho : Octs w F A c s) (hl : 2 ≤ s.length) :
    Calls Tryd.prog 116 #[.agg #[], .slice A s.length c] w (Gives w (.int .u16 (be16 s))) := by
  refine enter (n := 18) Tryd.func116 rfl Tryd.ntmps116 (by kernel_rfl) fun a hE => ?_
  have hW := WOk.start w Nil
  have ob0 := oc_lt s 0
  have ob1 := oc_lt s 1
  refine go_seq_region [0, 1] (by kernel_rfl) ?_
  refine of_op (wpOp_box hW hE (d := 2) (cs := []) (by kernel_rfl) fun b1 a2 w3 hb4 hz5 hF6 hW7 hE8 => ?_)
  clear hE hW
  refine go_rn [1] [] [(1, .v (.slice A s.length c))] hW7 hE8 fun a9 hE10 => ?_
  clear hE8
  refine wpOps_nil ?_
  refine then_normal ?_
  refine go_seq_region [0, 1, 2] (by kernel_rfl) ?_
  refine go_rn [0] [1, 2] [(1, .v (.slice A s.length c)), (5, .v (.slice A s.length c))] hW7 hE10 fun a11 hE12 => ?_
  clear hE10
  obtain ⟨b13, o14, hA15, hl16, hat17⟩ := Slots.get ho (i := 1) (by omega)
  refine of_op (wpOp_index hE12 (t := 22) (A := A) (m := s.length) (q := 1) (d := 6) (by kernel_rfl) (e := 5) (size := 1) (bytes := 1) (j := 1) (by kernel_rfl) hA15 rfl (by omega) fun a18 hE19 => ?_)
  clear hE12
  refine of_op (wpOp_load hE19 (t := 5) (b := b13) (o := o14 + 1 * 1) (d := 7) (by kernel_rfl) (cs := [.int .u8 ((s.getD 1 0).toNat : Int)]) (v := .int .u8 ((s.getD 1 0).toNat : Int)) (by kernel_rfl) (AtF.move hat17 hW7.step nilM keepF).at_ fun a20 hE21 => ?_)
  clear hE19
  refine wpOps_nil ?_
  refine then_normal ?_
  refine go_seq_drawQ (by kernel_rfl) hW7 fun w22 hF23 hW24 => ?_
  clear hW7
  refine go_rnD [0, 4] [(8, .v (.slice A s.length c)), (12, .v (.slice A s.length c))] 9 (panicFree_then panicFree_body) (fun _ h => h ▸ hW24.cells) rfl hE21 fun a25 hE26 => ?_
  clear hE21
  refine takeC_index hE26 (i := 1) (t := 22) (A := A) (m := s.length) (q := 1) (d := 9) (by kernel_rfl) (e := 5) (size := 1) (bytes := 1) (j := 1) (by kernel_rfl) hA15 rfl (by omega) (by kernel_rfl) (by kernel_rfl) (panicFree_then panicFree_body) rfl fun a27 hE28 => ?_
  clear hE26
  refine takeC_load hE28 (i := 2) (t := 5) (b := b13) (o := o14 + 1 * 1) (d := 10) (by kernel_rfl) (cs := [.int .u8 ((s.getD 1 0).toNat : Int)]) (v := .int .u8 ((s.getD 1 0).toNat : Int)) (by kernel_rfl) (fun w' h' => h' ▸ (AtF.move hat17 hW24.step nilM keepF).at_) (by kernel_rfl) (by kernel_rfl) (panicFree_then panicFree_body) rfl fun a29 hE30 => ?_
  clear hE28
  refine go_rnD [3] [(11, .v (.int .u16 (IntKind.u16.wrap ((s.getD 1 0).toNat : Int)))), (12, .v (.slice A s.length c))] 6 (panicFree_then panicFree_body) (fun _ h => h ▸ hW24.cells) rfl hE30 fun a31 hE32 => ?_
  clear hE30
  obtain ⟨b33, o34, hA35, hl36, hat37⟩ := Slots.get ho (i := 0) (by omega)
  refine takeC_index hE32 (i := 5) (t := 22) (A := A) (m := s.length) (q := 0) (d := 13) (by kernel_rfl) (e := 5) (size := 1) (bytes := 1) (j := 0) (by kernel_rfl) hA35 rfl (by omega) (by kernel_rfl) (by kernel_rfl) (panicFree_then panicFree_body) rfl fun a38 hE39 => ?_
  clear hE32
  refine takeC_load hE39 (i := 6) (t := 5) (b := b33) (o := o34 + 0 * 1) (d := 14) (by kernel_rfl) (cs := [.int .u8 ((s.getD 0 0).toNat : Int)]) (v := .int .u8 ((s.getD 0 0).toNat : Int)) (by kernel_rfl) (fun w' h' => h' ▸ (AtF.move hat37 hW24.step nilM keepF).at_) (by kernel_rfl) (by kernel_rfl) (panicFree_then panicFree_body) rfl fun a40 hE41 => ?_
  clear hE39
  refine go_rnD [7, 8, 9, 10] [(4, .v (.int .u16 (IntKind.u16.wrap (BitVec.ofInt 16 (IntKind.u16.wrap ((s.getD 1 0).toNat : Int)) ||| BitVec.ofInt 16 (IntKind.u16.wrap ((IntKind.u16.wrap ((s.getD 0 0).toNat : Int)) * 256))).toNat)))] 0 (panicFree_then panicFree_body) (fun _ h => h ▸ hW24.cells) rfl hE41 fun a42 hE43 => ?_
  clear hE41
  refine anyC_done (by kernel_rfl) ?_ _
  refine then_normal ?_
  refine wp_ret ?_
  refine leave hE43 hW24.cells (v := .int .u16 (IntKind.u16.wrap (BitVec.ofInt 16 (IntKind.u16.wrap ((s.getD 1 0).toNat : Int)) ||| BitVec.ofInt 16 (IntKind.u16.wrap ((IntKind.u16.wrap ((s.getD 0 0).toNat : Int)) * 256))).toNat)) (by kernel_rfl) ?_
  exact ⟨congrArg Ending.returned (congrArg (Value.int IntKind.u16) (u16_le (oc s 0) (oc s 1) ob0 ob1)), hW24.step⟩

theorem rInt16 (x : Int) (rest : Bs)  {br : Nat} {A : Option Addr} {m c : Nat} {w : World} {F : Nat → Nat → Prop} (hst : Str w br [.slice A m c, .bool false]) (hr : RdS w F A m c (be 2 x ++ rest)) (hFd : ∀ b o, F b o → ¬ RdM br b o) :
    Calls Tryd.prog 97 #[.pointer (some ⟨br, 0, none⟩)] w (RdPost w br F rest fun v w' => v = .int .i16 (IntKind.i16.wrap x)) := by
  obtain ⟨hm, ho⟩ := hr
  subst hm
  have hle := ho.le
  refine enter (n := 32) Tryd.func97 rfl Tryd.ntmps97 (by kernel_rfl) fun a hE => ?_
  have hW : WOk w (RdM br) w [⟨br, 0, [.slice A ((be 2 x ++ rest).length) c, .bool false], true⟩] [] := WOk.startStr hst
  have hE1 := (hE.grow ⟨br, 0, [.slice A ((be 2 x ++ rest).length) c, .bool false], true⟩).recast 0 (.v (.pointer (some ⟨br, 0, none⟩))) (.p 0 0) rfl rfl (Nat.le_of_ble_eq_true (n := 1) rfl)
  refine go_sp [(0, .p 0 0)] hW hE1 fun a1 hE2 => ?_
  clear hE1
  refine wp_seq ?_
  refine go_sp [(0, .p 0 0), (9, .v (.bool (decide ((((be 2 x ++ rest).length : Nat) : Int) < 2))))] hW hE2 fun a3 hE4 => ?_
  clear hE2
  refine cond_false hE4 (b := decide ((((be 2 x ++ rest).length : Nat) : Int) < 2)) (by kernel_rfl) (decide_eq_false (by first | omega | (simp only [List.length_append, be_length, List.length_cons, List.length_nil] at *; omega))) ?_
  refine wp_skip ?_
  refine then_normal ?_
  refine go_seq_drawK 7 (by kernel_rfl) hW fun w5 hF6 hW7 hT8 => ?_
  clear hW
  refine go_rnD [1, 2, 3, 4] [(0, .p 0 0), (20, .v (.slice A ((be 2 x ++ rest).length) c))] 4 (panicFree_then panicFree_body) (fun _ h => h.cells) hT8 hE4 fun a9 hE10 => ?_
  clear hE4
  refine takeC_load hE10 (i := 0) (t := 142) (b := 1) (o := 0) (d := 16) (by kernel_rfl) (cs := []) (v := .agg #[]) (by kernel_rfl) (fun w' h' => (fun j_ v_ h_ => by simp at h_)) (by kernel_rfl) (by kernel_rfl) (panicFree_then panicFree_body) hT8 fun a11 hE12 => ?_
  clear hE10
  refine anyC_op (i := 5) (by kernel_rfl) (wpOp_call hE12 (f := 116) (vs := [.agg #[], .slice A ((be 2 x ++ rest).length) c]) (d := 21) (by kernel_rfl) Tryd.call116 (rBE16 _ (ho.move hW7.step (fun b_ o_ h_ _ => hFd b_ o_ h_) (hW7.immM hFd)) (by first | omega | (simp only [List.length_append, be_length, List.length_cons, List.length_nil] at *; omega))) ?_)
  rintro e_ w14 ⟨rfl, hs13⟩
  refine ⟨_, rfl, fun a15 hE16 => ?_⟩
  have hW17 := hW7.next_nil hs13
  have hF18 := hW7.frN hs13
  clear hE12
  have hT19 := TT.ofW hF18 hW17
  refine ⟨fun _ => hT19, ?_⟩
  refine go_rnD [6] [(0, .p 0 0), (22, .v (.int .i16 (IntKind.i16.wrap (be16 (be 2 x ++ rest)))))] 1 (panicFree_then panicFree_body) (fun _ h => h.cells) hT19 hE16 fun a20 hE21 => ?_
  clear hE16
  refine anyC_op (i := 7) (by kernel_rfl) (wpOp_pure [0, 3] hW17.cells hE21 (env' := [(0, .p 0 0), (3, .v (.int .i16 (IntKind.i16.wrap (be16 (be 2 x ++ rest)))))]) (by kernel_rfl) fun a22 hE23 => ?_)
  clear hE21
  refine ⟨fun h => absurd rfl h, ?_⟩
  refine anyC_done (by kernel_rfl) ?_ _
  refine then_normal ?_
  refine go_seq_region [0, 1, 2, 3, 4, 5, 6, 7, 8] (by kernel_rfl) ?_
  refine go_rn [0, 1, 2, 3, 4] [5, 6, 7, 8] [(3, .v (.int .i16 (IntKind.i16.wrap (be16 (be 2 x ++ rest))))), (23, .p 0 0), (27, .v (.slice A ((be 2 x ++ rest).length) c))] hW17 hE23 fun a24 hE25 => ?_
  clear hE23
  refine of_op (wpOp_cut_lo hE25 (t := 22) (A := A) (m := ((be 2 x ++ rest).length)) (cp := c) (q := 2) (d := 28) (j := 2) (by kernel_rfl) (e := 5) (bytes := 1) (by kernel_rfl) (rfl) (by first | omega | (simp only [List.length_append, be_length, List.length_cons, List.length_nil] at *; omega)) fun a26 hE27 => ?_)
  clear hE25
  refine go_rn [6, 7] [8] [(3, .v (.int .i16 (IntKind.i16.wrap (be16 (be 2 x ++ rest))))), (28, .v (.slice (cutA A c 2) (((be 2 x ++ rest).length) - 2) (c - 2))), (30, .p 0 0)] hW17 hE27 fun a28 hE29 => ?_
  clear hE27
  refine of_op (wpOp_store hW17 hE29 (oi := 0) (cs := [.slice (cutA A c 2) (((be 2 x ++ rest).length) - 2) (c - 2), .bool false]) (by kernel_rfl) fun w30 hF31 hW32 hE33 => ?_)
  clear hE29 hW17
  refine wpOps_nil ?_
  refine then_normal ?_
  refine go_sp [(2, .v (.int .i16 (IntKind.i16.wrap (be16 (be 2 x ++ rest)))))] hW32 hE33 fun a34 hE35 => ?_
  clear hE33
  refine wp_ret ?_
  refine leave hE35 hW32.cells (v := .int .i16 (IntKind.i16.wrap (be16 (be 2 x ++ rest)))) (by kernel_rfl) ?_
  exact ⟨_, _, _, _, rfl, Str.of hW32 0 rfl, RdS.drop (s := be 2 x) ⟨rfl, ho.move hW32.step (fun b_ o_ h_ _ => hFd b_ o_ h_) keepF⟩ (by simp only [be_length, List.length_cons, List.length_nil]), hW32.step, by rw [be16_be, i16_u16]⟩

theorem rUv1 {A : Option Addr} {c : Nat} (s : Bs) {w : World} {F : Nat → Nat → Prop} (ho : Octs w F A c s) (hl : 1 ≤ s.length) (d0 : Nat) (h0 : oc s 0 = d0) (g0 : d0 < 128) :
    Calls Tryd.prog 128 #[.slice A s.length c] w (Gives w (.tuple #[.int .u32 ((d0 : Nat) : Int), .int .i64 1])) := by
  refine enter (n := 87) Tryd.func128 rfl Tryd.ntmps128 (by kernel_rfl) fun a hE => ?_
  have hW := WOk.start w Nil
  refine go_sp [(0, .v (.slice A s.length c))] hW hE fun a1 hE2 => ?_
  clear hE
  refine wp_scope_straight ?_
  refine go_sp [(0, .v (.slice A s.length c))] hW hE2 fun a3 hE4 => ?_
  clear hE2
  refine go_sp [(0, .v (.slice A s.length c))] hW hE4 fun a5 hE6 => ?_
  clear hE4
  refine wp_seq ?_
  refine go_sp [(0, .v (.slice A s.length c)), (8, .v (.bool (decide (((s.length : Nat) : Int) < 1))))] hW hE6 fun a7 hE8 => ?_
  clear hE6
  refine cond_false hE8 (b := decide (((s.length : Nat) : Int) < 1)) (by kernel_rfl) (decide_eq_false (by omega)) ?_
  refine wp_skip ?_
  refine then_normal ?_
  refine go_seq_region [0, 1, 2, 3, 4, 5] (by kernel_rfl) ?_
  refine go_rn [0] [1, 2, 3, 4, 5] [(0, .v (.slice A s.length c)), (9, .v (.slice A s.length c))] hW hE8 fun a9 hE10 => ?_
  clear hE8
  obtain ⟨b11, o12, hA13, hl14, hat15⟩ := Slots.get ho (i := 0) (by first | omega | (simp only [List.length_append, be_length, List.length_cons, List.length_nil] at *; omega))
  refine of_op (wpOp_index hE10 (t := 22) (A := A) (m := s.length) (q := 0) (d := 10) (by kernel_rfl) (e := 5) (size := 1) (bytes := 1) (j := 0) (by kernel_rfl) hA13 rfl (by first | omega | (simp only [List.length_append, be_length, List.length_cons, List.length_nil] at *; omega)) fun a16 hE17 => ?_)
  clear hE10
  refine of_op (wpOp_load hE17 (t := 5) (b := b11) (o := o12 + 0 * 1) (d := 11) (by kernel_rfl) (cs := [.int .u8 ((s.getD 0 0).toNat : Int)]) (v := .int .u8 ((s.getD 0 0).toNat : Int)) (by kernel_rfl) (AtF.move hat15 hW.step nilM keepF).at_ fun a18 hE19 => ?_)
  clear hE17
  refine go_rn [3, 4, 5] [] [(0, .v (.slice A s.length c)), (4, .v (.int .u32 (IntKind.u32.wrap (IntKind.u8.wrap (BitVec.ofInt 8 ((s.getD 0 0).toNat : Int) &&& BitVec.ofInt 8 127).toNat))))] hW hE19 fun a20 hE21 => ?_
  clear hE19
  refine wpOps_nil ?_
  refine then_normal ?_
  refine wp_seq ?_
  refine go_seq_region [0, 1, 2, 3, 4] (by kernel_rfl) ?_
  refine go_rn [0] [1, 2, 3, 4] [(0, .v (.slice A s.length c)), (4, .v (.int .u32 (IntKind.u32.wrap (IntKind.u8.wrap (BitVec.ofInt 8 ((s.getD 0 0).toNat : Int) &&& BitVec.ofInt 8 127).toNat)))), (14, .v (.slice A s.length c))] hW hE21 fun a22 hE23 => ?_
  clear hE21
  refine of_op (wpOp_index hE23 (t := 22) (A := A) (m := s.length) (q := 0) (d := 15) (by kernel_rfl) (e := 5) (size := 1) (bytes := 1) (j := 0) (by kernel_rfl) hA13 rfl (by first | omega | (simp only [List.length_append, be_length, List.length_cons, List.length_nil] at *; omega)) fun a24 hE25 => ?_)
  clear hE23
  refine of_op (wpOp_load hE25 (t := 5) (b := b11) (o := o12 + 0 * 1) (d := 16) (by kernel_rfl) (cs := [.int .u8 ((s.getD 0 0).toNat : Int)]) (v := .int .u8 ((s.getD 0 0).toNat : Int)) (by kernel_rfl) (AtF.move hat15 hW.step nilM keepF).at_ fun a26 hE27 => ?_)
  clear hE25
  refine go_rn [3, 4] [] [(0, .v (.slice A s.length c)), (4, .v (.int .u32 (IntKind.u32.wrap (IntKind.u8.wrap (BitVec.ofInt 8 ((s.getD 0 0).toNat : Int) &&& BitVec.ofInt 8 127).toNat)))), (18, .v (.bool ((IntKind.u8.wrap (BitVec.ofInt 8 ((s.getD 0 0).toNat : Int) &&& BitVec.ofInt 8 128).toNat) == 0)))] hW hE27 fun a28 hE29 => ?_
  clear hE27
  refine wpOps_nil ?_
  refine then_normal ?_
  refine cond_true hE29 (b := (IntKind.u8.wrap (BitVec.ofInt 8 ((s.getD 0 0).toNat : Int) &&& BitVec.ofInt 8 128).toNat) == 0) (by kernel_rfl) ((and128 _ (oc_lt s 0)).trans (decide_eq_true (by have := h0; unfold oc at this; omega))) ?_
  refine go_sp [(2, .v (.int .u32 (IntKind.u32.wrap (IntKind.u8.wrap (BitVec.ofInt 8 ((s.getD 0 0).toNat : Int) &&& BitVec.ofInt 8 127).toNat)))), (3, .v (.int .i64 1))] hW hE29 fun a30 hE31 => ?_
  clear hE29
  refine wp_ret ?_
  refine then_ret ?_
  refine scope_ret ?_
  refine leave hE31 hW.cells (v := .tuple #[.int .u32 (IntKind.u32.wrap (IntKind.u8.wrap (BitVec.ofInt 8 ((s.getD 0 0).toNat : Int) &&& BitVec.ofInt 8 127).toNat)), .int .i64 1]) (by kernel_rfl) ?_
  have e_ := uv_1 (oc s 0) (oc_lt s 0)
  refine ⟨congrArg (fun z_ : Int => Ending.returned (.tuple #[.int .u32 z_, .int .i64 1])) (Eq.trans e_ ?_), hW.step⟩
  omega

theorem rUv2 {A : Option Addr} {c : Nat} (s : Bs) {w : World} {F : Nat → Nat → Prop} (ho : Octs w F A c s) (hl : 2 ≤ s.length) (d0 d1 : Nat) (h0 : oc s 0 = d0 + 128) (h1 : oc s 1 = d1) (g0 : d0 < 128) (g1 : d1 < 128) :
    Calls Tryd.prog 128 #[.slice A s.length c] w (Gives w (.tuple #[.int .u32 ((d0 + d1 * 128 : Nat) : Int), .int .i64 2])) := by
  refine enter (n := 87) Tryd.func128 rfl Tryd.ntmps128 (by kernel_rfl) fun a hE => ?_
  have hW := WOk.start w Nil
  refine go_sp [(0, .v (.slice A s.length c))] hW hE fun a1 hE2 => ?_
  clear hE
  refine wp_scope_straight ?_
  refine go_sp [(0, .v (.slice A s.length c))] hW hE2 fun a3 hE4 => ?_
  clear hE2
  refine go_sp [(0, .v (.slice A s.length c))] hW hE4 fun a5 hE6 => ?_
  clear hE4
  refine wp_seq ?_
  refine go_sp [(0, .v (.slice A s.length c)), (8, .v (.bool (decide (((s.length : Nat) : Int) < 1))))] hW hE6 fun a7 hE8 => ?_
  clear hE6
  refine cond_false hE8 (b := decide (((s.length : Nat) : Int) < 1)) (by kernel_rfl) (decide_eq_false (by omega)) ?_
  refine wp_skip ?_
  refine then_normal ?_
  refine go_seq_region [0, 1, 2, 3, 4, 5] (by kernel_rfl) ?_
  refine go_rn [0] [1, 2, 3, 4, 5] [(0, .v (.slice A s.length c)), (9, .v (.slice A s.length c))] hW hE8 fun a9 hE10 => ?_
  clear hE8
  obtain ⟨b11, o12, hA13, hl14, hat15⟩ := Slots.get ho (i := 0) (by first | omega | (simp only [List.length_append, be_length, List.length_cons, List.length_nil] at *; omega))
  refine of_op (wpOp_index hE10 (t := 22) (A := A) (m := s.length) (q := 0) (d := 10) (by kernel_rfl) (e := 5) (size := 1) (bytes := 1) (j := 0) (by kernel_rfl) hA13 rfl (by first | omega | (simp only [List.length_append, be_length, List.length_cons, List.length_nil] at *; omega)) fun a16 hE17 => ?_)
  clear hE10
  refine of_op (wpOp_load hE17 (t := 5) (b := b11) (o := o12 + 0 * 1) (d := 11) (by kernel_rfl) (cs := [.int .u8 ((s.getD 0 0).toNat : Int)]) (v := .int .u8 ((s.getD 0 0).toNat : Int)) (by kernel_rfl) (AtF.move hat15 hW.step nilM keepF).at_ fun a18 hE19 => ?_)
  clear hE17
  refine go_rn [3, 4, 5] [] [(0, .v (.slice A s.length c)), (4, .v (.int .u32 (IntKind.u32.wrap (IntKind.u8.wrap (BitVec.ofInt 8 ((s.getD 0 0).toNat : Int) &&& BitVec.ofInt 8 127).toNat))))] hW hE19 fun a20 hE21 => ?_
  clear hE19
  refine wpOps_nil ?_
  refine then_normal ?_
  refine wp_seq ?_
  refine go_seq_region [0, 1, 2, 3, 4] (by kernel_rfl) ?_
  refine go_rn [0] [1, 2, 3, 4] [(0, .v (.slice A s.length c)), (4, .v (.int .u32 (IntKind.u32.wrap (IntKind.u8.wrap (BitVec.ofInt 8 ((s.getD 0 0).toNat : Int) &&& BitVec.ofInt 8 127).toNat)))), (14, .v (.slice A s.length c))] hW hE21 fun a22 hE23 => ?_
  clear hE21
  refine of_op (wpOp_index hE23 (t := 22) (A := A) (m := s.length) (q := 0) (d := 15) (by kernel_rfl) (e := 5) (size := 1) (bytes := 1) (j := 0) (by kernel_rfl) hA13 rfl (by first | omega | (simp only [List.length_append, be_length, List.length_cons, List.length_nil] at *; omega)) fun a24 hE25 => ?_)
  clear hE23
  refine of_op (wpOp_load hE25 (t := 5) (b := b11) (o := o12 + 0 * 1) (d := 16) (by kernel_rfl) (cs := [.int .u8 ((s.getD 0 0).toNat : Int)]) (v := .int .u8 ((s.getD 0 0).toNat : Int)) (by kernel_rfl) (AtF.move hat15 hW.step nilM keepF).at_ fun a26 hE27 => ?_)
  clear hE25
  refine go_rn [3, 4] [] [(0, .v (.slice A s.length c)), (4, .v (.int .u32 (IntKind.u32.wrap (IntKind.u8.wrap (BitVec.ofInt 8 ((s.getD 0 0).toNat : Int) &&& BitVec.ofInt 8 127).toNat)))), (18, .v (.bool ((IntKind.u8.wrap (BitVec.ofInt 8 ((s.getD 0 0).toNat : Int) &&& BitVec.ofInt 8 128).toNat) == 0)))] hW hE27 fun a28 hE29 => ?_
  clear hE27
  refine wpOps_nil ?_
  refine then_normal ?_
  refine cond_false hE29 (b := (IntKind.u8.wrap (BitVec.ofInt 8 ((s.getD 0 0).toNat : Int) &&& BitVec.ofInt 8 128).toNat) == 0) (by kernel_rfl) ((and128 _ (oc_lt s 0)).trans (decide_eq_false (by have := h0; unfold oc at this; omega))) ?_
  refine go_sp [(0, .v (.slice A s.length c)), (4, .v (.int .u32 (IntKind.u32.wrap (IntKind.u8.wrap (BitVec.ofInt 8 ((s.getD 0 0).toNat : Int) &&& BitVec.ofInt 8 127).toNat)))), (22, .v (.bool (decide (((s.length : Nat) : Int) < 2))))] hW hE29 fun a30 hE31 => ?_
  clear hE29
  refine cond_false hE31 (b := decide (((s.length : Nat) : Int) < 2)) (by kernel_rfl) (decide_eq_false (by omega)) ?_
  refine wp_skip ?_
  refine then_normal ?_
  refine go_seq_region [0, 1, 2, 3, 4, 5, 6, 7, 8] (by kernel_rfl) ?_
  refine go_rn [0, 1] [2, 3, 4, 5, 6, 7, 8] [(0, .v (.slice A s.length c)), (23, .v (.int .u32 (IntKind.u32.wrap (IntKind.u8.wrap (BitVec.ofInt 8 ((s.getD 0 0).toNat : Int) &&& BitVec.ofInt 8 127).toNat)))), (24, .v (.slice A s.length c))] hW hE31 fun a32 hE33 => ?_
  clear hE31
  obtain ⟨b34, o35, hA36, hl37, hat38⟩ := Slots.get ho (i := 1) (by first | omega | (simp only [List.length_append, be_length, List.length_cons, List.length_nil] at *; omega))
  refine of_op (wpOp_index hE33 (t := 22) (A := A) (m := s.length) (q := 1) (d := 25) (by kernel_rfl) (e := 5) (size := 1) (bytes := 1) (j := 1) (by kernel_rfl) hA36 rfl (by first | omega | (simp only [List.length_append, be_length, List.length_cons, List.length_nil] at *; omega)) fun a39 hE40 => ?_)
  clear hE33
  refine of_op (wpOp_load hE40 (t := 5) (b := b34) (o := o35 + 1 * 1) (d := 26) (by kernel_rfl) (cs := [.int .u8 ((s.getD 1 0).toNat : Int)]) (v := .int .u8 ((s.getD 1 0).toNat : Int)) (by kernel_rfl) (AtF.move hat38 hW.step nilM keepF).at_ fun a41 hE42 => ?_)
  clear hE40
  refine go_rn [4, 5, 6, 7, 8] [] [(0, .v (.slice A s.length c)), (4, .v (.int .u32 (IntKind.u32.wrap (BitVec.ofInt 32 (IntKind.u32.wrap (IntKind.u8.wrap (BitVec.ofInt 8 ((s.getD 0 0).toNat : Int) &&& BitVec.ofInt 8 127).toNat)) ||| BitVec.ofInt 32 (IntKind.u32.wrap ((IntKind.u32.wrap (IntKind.u8.wrap (BitVec.ofInt 8 ((s.getD 1 0).toNat : Int) &&& BitVec.ofInt 8 127).toNat)) * 128))).toNat)))] hW hE42 fun a43 hE44 => ?_
  clear hE42
  refine wpOps_nil ?_
  refine then_normal ?_
  refine wp_seq ?_
  refine go_seq_region [0, 1, 2, 3, 4] (by kernel_rfl) ?_
  refine go_rn [0] [1, 2, 3, 4] [(0, .v (.slice A s.length c)), (4, .v (.int .u32 (IntKind.u32.wrap (BitVec.ofInt 32 (IntKind.u32.wrap (IntKind.u8.wrap (BitVec.ofInt 8 ((s.getD 0 0).toNat : Int) &&& BitVec.ofInt 8 127).toNat)) ||| BitVec.ofInt 32 (IntKind.u32.wrap ((IntKind.u32.wrap (IntKind.u8.wrap (BitVec.ofInt 8 ((s.getD 1 0).toNat : Int) &&& BitVec.ofInt 8 127).toNat)) * 128))).toNat))), (31, .v (.slice A s.length c))] hW hE44 fun a45 hE46 => ?_
  clear hE44
  refine of_op (wpOp_index hE46 (t := 22) (A := A) (m := s.length) (q := 1) (d := 32) (by kernel_rfl) (e := 5) (size := 1) (bytes := 1) (j := 1) (by kernel_rfl) hA36 rfl (by first | omega | (simp only [List.length_append, be_length, List.length_cons, List.length_nil] at *; omega)) fun a47 hE48 => ?_)
  clear hE46
  refine of_op (wpOp_load hE48 (t := 5) (b := b34) (o := o35 + 1 * 1) (d := 33) (by kernel_rfl) (cs := [.int .u8 ((s.getD 1 0).toNat : Int)]) (v := .int .u8 ((s.getD 1 0).toNat : Int)) (by kernel_rfl) (AtF.move hat38 hW.step nilM keepF).at_ fun a49 hE50 => ?_)
  clear hE48
  refine go_rn [3, 4] [] [(0, .v (.slice A s.length c)), (4, .v (.int .u32 (IntKind.u32.wrap (BitVec.ofInt 32 (IntKind.u32.wrap (IntKind.u8.wrap (BitVec.ofInt 8 ((s.getD 0 0).toNat : Int) &&& BitVec.ofInt 8 127).toNat)) ||| BitVec.ofInt 32 (IntKind.u32.wrap ((IntKind.u32.wrap (IntKind.u8.wrap (BitVec.ofInt 8 ((s.getD 1 0).toNat : Int) &&& BitVec.ofInt 8 127).toNat)) * 128))).toNat))), (35, .v (.bool ((IntKind.u8.wrap (BitVec.ofInt 8 ((s.getD 1 0).toNat : Int) &&& BitVec.ofInt 8 128).toNat) == 0)))] hW hE50 fun a51 hE52 => ?_
  clear hE50
  refine wpOps_nil ?_
  refine then_normal ?_
  refine cond_true hE52 (b := (IntKind.u8.wrap (BitVec.ofInt 8 ((s.getD 1 0).toNat : Int) &&& BitVec.ofInt 8 128).toNat) == 0) (by kernel_rfl) ((and128 _ (oc_lt s 1)).trans (decide_eq_true (by have := h1; unfold oc at this; omega))) ?_
  refine go_sp [(2, .v (.int .u32 (IntKind.u32.wrap (BitVec.ofInt 32 (IntKind.u32.wrap (IntKind.u8.wrap (BitVec.ofInt 8 ((s.getD 0 0).toNat : Int) &&& BitVec.ofInt 8 127).toNat)) ||| BitVec.ofInt 32 (IntKind.u32.wrap ((IntKind.u32.wrap (IntKind.u8.wrap (BitVec.ofInt 8 ((s.getD 1 0).toNat : Int) &&& BitVec.ofInt 8 127).toNat)) * 128))).toNat))), (3, .v (.int .i64 2))] hW hE52 fun a53 hE54 => ?_
  clear hE52
  refine wp_ret ?_
  refine then_ret ?_
  refine scope_ret ?_
  refine leave hE54 hW.cells (v := .tuple #[.int .u32 (IntKind.u32.wrap (BitVec.ofInt 32 (IntKind.u32.wrap (IntKind.u8.wrap (BitVec.ofInt 8 ((s.getD 0 0).toNat : Int) &&& BitVec.ofInt 8 127).toNat)) ||| BitVec.ofInt 32 (IntKind.u32.wrap ((IntKind.u32.wrap (IntKind.u8.wrap (BitVec.ofInt 8 ((s.getD 1 0).toNat : Int) &&& BitVec.ofInt 8 127).toNat)) * 128))).toNat), .int .i64 2]) (by kernel_rfl) ?_
  have e_ := uv_2 (oc s 0) (oc s 1) (oc_lt s 0) (oc_lt s 1)
  refine ⟨congrArg (fun z_ : Int => Ending.returned (.tuple #[.int .u32 z_, .int .i64 2])) (Eq.trans e_ ?_), hW.step⟩
  omega

theorem rUv3 {A : Option Addr} {c : Nat} (s : Bs) {w : World} {F : Nat → Nat → Prop} (ho : Octs w F A c s) (hl : 3 ≤ s.length) (d0 d1 d2 : Nat) (h0 : oc s 0 = d0 + 128) (h1 : oc s 1 = d1 + 128) (h2 : oc s 2 = d2) (g0 : d0 < 128) (g1 : d1 < 128) (g2 : d2 < 128) :
    Calls Tryd.prog 128 #[.slice A s.length c] w (Gives w (.tuple #[.int .u32 ((d0 + d1 * 128 + d2 * 16384 : Nat) : Int), .int .i64 3])) := by
  refine enter (n := 87) Tryd.func128 rfl Tryd.ntmps128 (by kernel_rfl) fun a hE => ?_
  have hW := WOk.start w Nil
  refine go_sp [(0, .v (.slice A s.length c))] hW hE fun a1 hE2 => ?_
  clear hE
  refine wp_scope_straight ?_
  refine go_sp [(0, .v (.slice A s.length c))] hW hE2 fun a3 hE4 => ?_
  clear hE2
  refine go_sp [(0, .v (.slice A s.length c))] hW hE4 fun a5 hE6 => ?_
  clear hE4
  refine wp_seq ?_
  refine go_sp [(0, .v (.slice A s.length c)), (8, .v (.bool (decide (((s.length : Nat) : Int) < 1))))] hW hE6 fun a7 hE8 => ?_
  clear hE6
  refine cond_false hE8 (b := decide (((s.length : Nat) : Int) < 1)) (by kernel_rfl) (decide_eq_false (by omega)) ?_
  refine wp_skip ?_
  refine then_normal ?_
  refine go_seq_region [0, 1, 2, 3, 4, 5] (by kernel_rfl) ?_
  refine go_rn [0] [1, 2, 3, 4, 5] [(0, .v (.slice A s.length c)), (9, .v (.slice A s.length c))] hW hE8 fun a9 hE10 => ?_
  clear hE8
  obtain ⟨b11, o12, hA13, hl14, hat15⟩ := Slots.get ho (i := 0) (by first | omega | (simp only [List.length_append, be_length, List.length_cons, List.length_nil] at *; omega))
  refine of_op (wpOp_index hE10 (t := 22) (A := A) (m := s.length) (q := 0) (d := 10) (by kernel_rfl) (e := 5) (size := 1) (bytes := 1) (j := 0) (by kernel_rfl) hA13 rfl (by first | omega | (simp only [List.length_append, be_length, List.length_cons, List.length_nil] at *; omega)) fun a16 hE17 => ?_)
  clear hE10
  refine of_op (wpOp_load hE17 (t := 5) (b := b11) (o := o12 + 0 * 1) (d := 11) (by kernel_rfl) (cs := [.int .u8 ((s.getD 0 0).toNat : Int)]) (v := .int .u8 ((s.getD 0 0).toNat : Int)) (by kernel_rfl) (AtF.move hat15 hW.step nilM keepF).at_ fun a18 hE19 => ?_)
  clear hE17
  refine go_rn [3, 4, 5] [] [(0, .v (.slice A s.length c)), (4, .v (.int .u32 (IntKind.u32.wrap (IntKind.u8.wrap (BitVec.ofInt 8 ((s.getD 0 0).toNat : Int) &&& BitVec.ofInt 8 127).toNat))))] hW hE19 fun a20 hE21 => ?_
  clear hE19
  refine wpOps_nil ?_
  refine then_normal ?_
  refine wp_seq ?_
  refine go_seq_region [0, 1, 2, 3, 4] (by kernel_rfl) ?_
  refine go_rn [0] [1, 2, 3, 4] [(0, .v (.slice A s.length c)), (4, .v (.int .u32 (IntKind.u32.wrap (IntKind.u8.wrap (BitVec.ofInt 8 ((s.getD 0 0).toNat : Int) &&& BitVec.ofInt 8 127).toNat)))), (14, .v (.slice A s.length c))] hW hE21 fun a22 hE23 => ?_
  clear hE21
  refine of_op (wpOp_index hE23 (t := 22) (A := A) (m := s.length) (q := 0) (d := 15) (by kernel_rfl) (e := 5) (size := 1) (bytes := 1) (j := 0) (by kernel_rfl) hA13 rfl (by first | omega | (simp only [List.length_append, be_length, List.length_cons, List.length_nil] at *; omega)) fun a24 hE25 => ?_)
  clear hE23
  refine of_op (wpOp_load hE25 (t := 5) (b := b11) (o := o12 + 0 * 1) (d := 16) (by kernel_rfl) (cs := [.int .u8 ((s.getD 0 0).toNat : Int)]) (v := .int .u8 ((s.getD 0 0).toNat : Int)) (by kernel_rfl) (AtF.move hat15 hW.step nilM keepF).at_ fun a26 hE27 => ?_)
  clear hE25
  refine go_rn [3, 4] [] [(0, .v (.slice A s.length c)), (4, .v (.int .u32 (IntKind.u32.wrap (IntKind.u8.wrap (BitVec.ofInt 8 ((s.getD 0 0).toNat : Int) &&& BitVec.ofInt 8 127).toNat)))), (18, .v (.bool ((IntKind.u8.wrap (BitVec.ofInt 8 ((s.getD 0 0).toNat : Int) &&& BitVec.ofInt 8 128).toNat) == 0)))] hW hE27 fun a28 hE29 => ?_
  clear hE27
  refine wpOps_nil ?_
  refine then_normal ?_
  refine cond_false hE29 (b := (IntKind.u8.wrap (BitVec.ofInt 8 ((s.getD 0 0).toNat : Int) &&& BitVec.ofInt 8 128).toNat) == 0) (by kernel_rfl) ((and128 _ (oc_lt s 0)).trans (decide_eq_false (by have := h0; unfold oc at this; omega))) ?_
  refine go_sp [(0, .v (.slice A s.length c)), (4, .v (.int .u32 (IntKind.u32.wrap (IntKind.u8.wrap (BitVec.ofInt 8 ((s.getD 0 0).toNat : Int) &&& BitVec.ofInt 8 127).toNat)))), (22, .v (.bool (decide (((s.length : Nat) : Int) < 2))))] hW hE29 fun a30 hE31 => ?_
  clear hE29
  refine cond_false hE31 (b := decide (((s.length : Nat) : Int) < 2)) (by kernel_rfl) (decide_eq_false (by omega)) ?_
  refine wp_skip ?_
  refine then_normal ?_
  refine go_seq_region [0, 1, 2, 3, 4, 5, 6, 7, 8] (by kernel_rfl) ?_
  refine go_rn [0, 1] [2, 3, 4, 5, 6, 7, 8] [(0, .v (.slice A s.length c)), (23, .v (.int .u32 (IntKind.u32.wrap (IntKind.u8.wrap (BitVec.ofInt 8 ((s.getD 0 0).toNat : Int) &&& BitVec.ofInt 8 127).toNat)))), (24, .v (.slice A s.length c))] hW hE31 fun a32 hE33 => ?_
  clear hE31
  obtain ⟨b34, o35, hA36, hl37, hat38⟩ := Slots.get ho (i := 1) (by first | omega | (simp only [List.length_append, be_length, List.length_cons, List.length_nil] at *; omega))
  refine of_op (wpOp_index hE33 (t := 22) (A := A) (m := s.length) (q := 1) (d := 25) (by kernel_rfl) (e := 5) (size := 1) (bytes := 1) (j := 1) (by kernel_rfl) hA36 rfl (by first | omega | (simp only [List.length_append, be_length, List.length_cons, List.length_nil] at *; omega)) fun a39 hE40 => ?_)
  clear hE33
  refine of_op (wpOp_load hE40 (t := 5) (b := b34) (o := o35 + 1 * 1) (d := 26) (by kernel_rfl) (cs := [.int .u8 ((s.getD 1 0).toNat : Int)]) (v := .int .u8 ((s.getD 1 0).toNat : Int)) (by kernel_rfl) (AtF.move hat38 hW.step nilM keepF).at_ fun a41 hE42 => ?_)
  clear hE40
  refine go_rn [4, 5, 6, 7, 8] [] [(0, .v (.slice A s.length c)), (4, .v (.int .u32 (IntKind.u32.wrap (BitVec.ofInt 32 (IntKind.u32.wrap (IntKind.u8.wrap (BitVec.ofInt 8 ((s.getD 0 0).toNat : Int) &&& BitVec.ofInt 8 127).toNat)) ||| BitVec.ofInt 32 (IntKind.u32.wrap ((IntKind.u32.wrap (IntKind.u8.wrap (BitVec.ofInt 8 ((s.getD 1 0).toNat : Int) &&& BitVec.ofInt 8 127).toNat)) * 128))).toNat)))] hW hE42 fun a43 hE44 => ?_
  clear hE42
  refine wpOps_nil ?_
  refine then_normal ?_
  refine wp_seq ?_
  refine go_seq_region [0, 1, 2, 3, 4] (by kernel_rfl) ?_
  refine go_rn [0] [1, 2, 3, 4] [(0, .v (.slice A s.length c)), (4, .v (.int .u32 (IntKind.u32.wrap (BitVec.ofInt 32 (IntKind.u32.wrap (IntKind.u8.wrap (BitVec.ofInt 8 ((s.getD 0 0).toNat : Int) &&& BitVec.ofInt 8 127).toNat)) ||| BitVec.ofInt 32 (IntKind.u32.wrap ((IntKind.u32.wrap (IntKind.u8.wrap (BitVec.ofInt 8 ((s.getD 1 0).toNat : Int) &&& BitVec.ofInt 8 127).toNat)) * 128))).toNat))), (31, .v (.slice A s.length c))] hW hE44 fun a45 hE46 => ?_
  clear hE44
  refine of_op (wpOp_index hE46 (t := 22) (A := A) (m := s.length) (q := 1) (d := 32) (by kernel_rfl) (e := 5) (size := 1) (bytes := 1) (j := 1) (by kernel_rfl) hA36 rfl (by first | omega | (simp only [List.length_append, be_length, List.length_cons, List.length_nil] at *; omega)) fun a47 hE48 => ?_)
  clear hE46
  refine of_op (wpOp_load hE48 (t := 5) (b := b34) (o := o35 + 1 * 1) (d := 33) (by kernel_rfl) (cs := [.int .u8 ((s.getD 1 0).toNat : Int)]) (v := .int .u8 ((s.getD 1 0).toNat : Int)) (by kernel_rfl) (AtF.move hat38 hW.step nilM keepF).at_ fun a49 hE50 => ?_)
  clear hE48
  refine go_rn [3, 4] [] [(0, .v (.slice A s.length c)), (4, .v (.int .u32 (IntKind.u32.wrap (BitVec.ofInt 32 (IntKind.u32.wrap (IntKind.u8.wrap (BitVec.ofInt 8 ((s.getD 0 0).toNat : Int) &&& BitVec.ofInt 8 127).toNat)) ||| BitVec.ofInt 32 (IntKind.u32.wrap ((IntKind.u32.wrap (IntKind.u8.wrap (BitVec.ofInt 8 ((s.getD 1 0).toNat : Int) &&& BitVec.ofInt 8 127).toNat)) * 128))).toNat))), (35, .v (.bool ((IntKind.u8.wrap (BitVec.ofInt 8 ((s.getD 1 0).toNat : Int) &&& BitVec.ofInt 8 128).toNat) == 0)))] hW hE50 fun a51 hE52 => ?_
  clear hE50
  refine wpOps_nil ?_
  refine then_normal ?_
  refine cond_false hE52 (b := (IntKind.u8.wrap (BitVec.ofInt 8 ((s.getD 1 0).toNat : Int) &&& BitVec.ofInt 8 128).toNat) == 0) (by kernel_rfl) ((and128 _ (oc_lt s 1)).trans (decide_eq_false (by have := h1; unfold oc at this; omega))) ?_
  refine go_sp [(0, .v (.slice A s.length c)), (4, .v (.int .u32 (IntKind.u32.wrap (BitVec.ofInt 32 (IntKind.u32.wrap (IntKind.u8.wrap (BitVec.ofInt 8 ((s.getD 0 0).toNat : Int) &&& BitVec.ofInt 8 127).toNat)) ||| BitVec.ofInt 32 (IntKind.u32.wrap ((IntKind.u32.wrap (IntKind.u8.wrap (BitVec.ofInt 8 ((s.getD 1 0).toNat : Int) &&& BitVec.ofInt 8 127).toNat)) * 128))).toNat))), (39, .v (.bool (decide (((s.length : Nat) : Int) < 3))))] hW hE52 fun a53 hE54 => ?_
  clear hE52
  refine cond_false hE54 (b := decide (((s.length : Nat) : Int) < 3)) (by kernel_rfl) (decide_eq_false (by omega)) ?_
  refine wp_skip ?_
  refine then_normal ?_
  refine go_seq_region [0, 1, 2, 3, 4, 5, 6, 7, 8] (by kernel_rfl) ?_
  refine go_rn [0, 1] [2, 3, 4, 5, 6, 7, 8] [(0, .v (.slice A s.length c)), (40, .v (.int .u32 (IntKind.u32.wrap (BitVec.ofInt 32 (IntKind.u32.wrap (IntKind.u8.wrap (BitVec.ofInt 8 ((s.getD 0 0).toNat : Int) &&& BitVec.ofInt 8 127).toNat)) ||| BitVec.ofInt 32 (IntKind.u32.wrap ((IntKind.u32.wrap (IntKind.u8.wrap (BitVec.ofInt 8 ((s.getD 1 0).toNat : Int) &&& BitVec.ofInt 8 127).toNat)) * 128))).toNat))), (41, .v (.slice A s.length c))] hW hE54 fun a55 hE56 => ?_
  clear hE54
  obtain ⟨b57, o58, hA59, hl60, hat61⟩ := Slots.get ho (i := 2) (by first | omega | (simp only [List.length_append, be_length, List.length_cons, List.length_nil] at *; omega))
  refine of_op (wpOp_index hE56 (t := 22) (A := A) (m := s.length) (q := 2) (d := 42) (by kernel_rfl) (e := 5) (size := 1) (bytes := 1) (j := 2) (by kernel_rfl) hA59 rfl (by first | omega | (simp only [List.length_append, be_length, List.length_cons, List.length_nil] at *; omega)) fun a62 hE63 => ?_)
  clear hE56
  refine of_op (wpOp_load hE63 (t := 5) (b := b57) (o := o58 + 2 * 1) (d := 43) (by kernel_rfl) (cs := [.int .u8 ((s.getD 2 0).toNat : Int)]) (v := .int .u8 ((s.getD 2 0).toNat : Int)) (by kernel_rfl) (AtF.move hat61 hW.step nilM keepF).at_ fun a64 hE65 => ?_)
  clear hE63
  refine go_rn [4, 5, 6, 7, 8] [] [(0, .v (.slice A s.length c)), (4, .v (.int .u32 (IntKind.u32.wrap (BitVec.ofInt 32 (IntKind.u32.wrap (BitVec.ofInt 32 (IntKind.u32.wrap (IntKind.u8.wrap (BitVec.ofInt 8 ((s.getD 0 0).toNat : Int) &&& BitVec.ofInt 8 127).toNat)) ||| BitVec.ofInt 32 (IntKind.u32.wrap ((IntKind.u32.wrap (IntKind.u8.wrap (BitVec.ofInt 8 ((s.getD 1 0).toNat : Int) &&& BitVec.ofInt 8 127).toNat)) * 128))).toNat) ||| BitVec.ofInt 32 (IntKind.u32.wrap ((IntKind.u32.wrap (IntKind.u8.wrap (BitVec.ofInt 8 ((s.getD 2 0).toNat : Int) &&& BitVec.ofInt 8 127).toNat)) * 16384))).toNat)))] hW hE65 fun a66 hE67 => ?_
  clear hE65
  refine wpOps_nil ?_
  refine then_normal ?_
  refine wp_seq ?_
  refine go_seq_region [0, 1, 2, 3, 4] (by kernel_rfl) ?_
  refine go_rn [0] [1, 2, 3, 4] [(0, .v (.slice A s.length c)), (4, .v (.int .u32 (IntKind.u32.wrap (BitVec.ofInt 32 (IntKind.u32.wrap (BitVec.ofInt 32 (IntKind.u32.wrap (IntKind.u8.wrap (BitVec.ofInt 8 ((s.getD 0 0).toNat : Int) &&& BitVec.ofInt 8 127).toNat)) ||| BitVec.ofInt 32 (IntKind.u32.wrap ((IntKind.u32.wrap (IntKind.u8.wrap (BitVec.ofInt 8 ((s.getD 1 0).toNat : Int) &&& BitVec.ofInt 8 127).toNat)) * 128))).toNat) ||| BitVec.ofInt 32 (IntKind.u32.wrap ((IntKind.u32.wrap (IntKind.u8.wrap (BitVec.ofInt 8 ((s.getD 2 0).toNat : Int) &&& BitVec.ofInt 8 127).toNat)) * 16384))).toNat))), (48, .v (.slice A s.length c))] hW hE67 fun a68 hE69 => ?_
  clear hE67
  refine of_op (wpOp_index hE69 (t := 22) (A := A) (m := s.length) (q := 2) (d := 49) (by kernel_rfl) (e := 5) (size := 1) (bytes := 1) (j := 2) (by kernel_rfl) hA59 rfl (by first | omega | (simp only [List.length_append, be_length, List.length_cons, List.length_nil] at *; omega)) fun a70 hE71 => ?_)
  clear hE69
  refine of_op (wpOp_load hE71 (t := 5) (b := b57) (o := o58 + 2 * 1) (d := 50) (by kernel_rfl) (cs := [.int .u8 ((s.getD 2 0).toNat : Int)]) (v := .int .u8 ((s.getD 2 0).toNat : Int)) (by kernel_rfl) (AtF.move hat61 hW.step nilM keepF).at_ fun a72 hE73 => ?_)
  clear hE71
  refine go_rn [3, 4] [] [(0, .v (.slice A s.length c)), (4, .v (.int .u32 (IntKind.u32.wrap (BitVec.ofInt 32 (IntKind.u32.wrap (BitVec.ofInt 32 (IntKind.u32.wrap (IntKind.u8.wrap (BitVec.ofInt 8 ((s.getD 0 0).toNat : Int) &&& BitVec.ofInt 8 127).toNat)) ||| BitVec.ofInt 32 (IntKind.u32.wrap ((IntKind.u32.wrap (IntKind.u8.wrap (BitVec.ofInt 8 ((s.getD 1 0).toNat : Int) &&& BitVec.ofInt 8 127).toNat)) * 128))).toNat) ||| BitVec.ofInt 32 (IntKind.u32.wrap ((IntKind.u32.wrap (IntKind.u8.wrap (BitVec.ofInt 8 ((s.getD 2 0).toNat : Int) &&& BitVec.ofInt 8 127).toNat)) * 16384))).toNat))), (52, .v (.bool ((IntKind.u8.wrap (BitVec.ofInt 8 ((s.getD 2 0).toNat : Int) &&& BitVec.ofInt 8 128).toNat) == 0)))] hW hE73 fun a74 hE75 => ?_
  clear hE73
  refine wpOps_nil ?_
  refine then_normal ?_
  refine cond_true hE75 (b := (IntKind.u8.wrap (BitVec.ofInt 8 ((s.getD 2 0).toNat : Int) &&& BitVec.ofInt 8 128).toNat) == 0) (by kernel_rfl) ((and128 _ (oc_lt s 2)).trans (decide_eq_true (by have := h2; unfold oc at this; omega))) ?_
  refine go_sp [(2, .v (.int .u32 (IntKind.u32.wrap (BitVec.ofInt 32 (IntKind.u32.wrap (BitVec.ofInt 32 (IntKind.u32.wrap (IntKind.u8.wrap (BitVec.ofInt 8 ((s.getD 0 0).toNat : Int) &&& BitVec.ofInt 8 127).toNat)) ||| BitVec.ofInt 32 (IntKind.u32.wrap ((IntKind.u32.wrap (IntKind.u8.wrap (BitVec.ofInt 8 ((s.getD 1 0).toNat : Int) &&& BitVec.ofInt 8 127).toNat)) * 128))).toNat) ||| BitVec.ofInt 32 (IntKind.u32.wrap ((IntKind.u32.wrap (IntKind.u8.wrap (BitVec.ofInt 8 ((s.getD 2 0).toNat : Int) &&& BitVec.ofInt 8 127).toNat)) * 16384))).toNat))), (3, .v (.int .i64 3))] hW hE75 fun a76 hE77 => ?_
  clear hE75
  refine wp_ret ?_
  refine then_ret ?_
  refine scope_ret ?_
  refine leave hE77 hW.cells (v := .tuple #[.int .u32 (IntKind.u32.wrap (BitVec.ofInt 32 (IntKind.u32.wrap (BitVec.ofInt 32 (IntKind.u32.wrap (IntKind.u8.wrap (BitVec.ofInt 8 ((s.getD 0 0).toNat : Int) &&& BitVec.ofInt 8 127).toNat)) ||| BitVec.ofInt 32 (IntKind.u32.wrap ((IntKind.u32.wrap (IntKind.u8.wrap (BitVec.ofInt 8 ((s.getD 1 0).toNat : Int) &&& BitVec.ofInt 8 127).toNat)) * 128))).toNat) ||| BitVec.ofInt 32 (IntKind.u32.wrap ((IntKind.u32.wrap (IntKind.u8.wrap (BitVec.ofInt 8 ((s.getD 2 0).toNat : Int) &&& BitVec.ofInt 8 127).toNat)) * 16384))).toNat), .int .i64 3]) (by kernel_rfl) ?_
  have e_ := uv_3 (oc s 0) (oc s 1) (oc s 2) (oc_lt s 0) (oc_lt s 1) (oc_lt s 2)
  refine ⟨congrArg (fun z_ : Int => Ending.returned (.tuple #[.int .u32 z_, .int .i64 3])) (Eq.trans e_ ?_), hW.step⟩
  omega

theorem rUv4 {A : Option Addr} {c : Nat} (s : Bs) {w : World} {F : Nat → Nat → Prop} (ho : Octs w F A c s) (hl : 4 ≤ s.length) (d0 d1 d2 d3 : Nat) (h0 : oc s 0 = d0 + 128) (h1 : oc s 1 = d1 + 128) (h2 : oc s 2 = d2 + 128) (h3 : oc s 3 = d3) (g0 : d0 < 128) (g1 : d1 < 128) (g2 : d2 < 128) (g3 : d3 < 128) :
    Calls Tryd.prog 128 #[.slice A s.length c] w (Gives w (.tuple #[.int .u32 ((d0 + d1 * 128 + d2 * 16384 + d3 * 2097152 : Nat) : Int), .int .i64 4])) := by
  refine enter (n := 87) Tryd.func128 rfl Tryd.ntmps128 (by kernel_rfl) fun a hE => ?_
  have hW := WOk.start w Nil
  refine go_sp [(0, .v (.slice A s.length c))] hW hE fun a1 hE2 => ?_
  clear hE
  refine wp_scope_straight ?_
  refine go_sp [(0, .v (.slice A s.length c))] hW hE2 fun a3 hE4 => ?_
  clear hE2
  refine go_sp [(0, .v (.slice A s.length c))] hW hE4 fun a5 hE6 => ?_
  clear hE4
  refine wp_seq ?_
  refine go_sp [(0, .v (.slice A s.length c)), (8, .v (.bool (decide (((s.length : Nat) : Int) < 1))))] hW hE6 fun a7 hE8 => ?_
  clear hE6
  refine cond_false hE8 (b := decide (((s.length : Nat) : Int) < 1)) (by kernel_rfl) (decide_eq_false (by omega)) ?_
  refine wp_skip ?_
  refine then_normal ?_
  refine go_seq_region [0, 1, 2, 3, 4, 5] (by kernel_rfl) ?_
  refine go_rn [0] [1, 2, 3, 4, 5] [(0, .v (.slice A s.length c)), (9, .v (.slice A s.length c))] hW hE8 fun a9 hE10 => ?_
  clear hE8
  obtain ⟨b11, o12, hA13, hl14, hat15⟩ := Slots.get ho (i := 0) (by first | omega | (simp only [List.length_append, be_length, List.length_cons, List.length_nil] at *; omega))
  refine of_op (wpOp_index hE10 (t := 22) (A := A) (m := s.length) (q := 0) (d := 10) (by kernel_rfl) (e := 5) (size := 1) (bytes := 1) (j := 0) (by kernel_rfl) hA13 rfl (by first | omega | (simp only [List.length_append, be_length, List.length_cons, List.length_nil] at *; omega)) fun a16 hE17 => ?_)
  clear hE10
  refine of_op (wpOp_load hE17 (t := 5) (b := b11) (o := o12 + 0 * 1) (d := 11) (by kernel_rfl) (cs := [.int .u8 ((s.getD 0 0).toNat : Int)]) (v := .int .u8 ((s.getD 0 0).toNat : Int)) (by kernel_rfl) (AtF.move hat15 hW.step nilM keepF).at_ fun a18 hE19 => ?_)
  clear hE17
  refine go_rn [3, 4, 5] [] [(0, .v (.slice A s.length c)), (4, .v (.int .u32 (IntKind.u32.wrap (IntKind.u8.wrap (BitVec.ofInt 8 ((s.getD 0 0).toNat : Int) &&& BitVec.ofInt 8 127).toNat))))] hW hE19 fun a20 hE21 => ?_
  clear hE19
  refine wpOps_nil ?_
  refine then_normal ?_
  refine wp_seq ?_
  refine go_seq_region [0, 1, 2, 3, 4] (by kernel_rfl) ?_
  refine go_rn [0] [1, 2, 3, 4] [(0, .v (.slice A s.length c)), (4, .v (.int .u32 (IntKind.u32.wrap (IntKind.u8.wrap (BitVec.ofInt 8 ((s.getD 0 0).toNat : Int) &&& BitVec.ofInt 8 127).toNat)))), (14, .v (.slice A s.length c))] hW hE21 fun a22 hE23 => ?_
  clear hE21
  refine of_op (wpOp_index hE23 (t := 22) (A := A) (m := s.length) (q := 0) (d := 15) (by kernel_rfl) (e := 5) (size := 1) (bytes := 1) (j := 0) (by kernel_rfl) hA13 rfl (by first | omega | (simp only [List.length_append, be_length, List.length_cons, List.length_nil] at *; omega)) fun a24 hE25 => ?_)
  clear hE23
  refine of_op (wpOp_load hE25 (t := 5) (b := b11) (o := o12 + 0 * 1) (d := 16) (by kernel_rfl) (cs := [.int .u8 ((s.getD 0 0).toNat : Int)]) (v := .int .u8 ((s.getD 0 0).toNat : Int)) (by kernel_rfl) (AtF.move hat15 hW.step nilM keepF).at_ fun a26 hE27 => ?_)
  clear hE25
  refine go_rn [3, 4] [] [(0, .v (.slice A s.length c)), (4, .v (.int .u32 (IntKind.u32.wrap (IntKind.u8.wrap (BitVec.ofInt 8 ((s.getD 0 0).toNat : Int) &&& BitVec.ofInt 8 127).toNat)))), (18, .v (.bool ((IntKind.u8.wrap (BitVec.ofInt 8 ((s.getD 0 0).toNat : Int) &&& BitVec.ofInt 8 128).toNat) == 0)))] hW hE27 fun a28 hE29 => ?_
  clear hE27
  refine wpOps_nil ?_
  refine then_normal ?_
  refine cond_false hE29 (b := (IntKind.u8.wrap (BitVec.ofInt 8 ((s.getD 0 0).toNat : Int) &&& BitVec.ofInt 8 128).toNat) == 0) (by kernel_rfl) ((and128 _ (oc_lt s 0)).trans (decide_eq_false (by have := h0; unfold oc at this; omega))) ?_
  refine go_sp [(0, .v (.slice A s.length c)), (4, .v (.int .u32 (IntKind.u32.wrap (IntKind.u8.wrap (BitVec.ofInt 8 ((s.getD 0 0).toNat : Int) &&& BitVec.ofInt 8 127).toNat)))), (22, .v (.bool (decide (((s.length : Nat) : Int) < 2))))] hW hE29 fun a30 hE31 => ?_
  clear hE29
  refine cond_false hE31 (b := decide (((s.length : Nat) : Int) < 2)) (by kernel_rfl) (decide_eq_false (by omega)) ?_
  refine wp_skip ?_
  refine then_normal ?_
  refine go_seq_region [0, 1, 2, 3, 4, 5, 6, 7, 8] (by kernel_rfl) ?_
  refine go_rn [0, 1] [2, 3, 4, 5, 6, 7, 8] [(0, .v (.slice A s.length c)), (23, .v (.int .u32 (IntKind.u32.wrap (IntKind.u8.wrap (BitVec.ofInt 8 ((s.getD 0 0).toNat : Int) &&& BitVec.ofInt 8 127).toNat)))), (24, .v (.slice A s.length c))] hW hE31 fun a32 hE33 => ?_
  clear hE31
  obtain ⟨b34, o35, hA36, hl37, hat38⟩ := Slots.get ho (i := 1) (by first | omega | (simp only [List.length_append, be_length, List.length_cons, List.length_nil] at *; omega))
  refine of_op (wpOp_index hE33 (t := 22) (A := A) (m := s.length) (q := 1) (d := 25) (by kernel_rfl) (e := 5) (size := 1) (bytes := 1) (j := 1) (by kernel_rfl) hA36 rfl (by first | omega | (simp only [List.length_append, be_length, List.length_cons, List.length_nil] at *; omega)) fun a39 hE40 => ?_)
  clear hE33
  refine of_op (wpOp_load hE40 (t := 5) (b := b34) (o := o35 + 1 * 1) (d := 26) (by kernel_rfl) (cs := [.int .u8 ((s.getD 1 0).toNat : Int)]) (v := .int .u8 ((s.getD 1 0).toNat : Int)) (by kernel_rfl) (AtF.move hat38 hW.step nilM keepF).at_ fun a41 hE42 => ?_)
  clear hE40
  refine go_rn [4, 5, 6, 7, 8] [] [(0, .v (.slice A s.length c)), (4, .v (.int .u32 (IntKind.u32.wrap (BitVec.ofInt 32 (IntKind.u32.wrap (IntKind.u8.wrap (BitVec.ofInt 8 ((s.getD 0 0).toNat : Int) &&& BitVec.ofInt 8 127).toNat)) ||| BitVec.ofInt 32 (IntKind.u32.wrap ((IntKind.u32.wrap (IntKind.u8.wrap (BitVec.ofInt 8 ((s.getD 1 0).toNat : Int) &&& BitVec.ofInt 8 127).toNat)) * 128))).toNat)))] hW hE42 fun a43 hE44 => ?_
  clear hE42
  refine wpOps_nil ?_
  refine then_normal ?_
  refine wp_seq ?_
  refine go_seq_region [0, 1, 2, 3, 4] (by kernel_rfl) ?_
  refine go_rn [0] [1, 2, 3, 4] [(0, .v (.slice A s.length c)), (4, .v (.int .u32 (IntKind.u32.wrap (BitVec.ofInt 32 (IntKind.u32.wrap (IntKind.u8.wrap (BitVec.ofInt 8 ((s.getD 0 0).toNat : Int) &&& BitVec.ofInt 8 127).toNat)) ||| BitVec.ofInt 32 (IntKind.u32.wrap ((IntKind.u32.wrap (IntKind.u8.wrap (BitVec.ofInt 8 ((s.getD 1 0).toNat : Int) &&& BitVec.ofInt 8 127).toNat)) * 128))).toNat))), (31, .v (.slice A s.length c))] hW hE44 fun a45 hE46 => ?_
  clear hE44
  refine of_op (wpOp_index hE46 (t := 22) (A := A) (m := s.length) (q := 1) (d := 32) (by kernel_rfl) (e := 5) (size := 1) (bytes := 1) (j := 1) (by kernel_rfl) hA36 rfl (by first | omega | (simp only [List.length_append, be_length, List.length_cons, List.length_nil] at *; omega)) fun a47 hE48 => ?_)
  clear hE46
  refine of_op (wpOp_load hE48 (t := 5) (b := b34) (o := o35 + 1 * 1) (d := 33) (by kernel_rfl) (cs := [.int .u8 ((s.getD 1 0).toNat : Int)]) (v := .int .u8 ((s.getD 1 0).toNat : Int)) (by kernel_rfl) (AtF.move hat38 hW.step nilM keepF).at_ fun a49 hE50 => ?_)
  clear hE48
  refine go_rn [3, 4] [] [(0, .v (.slice A s.length c)), (4, .v (.int .u32 (IntKind.u32.wrap (BitVec.ofInt 32 (IntKind.u32.wrap (IntKind.u8.wrap (BitVec.ofInt 8 ((s.getD 0 0).toNat : Int) &&& BitVec.ofInt 8 127).toNat)) ||| BitVec.ofInt 32 (IntKind.u32.wrap ((IntKind.u32.wrap (IntKind.u8.wrap (BitVec.ofInt 8 ((s.getD 1 0).toNat : Int) &&& BitVec.ofInt 8 127).toNat)) * 128))).toNat))), (35, .v (.bool ((IntKind.u8.wrap (BitVec.ofInt 8 ((s.getD 1 0).toNat : Int) &&& BitVec.ofInt 8 128).toNat) == 0)))] hW hE50 fun a51 hE52 => ?_
  clear hE50
  refine wpOps_nil ?_
  refine then_normal ?_
  refine cond_false hE52 (b := (IntKind.u8.wrap (BitVec.ofInt 8 ((s.getD 1 0).toNat : Int) &&& BitVec.ofInt 8 128).toNat) == 0) (by kernel_rfl) ((and128 _ (oc_lt s 1)).trans (decide_eq_false (by have := h1; unfold oc at this; omega))) ?_
  refine go_sp [(0, .v (.slice A s.length c)), (4, .v (.int .u32 (IntKind.u32.wrap (BitVec.ofInt 32 (IntKind.u32.wrap (IntKind.u8.wrap (BitVec.ofInt 8 ((s.getD 0 0).toNat : Int) &&& BitVec.ofInt 8 127).toNat)) ||| BitVec.ofInt 32 (IntKind.u32.wrap ((IntKind.u32.wrap (IntKind.u8.wrap (BitVec.ofInt 8 ((s.getD 1 0).toNat : Int) &&& BitVec.ofInt 8 127).toNat)) * 128))).toNat))), (39, .v (.bool (decide (((s.length : Nat) : Int) < 3))))] hW hE52 fun a53 hE54 => ?_
  clear hE52
  refine cond_false hE54 (b := decide (((s.length : Nat) : Int) < 3)) (by kernel_rfl) (decide_eq_false (by omega)) ?_
  refine wp_skip ?_
  refine then_normal ?_
  refine go_seq_region [0, 1, 2, 3, 4, 5, 6, 7, 8] (by kernel_rfl) ?_
  refine go_rn [0, 1] [2, 3, 4, 5, 6, 7, 8] [(0, .v (.slice A s.length c)), (40, .v (.int .u32 (IntKind.u32.wrap (BitVec.ofInt 32 (IntKind.u32.wrap (IntKind.u8.wrap (BitVec.ofInt 8 ((s.getD 0 0).toNat : Int) &&& BitVec.ofInt 8 127).toNat)) ||| BitVec.ofInt 32 (IntKind.u32.wrap ((IntKind.u32.wrap (IntKind.u8.wrap (BitVec.ofInt 8 ((s.getD 1 0).toNat : Int) &&& BitVec.ofInt 8 127).toNat)) * 128))).toNat))), (41, .v (.slice A s.length c))] hW hE54 fun a55 hE56 => ?_
  clear hE54
  obtain ⟨b57, o58, hA59, hl60, hat61⟩ := Slots.get ho (i := 2) (by first | omega | (simp only [List.length_append, be_length, List.length_cons, List.length_nil] at *; omega))
  refine of_op (wpOp_index hE56 (t := 22) (A := A) (m := s.length) (q := 2) (d := 42) (by kernel_rfl) (e := 5) (size := 1) (bytes := 1) (j := 2) (by kernel_rfl) hA59 rfl (by first | omega | (simp only [List.length_append, be_length, List.length_cons, List.length_nil] at *; omega)) fun a62 hE63 => ?_)
  clear hE56
  refine of_op (wpOp_load hE63 (t := 5) (b := b57) (o := o58 + 2 * 1) (d := 43) (by kernel_rfl) (cs := [.int .u8 ((s.getD 2 0).toNat : Int)]) (v := .int .u8 ((s.getD 2 0).toNat : Int)) (by kernel_rfl) (AtF.move hat61 hW.step nilM keepF).at_ fun a64 hE65 => ?_)
  clear hE63
  refine go_rn [4, 5, 6, 7, 8] [] [(0, .v (.slice A s.length c)), (4, .v (.int .u32 (IntKind.u32.wrap (BitVec.ofInt 32 (IntKind.u32.wrap (BitVec.ofInt 32 (IntKind.u32.wrap (IntKind.u8.wrap (BitVec.ofInt 8 ((s.getD 0 0).toNat : Int) &&& BitVec.ofInt 8 127).toNat)) ||| BitVec.ofInt 32 (IntKind.u32.wrap ((IntKind.u32.wrap (IntKind.u8.wrap (BitVec.ofInt 8 ((s.getD 1 0).toNat : Int) &&& BitVec.ofInt 8 127).toNat)) * 128))).toNat) ||| BitVec.ofInt 32 (IntKind.u32.wrap ((IntKind.u32.wrap (IntKind.u8.wrap (BitVec.ofInt 8 ((s.getD 2 0).toNat : Int) &&& BitVec.ofInt 8 127).toNat)) * 16384))).toNat)))] hW hE65 fun a66 hE67 => ?_
  clear hE65
  refine wpOps_nil ?_
  refine then_normal ?_
  refine wp_seq ?_
  refine go_seq_region [0, 1, 2, 3, 4] (by kernel_rfl) ?_
  refine go_rn [0] [1, 2, 3, 4] [(0, .v (.slice A s.length c)), (4, .v (.int .u32 (IntKind.u32.wrap (BitVec.ofInt 32 (IntKind.u32.wrap (BitVec.ofInt 32 (IntKind.u32.wrap (IntKind.u8.wrap (BitVec.ofInt 8 ((s.getD 0 0).toNat : Int) &&& BitVec.ofInt 8 127).toNat)) ||| BitVec.ofInt 32 (IntKind.u32.wrap ((IntKind.u32.wrap (IntKind.u8.wrap (BitVec.ofInt 8 ((s.getD 1 0).toNat : Int) &&& BitVec.ofInt 8 127).toNat)) * 128))).toNat) ||| BitVec.ofInt 32 (IntKind.u32.wrap ((IntKind.u32.wrap (IntKind.u8.wrap (BitVec.ofInt 8 ((s.getD 2 0).toNat : Int) &&& BitVec.ofInt 8 127).toNat)) * 16384))).toNat))), (48, .v (.slice A s.length c))] hW hE67 fun a68 hE69 => ?_
  clear hE67
  refine of_op (wpOp_index hE69 (t := 22) (A := A) (m := s.length) (q := 2) (d := 49) (by kernel_rfl) (e := 5) (size := 1) (bytes := 1) (j := 2) (by kernel_rfl) hA59 rfl (by first | omega | (simp only [List.length_append, be_length, List.length_cons, List.length_nil] at *; omega)) fun a70 hE71 => ?_)
  clear hE69
  refine of_op (wpOp_load hE71 (t := 5) (b := b57) (o := o58 + 2 * 1) (d := 50) (by kernel_rfl) (cs := [.int .u8 ((s.getD 2 0).toNat : Int)]) (v := .int .u8 ((s.getD 2 0).toNat : Int)) (by kernel_rfl) (AtF.move hat61 hW.step nilM keepF).at_ fun a72 hE73 => ?_)
  clear hE71
  refine go_rn [3, 4] [] [(0, .v (.slice A s.length c)), (4, .v (.int .u32 (IntKind.u32.wrap (BitVec.ofInt 32 (IntKind.u32.wrap (BitVec.ofInt 32 (IntKind.u32.wrap (IntKind.u8.wrap (BitVec.ofInt 8 ((s.getD 0 0).toNat : Int) &&& BitVec.ofInt 8 127).toNat)) ||| BitVec.ofInt 32 (IntKind.u32.wrap ((IntKind.u32.wrap (IntKind.u8.wrap (BitVec.ofInt 8 ((s.getD 1 0).toNat : Int) &&& BitVec.ofInt 8 127).toNat)) * 128))).toNat) ||| BitVec.ofInt 32 (IntKind.u32.wrap ((IntKind.u32.wrap (IntKind.u8.wrap (BitVec.ofInt 8 ((s.getD 2 0).toNat : Int) &&& BitVec.ofInt 8 127).toNat)) * 16384))).toNat))), (52, .v (.bool ((IntKind.u8.wrap (BitVec.ofInt 8 ((s.getD 2 0).toNat : Int) &&& BitVec.ofInt 8 128).toNat) == 0)))] hW hE73 fun a74 hE75 => ?_
  clear hE73
  refine wpOps_nil ?_
  refine then_normal ?_
  refine cond_false hE75 (b := (IntKind.u8.wrap (BitVec.ofInt 8 ((s.getD 2 0).toNat : Int) &&& BitVec.ofInt 8 128).toNat) == 0) (by kernel_rfl) ((and128 _ (oc_lt s 2)).trans (decide_eq_false (by have := h2; unfold oc at this; omega))) ?_
  refine go_sp [(0, .v (.slice A s.length c)), (4, .v (.int .u32 (IntKind.u32.wrap (BitVec.ofInt 32 (IntKind.u32.wrap (BitVec.ofInt 32 (IntKind.u32.wrap (IntKind.u8.wrap (BitVec.ofInt 8 ((s.getD 0 0).toNat : Int) &&& BitVec.ofInt 8 127).toNat)) ||| BitVec.ofInt 32 (IntKind.u32.wrap ((IntKind.u32.wrap (IntKind.u8.wrap (BitVec.ofInt 8 ((s.getD 1 0).toNat : Int) &&& BitVec.ofInt 8 127).toNat)) * 128))).toNat) ||| BitVec.ofInt 32 (IntKind.u32.wrap ((IntKind.u32.wrap (IntKind.u8.wrap (BitVec.ofInt 8 ((s.getD 2 0).toNat : Int) &&& BitVec.ofInt 8 127).toNat)) * 16384))).toNat))), (56, .v (.bool (decide (((s.length : Nat) : Int) < 4))))] hW hE75 fun a76 hE77 => ?_
  clear hE75
  refine cond_false hE77 (b := decide (((s.length : Nat) : Int) < 4)) (by kernel_rfl) (decide_eq_false (by omega)) ?_
  refine wp_skip ?_
  refine then_normal ?_
  refine go_seq_region [0, 1, 2, 3, 4, 5, 6, 7, 8] (by kernel_rfl) ?_
  refine go_rn [0, 1] [2, 3, 4, 5, 6, 7, 8] [(0, .v (.slice A s.length c)), (57, .v (.int .u32 (IntKind.u32.wrap (BitVec.ofInt 32 (IntKind.u32.wrap (BitVec.ofInt 32 (IntKind.u32.wrap (IntKind.u8.wrap (BitVec.ofInt 8 ((s.getD 0 0).toNat : Int) &&& BitVec.ofInt 8 127).toNat)) ||| BitVec.ofInt 32 (IntKind.u32.wrap ((IntKind.u32.wrap (IntKind.u8.wrap (BitVec.ofInt 8 ((s.getD 1 0).toNat : Int) &&& BitVec.ofInt 8 127).toNat)) * 128))).toNat) ||| BitVec.ofInt 32 (IntKind.u32.wrap ((IntKind.u32.wrap (IntKind.u8.wrap (BitVec.ofInt 8 ((s.getD 2 0).toNat : Int) &&& BitVec.ofInt 8 127).toNat)) * 16384))).toNat))), (58, .v (.slice A s.length c))] hW hE77 fun a78 hE79 => ?_
  clear hE77
  obtain ⟨b80, o81, hA82, hl83, hat84⟩ := Slots.get ho (i := 3) (by first | omega | (simp only [List.length_append, be_length, List.length_cons, List.length_nil] at *; omega))
  refine of_op (wpOp_index hE79 (t := 22) (A := A) (m := s.length) (q := 3) (d := 59) (by kernel_rfl) (e := 5) (size := 1) (bytes := 1) (j := 3) (by kernel_rfl) hA82 rfl (by first | omega | (simp only [List.length_append, be_length, List.length_cons, List.length_nil] at *; omega)) fun a85 hE86 => ?_)
  clear hE79
  refine of_op (wpOp_load hE86 (t := 5) (b := b80) (o := o81 + 3 * 1) (d := 60) (by kernel_rfl) (cs := [.int .u8 ((s.getD 3 0).toNat : Int)]) (v := .int .u8 ((s.getD 3 0).toNat : Int)) (by kernel_rfl) (AtF.move hat84 hW.step nilM keepF).at_ fun a87 hE88 => ?_)
  clear hE86
  refine go_rn [4, 5, 6, 7, 8] [] [(0, .v (.slice A s.length c)), (4, .v (.int .u32 (IntKind.u32.wrap (BitVec.ofInt 32 (IntKind.u32.wrap (BitVec.ofInt 32 (IntKind.u32.wrap (BitVec.ofInt 32 (IntKind.u32.wrap (IntKind.u8.wrap (BitVec.ofInt 8 ((s.getD 0 0).toNat : Int) &&& BitVec.ofInt 8 127).toNat)) ||| BitVec.ofInt 32 (IntKind.u32.wrap ((IntKind.u32.wrap (IntKind.u8.wrap (BitVec.ofInt 8 ((s.getD 1 0).toNat : Int) &&& BitVec.ofInt 8 127).toNat)) * 128))).toNat) ||| BitVec.ofInt 32 (IntKind.u32.wrap ((IntKind.u32.wrap (IntKind.u8.wrap (BitVec.ofInt 8 ((s.getD 2 0).toNat : Int) &&& BitVec.ofInt 8 127).toNat)) * 16384))).toNat) ||| BitVec.ofInt 32 (IntKind.u32.wrap ((IntKind.u32.wrap (IntKind.u8.wrap (BitVec.ofInt 8 ((s.getD 3 0).toNat : Int) &&& BitVec.ofInt 8 127).toNat)) * 2097152))).toNat)))] hW hE88 fun a89 hE90 => ?_
  clear hE88
  refine wpOps_nil ?_
  refine then_normal ?_
  refine wp_seq ?_
  refine go_seq_region [0, 1, 2, 3, 4] (by kernel_rfl) ?_
  refine go_rn [0] [1, 2, 3, 4] [(0, .v (.slice A s.length c)), (4, .v (.int .u32 (IntKind.u32.wrap (BitVec.ofInt 32 (IntKind.u32.wrap (BitVec.ofInt 32 (IntKind.u32.wrap (BitVec.ofInt 32 (IntKind.u32.wrap (IntKind.u8.wrap (BitVec.ofInt 8 ((s.getD 0 0).toNat : Int) &&& BitVec.ofInt 8 127).toNat)) ||| BitVec.ofInt 32 (IntKind.u32.wrap ((IntKind.u32.wrap (IntKind.u8.wrap (BitVec.ofInt 8 ((s.getD 1 0).toNat : Int) &&& BitVec.ofInt 8 127).toNat)) * 128))).toNat) ||| BitVec.ofInt 32 (IntKind.u32.wrap ((IntKind.u32.wrap (IntKind.u8.wrap (BitVec.ofInt 8 ((s.getD 2 0).toNat : Int) &&& BitVec.ofInt 8 127).toNat)) * 16384))).toNat) ||| BitVec.ofInt 32 (IntKind.u32.wrap ((IntKind.u32.wrap (IntKind.u8.wrap (BitVec.ofInt 8 ((s.getD 3 0).toNat : Int) &&& BitVec.ofInt 8 127).toNat)) * 2097152))).toNat))), (65, .v (.slice A s.length c))] hW hE90 fun a91 hE92 => ?_
  clear hE90
  refine of_op (wpOp_index hE92 (t := 22) (A := A) (m := s.length) (q := 3) (d := 66) (by kernel_rfl) (e := 5) (size := 1) (bytes := 1) (j := 3) (by kernel_rfl) hA82 rfl (by first | omega | (simp only [List.length_append, be_length, List.length_cons, List.length_nil] at *; omega)) fun a93 hE94 => ?_)
  clear hE92
  refine of_op (wpOp_load hE94 (t := 5) (b := b80) (o := o81 + 3 * 1) (d := 67) (by kernel_rfl) (cs := [.int .u8 ((s.getD 3 0).toNat : Int)]) (v := .int .u8 ((s.getD 3 0).toNat : Int)) (by kernel_rfl) (AtF.move hat84 hW.step nilM keepF).at_ fun a95 hE96 => ?_)
  clear hE94
  refine go_rn [3, 4] [] [(0, .v (.slice A s.length c)), (4, .v (.int .u32 (IntKind.u32.wrap (BitVec.ofInt 32 (IntKind.u32.wrap (BitVec.ofInt 32 (IntKind.u32.wrap (BitVec.ofInt 32 (IntKind.u32.wrap (IntKind.u8.wrap (BitVec.ofInt 8 ((s.getD 0 0).toNat : Int) &&& BitVec.ofInt 8 127).toNat)) ||| BitVec.ofInt 32 (IntKind.u32.wrap ((IntKind.u32.wrap (IntKind.u8.wrap (BitVec.ofInt 8 ((s.getD 1 0).toNat : Int) &&& BitVec.ofInt 8 127).toNat)) * 128))).toNat) ||| BitVec.ofInt 32 (IntKind.u32.wrap ((IntKind.u32.wrap (IntKind.u8.wrap (BitVec.ofInt 8 ((s.getD 2 0).toNat : Int) &&& BitVec.ofInt 8 127).toNat)) * 16384))).toNat) ||| BitVec.ofInt 32 (IntKind.u32.wrap ((IntKind.u32.wrap (IntKind.u8.wrap (BitVec.ofInt 8 ((s.getD 3 0).toNat : Int) &&& BitVec.ofInt 8 127).toNat)) * 2097152))).toNat))), (69, .v (.bool ((IntKind.u8.wrap (BitVec.ofInt 8 ((s.getD 3 0).toNat : Int) &&& BitVec.ofInt 8 128).toNat) == 0)))] hW hE96 fun a97 hE98 => ?_
  clear hE96
  refine wpOps_nil ?_
  refine then_normal ?_
  refine cond_true hE98 (b := (IntKind.u8.wrap (BitVec.ofInt 8 ((s.getD 3 0).toNat : Int) &&& BitVec.ofInt 8 128).toNat) == 0) (by kernel_rfl) ((and128 _ (oc_lt s 3)).trans (decide_eq_true (by have := h3; unfold oc at this; omega))) ?_
  refine go_sp [(2, .v (.int .u32 (IntKind.u32.wrap (BitVec.ofInt 32 (IntKind.u32.wrap (BitVec.ofInt 32 (IntKind.u32.wrap (BitVec.ofInt 32 (IntKind.u32.wrap (IntKind.u8.wrap (BitVec.ofInt 8 ((s.getD 0 0).toNat : Int) &&& BitVec.ofInt 8 127).toNat)) ||| BitVec.ofInt 32 (IntKind.u32.wrap ((IntKind.u32.wrap (IntKind.u8.wrap (BitVec.ofInt 8 ((s.getD 1 0).toNat : Int) &&& BitVec.ofInt 8 127).toNat)) * 128))).toNat) ||| BitVec.ofInt 32 (IntKind.u32.wrap ((IntKind.u32.wrap (IntKind.u8.wrap (BitVec.ofInt 8 ((s.getD 2 0).toNat : Int) &&& BitVec.ofInt 8 127).toNat)) * 16384))).toNat) ||| BitVec.ofInt 32 (IntKind.u32.wrap ((IntKind.u32.wrap (IntKind.u8.wrap (BitVec.ofInt 8 ((s.getD 3 0).toNat : Int) &&& BitVec.ofInt 8 127).toNat)) * 2097152))).toNat))), (3, .v (.int .i64 4))] hW hE98 fun a99 hE100 => ?_
  clear hE98
  refine wp_ret ?_
  refine then_ret ?_
  refine scope_ret ?_
  refine leave hE100 hW.cells (v := .tuple #[.int .u32 (IntKind.u32.wrap (BitVec.ofInt 32 (IntKind.u32.wrap (BitVec.ofInt 32 (IntKind.u32.wrap (BitVec.ofInt 32 (IntKind.u32.wrap (IntKind.u8.wrap (BitVec.ofInt 8 ((s.getD 0 0).toNat : Int) &&& BitVec.ofInt 8 127).toNat)) ||| BitVec.ofInt 32 (IntKind.u32.wrap ((IntKind.u32.wrap (IntKind.u8.wrap (BitVec.ofInt 8 ((s.getD 1 0).toNat : Int) &&& BitVec.ofInt 8 127).toNat)) * 128))).toNat) ||| BitVec.ofInt 32 (IntKind.u32.wrap ((IntKind.u32.wrap (IntKind.u8.wrap (BitVec.ofInt 8 ((s.getD 2 0).toNat : Int) &&& BitVec.ofInt 8 127).toNat)) * 16384))).toNat) ||| BitVec.ofInt 32 (IntKind.u32.wrap ((IntKind.u32.wrap (IntKind.u8.wrap (BitVec.ofInt 8 ((s.getD 3 0).toNat : Int) &&& BitVec.ofInt 8 127).toNat)) * 2097152))).toNat), .int .i64 4]) (by kernel_rfl) ?_
  have e_ := uv_4 (oc s 0) (oc s 1) (oc s 2) (oc s 3) (oc_lt s 0) (oc_lt s 1) (oc_lt s 2) (oc_lt s 3)
  refine ⟨congrArg (fun z_ : Int => Ending.returned (.tuple #[.int .u32 z_, .int .i64 4])) (Eq.trans e_ ?_), hW.step⟩
  omega

theorem rUv5 {A : Option Addr} {c : Nat} (s : Bs) {w : World} {F : Nat → Nat → Prop} (ho : Octs w F A c s) (hl : 5 ≤ s.length) (d0 d1 d2 d3 d4 : Nat) (h0 : oc s 0 = d0 + 128) (h1 : oc s 1 = d1 + 128) (h2 : oc s 2 = d2 + 128) (h3 : oc s 3 = d3 + 128) (h4 : oc s 4 = d4) (g0 : d0 < 128) (g1 : d1 < 128) (g2 : d2 < 128) (g3 : d3 < 128) (g4 : d4 < 16) :
    Calls Tryd.prog 128 #[.slice A s.length c] w (Gives w (.tuple #[.int .u32 ((d0 + d1 * 128 + d2 * 16384 + d3 * 2097152 + d4 * 268435456 : Nat) : Int), .int .i64 5])) := by
  refine enter (n := 87) Tryd.func128 rfl Tryd.ntmps128 (by kernel_rfl) fun a hE => ?_
  have hW := WOk.start w Nil
  refine go_sp [(0, .v (.slice A s.length c))] hW hE fun a1 hE2 => ?_
  clear hE
  refine wp_scope_straight ?_
  refine go_sp [(0, .v (.slice A s.length c))] hW hE2 fun a3 hE4 => ?_
  clear hE2
  refine go_sp [(0, .v (.slice A s.length c))] hW hE4 fun a5 hE6 => ?_
  clear hE4
  refine wp_seq ?_
  refine go_sp [(0, .v (.slice A s.length c)), (8, .v (.bool (decide (((s.length : Nat) : Int) < 1))))] hW hE6 fun a7 hE8 => ?_
  clear hE6
  refine cond_false hE8 (b := decide (((s.length : Nat) : Int) < 1)) (by kernel_rfl) (decide_eq_false (by omega)) ?_
  refine wp_skip ?_
  refine then_normal ?_
  refine go_seq_region [0, 1, 2, 3, 4, 5] (by kernel_rfl) ?_
  refine go_rn [0] [1, 2, 3, 4, 5] [(0, .v (.slice A s.length c)), (9, .v (.slice A s.length c))] hW hE8 fun a9 hE10 => ?_
  clear hE8
  obtain ⟨b11, o12, hA13, hl14, hat15⟩ := Slots.get ho (i := 0) (by first | omega | (simp only [List.length_append, be_length, List.length_cons, List.length_nil] at *; omega))
  refine of_op (wpOp_index hE10 (t := 22) (A := A) (m := s.length) (q := 0) (d := 10) (by kernel_rfl) (e := 5) (size := 1) (bytes := 1) (j := 0) (by kernel_rfl) hA13 rfl (by first | omega | (simp only [List.length_append, be_length, List.length_cons, List.length_nil] at *; omega)) fun a16 hE17 => ?_)
  clear hE10
  refine of_op (wpOp_load hE17 (t := 5) (b := b11) (o := o12 + 0 * 1) (d := 11) (by kernel_rfl) (cs := [.int .u8 ((s.getD 0 0).toNat : Int)]) (v := .int .u8 ((s.getD 0 0).toNat : Int)) (by kernel_rfl) (AtF.move hat15 hW.step nilM keepF).at_ fun a18 hE19 => ?_)
  clear hE17
  refine go_rn [3, 4, 5] [] [(0, .v (.slice A s.length c)), (4, .v (.int .u32 (IntKind.u32.wrap (IntKind.u8.wrap (BitVec.ofInt 8 ((s.getD 0 0).toNat : Int) &&& BitVec.ofInt 8 127).toNat))))] hW hE19 fun a20 hE21 => ?_
  clear hE19
  refine wpOps_nil ?_
  refine then_normal ?_
  refine wp_seq ?_
  refine go_seq_region [0, 1, 2, 3, 4] (by kernel_rfl) ?_
  refine go_rn [0] [1, 2, 3, 4] [(0, .v (.slice A s.length c)), (4, .v (.int .u32 (IntKind.u32.wrap (IntKind.u8.wrap (BitVec.ofInt 8 ((s.getD 0 0).toNat : Int) &&& BitVec.ofInt 8 127).toNat)))), (14, .v (.slice A s.length c))] hW hE21 fun a22 hE23 => ?_
  clear hE21
  refine of_op (wpOp_index hE23 (t := 22) (A := A) (m := s.length) (q := 0) (d := 15) (by kernel_rfl) (e := 5) (size := 1) (bytes := 1) (j := 0) (by kernel_rfl) hA13 rfl (by first | omega | (simp only [List.length_append, be_length, List.length_cons, List.length_nil] at *; omega)) fun a24 hE25 => ?_)
  clear hE23
  refine of_op (wpOp_load hE25 (t := 5) (b := b11) (o := o12 + 0 * 1) (d := 16) (by kernel_rfl) (cs := [.int .u8 ((s.getD 0 0).toNat : Int)]) (v := .int .u8 ((s.getD 0 0).toNat : Int)) (by kernel_rfl) (AtF.move hat15 hW.step nilM keepF).at_ fun a26 hE27 => ?_)
  clear hE25
  refine go_rn [3, 4] [] [(0, .v (.slice A s.length c)), (4, .v (.int .u32 (IntKind.u32.wrap (IntKind.u8.wrap (BitVec.ofInt 8 ((s.getD 0 0).toNat : Int) &&& BitVec.ofInt 8 127).toNat)))), (18, .v (.bool ((IntKind.u8.wrap (BitVec.ofInt 8 ((s.getD 0 0).toNat : Int) &&& BitVec.ofInt 8 128).toNat) == 0)))] hW hE27 fun a28 hE29 => ?_
  clear hE27
  refine wpOps_nil ?_
  refine then_normal ?_
  refine cond_false hE29 (b := (IntKind.u8.wrap (BitVec.ofInt 8 ((s.getD 0 0).toNat : Int) &&& BitVec.ofInt 8 128).toNat) == 0) (by kernel_rfl) ((and128 _ (oc_lt s 0)).trans (decide_eq_false (by have := h0; unfold oc at this; omega))) ?_
  refine go_sp [(0, .v (.slice A s.length c)), (4, .v (.int .u32 (IntKind.u32.wrap (IntKind.u8.wrap (BitVec.ofInt 8 ((s.getD 0 0).toNat : Int) &&& BitVec.ofInt 8 127).toNat)))), (22, .v (.bool (decide (((s.length : Nat) : Int) < 2))))] hW hE29 fun a30 hE31 => ?_
  clear hE29
  refine cond_false hE31 (b := decide (((s.length : Nat) : Int) < 2)) (by kernel_rfl) (decide_eq_false (by omega)) ?_
  refine wp_skip ?_
  refine then_normal ?_
  refine go_seq_region [0, 1, 2, 3, 4, 5, 6, 7, 8] (by kernel_rfl) ?_
  refine go_rn [0, 1] [2, 3, 4, 5, 6, 7, 8] [(0, .v (.slice A s.length c)), (23, .v (.int .u32 (IntKind.u32.wrap (IntKind.u8.wrap (BitVec.ofInt 8 ((s.getD 0 0).toNat : Int) &&& BitVec.ofInt 8 127).toNat)))), (24, .v (.slice A s.length c))] hW hE31 fun a32 hE33 => ?_
  clear hE31
  obtain ⟨b34, o35, hA36, hl37, hat38⟩ := Slots.get ho (i := 1) (by first | omega | (simp only [List.length_append, be_length, List.length_cons, List.length_nil] at *; omega))
  refine of_op (wpOp_index hE33 (t := 22) (A := A) (m := s.length) (q := 1) (d := 25) (by kernel_rfl) (e := 5) (size := 1) (bytes := 1) (j := 1) (by kernel_rfl) hA36 rfl (by first | omega | (simp only [List.length_append, be_length, List.length_cons, List.length_nil] at *; omega)) fun a39 hE40 => ?_)
  clear hE33
  refine of_op (wpOp_load hE40 (t := 5) (b := b34) (o := o35 + 1 * 1) (d := 26) (by kernel_rfl) (cs := [.int .u8 ((s.getD 1 0).toNat : Int)]) (v := .int .u8 ((s.getD 1 0).toNat : Int)) (by kernel_rfl) (AtF.move hat38 hW.step nilM keepF).at_ fun a41 hE42 => ?_)
  clear hE40
  refine go_rn [4, 5, 6, 7, 8] [] [(0, .v (.slice A s.length c)), (4, .v (.int .u32 (IntKind.u32.wrap (BitVec.ofInt 32 (IntKind.u32.wrap (IntKind.u8.wrap (BitVec.ofInt 8 ((s.getD 0 0).toNat : Int) &&& BitVec.ofInt 8 127).toNat)) ||| BitVec.ofInt 32 (IntKind.u32.wrap ((IntKind.u32.wrap (IntKind.u8.wrap (BitVec.ofInt 8 ((s.getD 1 0).toNat : Int) &&& BitVec.ofInt 8 127).toNat)) * 128))).toNat)))] hW hE42 fun a43 hE44 => ?_
  clear hE42
  refine wpOps_nil ?_
  refine then_normal ?_
  refine wp_seq ?_
  refine go_seq_region [0, 1, 2, 3, 4] (by kernel_rfl) ?_
  refine go_rn [0] [1, 2, 3, 4] [(0, .v (.slice A s.length c)), (4, .v (.int .u32 (IntKind.u32.wrap (BitVec.ofInt 32 (IntKind.u32.wrap (IntKind.u8.wrap (BitVec.ofInt 8 ((s.getD 0 0).toNat : Int) &&& BitVec.ofInt 8 127).toNat)) ||| BitVec.ofInt 32 (IntKind.u32.wrap ((IntKind.u32.wrap (IntKind.u8.wrap (BitVec.ofInt 8 ((s.getD 1 0).toNat : Int) &&& BitVec.ofInt 8 127).toNat)) * 128))).toNat))), (31, .v (.slice A s.length c))] hW hE44 fun a45 hE46 => ?_
  clear hE44
  refine of_op (wpOp_index hE46 (t := 22) (A := A) (m := s.length) (q := 1) (d := 32) (by kernel_rfl) (e := 5) (size := 1) (bytes := 1) (j := 1) (by kernel_rfl) hA36 rfl (by first | omega | (simp only [List.length_append, be_length, List.length_cons, List.length_nil] at *; omega)) fun a47 hE48 => ?_)
  clear hE46
  refine of_op (wpOp_load hE48 (t := 5) (b := b34) (o := o35 + 1 * 1) (d := 33) (by kernel_rfl) (cs := [.int .u8 ((s.getD 1 0).toNat : Int)]) (v := .int .u8 ((s.getD 1 0).toNat : Int)) (by kernel_rfl) (AtF.move hat38 hW.step nilM keepF).at_ fun a49 hE50 => ?_)
  clear hE48
  refine go_rn [3, 4] [] [(0, .v (.slice A s.length c)), (4, .v (.int .u32 (IntKind.u32.wrap (BitVec.ofInt 32 (IntKind.u32.wrap (IntKind.u8.wrap (BitVec.ofInt 8 ((s.getD 0 0).toNat : Int) &&& BitVec.ofInt 8 127).toNat)) ||| BitVec.ofInt 32 (IntKind.u32.wrap ((IntKind.u32.wrap (IntKind.u8.wrap (BitVec.ofInt 8 ((s.getD 1 0).toNat : Int) &&& BitVec.ofInt 8 127).toNat)) * 128))).toNat))), (35, .v (.bool ((IntKind.u8.wrap (BitVec.ofInt 8 ((s.getD 1 0).toNat : Int) &&& BitVec.ofInt 8 128).toNat) == 0)))] hW hE50 fun a51 hE52 => ?_
  clear hE50
  refine wpOps_nil ?_
  refine then_normal ?_
  refine cond_false hE52 (b := (IntKind.u8.wrap (BitVec.ofInt 8 ((s.getD 1 0).toNat : Int) &&& BitVec.ofInt 8 128).toNat) == 0) (by kernel_rfl) ((and128 _ (oc_lt s 1)).trans (decide_eq_false (by have := h1; unfold oc at this; omega))) ?_
  refine go_sp [(0, .v (.slice A s.length c)), (4, .v (.int .u32 (IntKind.u32.wrap (BitVec.ofInt 32 (IntKind.u32.wrap (IntKind.u8.wrap (BitVec.ofInt 8 ((s.getD 0 0).toNat : Int) &&& BitVec.ofInt 8 127).toNat)) ||| BitVec.ofInt 32 (IntKind.u32.wrap ((IntKind.u32.wrap (IntKind.u8.wrap (BitVec.ofInt 8 ((s.getD 1 0).toNat : Int) &&& BitVec.ofInt 8 127).toNat)) * 128))).toNat))), (39, .v (.bool (decide (((s.length : Nat) : Int) < 3))))] hW hE52 fun a53 hE54 => ?_
  clear hE52
  refine cond_false hE54 (b := decide (((s.length : Nat) : Int) < 3)) (by kernel_rfl) (decide_eq_false (by omega)) ?_
  refine wp_skip ?_
  refine then_normal ?_
  refine go_seq_region [0, 1, 2, 3, 4, 5, 6, 7, 8] (by kernel_rfl) ?_
  refine go_rn [0, 1] [2, 3, 4, 5, 6, 7, 8] [(0, .v (.slice A s.length c)), (40, .v (.int .u32 (IntKind.u32.wrap (BitVec.ofInt 32 (IntKind.u32.wrap (IntKind.u8.wrap (BitVec.ofInt 8 ((s.getD 0 0).toNat : Int) &&& BitVec.ofInt 8 127).toNat)) ||| BitVec.ofInt 32 (IntKind.u32.wrap ((IntKind.u32.wrap (IntKind.u8.wrap (BitVec.ofInt 8 ((s.getD 1 0).toNat : Int) &&& BitVec.ofInt 8 127).toNat)) * 128))).toNat))), (41, .v (.slice A s.length c))] hW hE54 fun a55 hE56 => ?_
  clear hE54
  obtain ⟨b57, o58, hA59, hl60, hat61⟩ := Slots.get ho (i := 2) (by first | omega | (simp only [List.length_append, be_length, List.length_cons, List.length_nil] at *; omega))
  refine of_op (wpOp_index hE56 (t := 22) (A := A) (m := s.length) (q := 2) (d := 42) (by kernel_rfl) (e := 5) (size := 1) (bytes := 1) (j := 2) (by kernel_rfl) hA59 rfl (by first | omega | (simp only [List.length_append, be_length, List.length_cons, List.length_nil] at *; omega)) fun a62 hE63 => ?_)
  clear hE56
  refine of_op (wpOp_load hE63 (t := 5) (b := b57) (o := o58 + 2 * 1) (d := 43) (by kernel_rfl) (cs := [.int .u8 ((s.getD 2 0).toNat : Int)]) (v := .int .u8 ((s.getD 2 0).toNat : Int)) (by kernel_rfl) (AtF.move hat61 hW.step nilM keepF).at_ fun a64 hE65 => ?_)
  clear hE63
  refine go_rn [4, 5, 6, 7, 8] [] [(0, .v (.slice A s.length c)), (4, .v (.int .u32 (IntKind.u32.wrap (BitVec.ofInt 32 (IntKind.u32.wrap (BitVec.ofInt 32 (IntKind.u32.wrap (IntKind.u8.wrap (BitVec.ofInt 8 ((s.getD 0 0).toNat : Int) &&& BitVec.ofInt 8 127).toNat)) ||| BitVec.ofInt 32 (IntKind.u32.wrap ((IntKind.u32.wrap (IntKind.u8.wrap (BitVec.ofInt 8 ((s.getD 1 0).toNat : Int) &&& BitVec.ofInt 8 127).toNat)) * 128))).toNat) ||| BitVec.ofInt 32 (IntKind.u32.wrap ((IntKind.u32.wrap (IntKind.u8.wrap (BitVec.ofInt 8 ((s.getD 2 0).toNat : Int) &&& BitVec.ofInt 8 127).toNat)) * 16384))).toNat)))] hW hE65 fun a66 hE67 => ?_
  clear hE65
  refine wpOps_nil ?_
  refine then_normal ?_
  refine wp_seq ?_
  refine go_seq_region [0, 1, 2, 3, 4] (by kernel_rfl) ?_
  refine go_rn [0] [1, 2, 3, 4] [(0, .v (.slice A s.length c)), (4, .v (.int .u32 (IntKind.u32.wrap (BitVec.ofInt 32 (IntKind.u32.wrap (BitVec.ofInt 32 (IntKind.u32.wrap (IntKind.u8.wrap (BitVec.ofInt 8 ((s.getD 0 0).toNat : Int) &&& BitVec.ofInt 8 127).toNat)) ||| BitVec.ofInt 32 (IntKind.u32.wrap ((IntKind.u32.wrap (IntKind.u8.wrap (BitVec.ofInt 8 ((s.getD 1 0).toNat : Int) &&& BitVec.ofInt 8 127).toNat)) * 128))).toNat) ||| BitVec.ofInt 32 (IntKind.u32.wrap ((IntKind.u32.wrap (IntKind.u8.wrap (BitVec.ofInt 8 ((s.getD 2 0).toNat : Int) &&& BitVec.ofInt 8 127).toNat)) * 16384))).toNat))), (48, .v (.slice A s.length c))] hW hE67 fun a68 hE69 => ?_
  clear hE67
  refine of_op (wpOp_index hE69 (t := 22) (A := A) (m := s.length) (q := 2) (d := 49) (by kernel_rfl) (e := 5) (size := 1) (bytes := 1) (j := 2) (by kernel_rfl) hA59 rfl (by first | omega | (simp only [List.length_append, be_length, List.length_cons, List.length_nil] at *; omega)) fun a70 hE71 => ?_)
  clear hE69
  refine of_op (wpOp_load hE71 (t := 5) (b := b57) (o := o58 + 2 * 1) (d := 50) (by kernel_rfl) (cs := [.int .u8 ((s.getD 2 0).toNat : Int)]) (v := .int .u8 ((s.getD 2 0).toNat : Int)) (by kernel_rfl) (AtF.move hat61 hW.step nilM keepF).at_ fun a72 hE73 => ?_)
  clear hE71
  refine go_rn [3, 4] [] [(0, .v (.slice A s.length c)), (4, .v (.int .u32 (IntKind.u32.wrap (BitVec.ofInt 32 (IntKind.u32.wrap (BitVec.ofInt 32 (IntKind.u32.wrap (IntKind.u8.wrap (BitVec.ofInt 8 ((s.getD 0 0).toNat : Int) &&& BitVec.ofInt 8 127).toNat)) ||| BitVec.ofInt 32 (IntKind.u32.wrap ((IntKind.u32.wrap (IntKind.u8.wrap (BitVec.ofInt 8 ((s.getD 1 0).toNat : Int) &&& BitVec.ofInt 8 127).toNat)) * 128))).toNat) ||| BitVec.ofInt 32 (IntKind.u32.wrap ((IntKind.u32.wrap (IntKind.u8.wrap (BitVec.ofInt 8 ((s.getD 2 0).toNat : Int) &&& BitVec.ofInt 8 127).toNat)) * 16384))).toNat))), (52, .v (.bool ((IntKind.u8.wrap (BitVec.ofInt 8 ((s.getD 2 0).toNat : Int) &&& BitVec.ofInt 8 128).toNat) == 0)))] hW hE73 fun a74 hE75 => ?_
  clear hE73
  refine wpOps_nil ?_
  refine then_normal ?_
  refine cond_false hE75 (b := (IntKind.u8.wrap (BitVec.ofInt 8 ((s.getD 2 0).toNat : Int) &&& BitVec.ofInt 8 128).toNat) == 0) (by kernel_rfl) ((and128 _ (oc_lt s 2)).trans (decide_eq_false (by have := h2; unfold oc at this; omega))) ?_
  refine go_sp [(0, .v (.slice A s.length c)), (4, .v (.int .u32 (IntKind.u32.wrap (BitVec.ofInt 32 (IntKind.u32.wrap (BitVec.ofInt 32 (IntKind.u32.wrap (IntKind.u8.wrap (BitVec.ofInt 8 ((s.getD 0 0).toNat : Int) &&& BitVec.ofInt 8 127).toNat)) ||| BitVec.ofInt 32 (IntKind.u32.wrap ((IntKind.u32.wrap (IntKind.u8.wrap (BitVec.ofInt 8 ((s.getD 1 0).toNat : Int) &&& BitVec.ofInt 8 127).toNat)) * 128))).toNat) ||| BitVec.ofInt 32 (IntKind.u32.wrap ((IntKind.u32.wrap (IntKind.u8.wrap (BitVec.ofInt 8 ((s.getD 2 0).toNat : Int) &&& BitVec.ofInt 8 127).toNat)) * 16384))).toNat))), (56, .v (.bool (decide (((s.length : Nat) : Int) < 4))))] hW hE75 fun a76 hE77 => ?_
  clear hE75
  refine cond_false hE77 (b := decide (((s.length : Nat) : Int) < 4)) (by kernel_rfl) (decide_eq_false (by omega)) ?_
  refine wp_skip ?_
  refine then_normal ?_
  refine go_seq_region [0, 1, 2, 3, 4, 5, 6, 7, 8] (by kernel_rfl) ?_
  refine go_rn [0, 1] [2, 3, 4, 5, 6, 7, 8] [(0, .v (.slice A s.length c)), (57, .v (.int .u32 (IntKind.u32.wrap (BitVec.ofInt 32 (IntKind.u32.wrap (BitVec.ofInt 32 (IntKind.u32.wrap (IntKind.u8.wrap (BitVec.ofInt 8 ((s.getD 0 0).toNat : Int) &&& BitVec.ofInt 8 127).toNat)) ||| BitVec.ofInt 32 (IntKind.u32.wrap ((IntKind.u32.wrap (IntKind.u8.wrap (BitVec.ofInt 8 ((s.getD 1 0).toNat : Int) &&& BitVec.ofInt 8 127).toNat)) * 128))).toNat) ||| BitVec.ofInt 32 (IntKind.u32.wrap ((IntKind.u32.wrap (IntKind.u8.wrap (BitVec.ofInt 8 ((s.getD 2 0).toNat : Int) &&& BitVec.ofInt 8 127).toNat)) * 16384))).toNat))), (58, .v (.slice A s.length c))] hW hE77 fun a78 hE79 => ?_
  clear hE77
  obtain ⟨b80, o81, hA82, hl83, hat84⟩ := Slots.get ho (i := 3) (by first | omega | (simp only [List.length_append, be_length, List.length_cons, List.length_nil] at *; omega))
  refine of_op (wpOp_index hE79 (t := 22) (A := A) (m := s.length) (q := 3) (d := 59) (by kernel_rfl) (e := 5) (size := 1) (bytes := 1) (j := 3) (by kernel_rfl) hA82 rfl (by first | omega | (simp only [List.length_append, be_length, List.length_cons, List.length_nil] at *; omega)) fun a85 hE86 => ?_)
  clear hE79
  refine of_op (wpOp_load hE86 (t := 5) (b := b80) (o := o81 + 3 * 1) (d := 60) (by kernel_rfl) (cs := [.int .u8 ((s.getD 3 0).toNat : Int)]) (v := .int .u8 ((s.getD 3 0).toNat : Int)) (by kernel_rfl) (AtF.move hat84 hW.step nilM keepF).at_ fun a87 hE88 => ?_)
  clear hE86
  refine go_rn [4, 5, 6, 7, 8] [] [(0, .v (.slice A s.length c)), (4, .v (.int .u32 (IntKind.u32.wrap (BitVec.ofInt 32 (IntKind.u32.wrap (BitVec.ofInt 32 (IntKind.u32.wrap (BitVec.ofInt 32 (IntKind.u32.wrap (IntKind.u8.wrap (BitVec.ofInt 8 ((s.getD 0 0).toNat : Int) &&& BitVec.ofInt 8 127).toNat)) ||| BitVec.ofInt 32 (IntKind.u32.wrap ((IntKind.u32.wrap (IntKind.u8.wrap (BitVec.ofInt 8 ((s.getD 1 0).toNat : Int) &&& BitVec.ofInt 8 127).toNat)) * 128))).toNat) ||| BitVec.ofInt 32 (IntKind.u32.wrap ((IntKind.u32.wrap (IntKind.u8.wrap (BitVec.ofInt 8 ((s.getD 2 0).toNat : Int) &&& BitVec.ofInt 8 127).toNat)) * 16384))).toNat) ||| BitVec.ofInt 32 (IntKind.u32.wrap ((IntKind.u32.wrap (IntKind.u8.wrap (BitVec.ofInt 8 ((s.getD 3 0).toNat : Int) &&& BitVec.ofInt 8 127).toNat)) * 2097152))).toNat)))] hW hE88 fun a89 hE90 => ?_
  clear hE88
  refine wpOps_nil ?_
  refine then_normal ?_
  refine wp_seq ?_
  refine go_seq_region [0, 1, 2, 3, 4] (by kernel_rfl) ?_
  refine go_rn [0] [1, 2, 3, 4] [(0, .v (.slice A s.length c)), (4, .v (.int .u32 (IntKind.u32.wrap (BitVec.ofInt 32 (IntKind.u32.wrap (BitVec.ofInt 32 (IntKind.u32.wrap (BitVec.ofInt 32 (IntKind.u32.wrap (IntKind.u8.wrap (BitVec.ofInt 8 ((s.getD 0 0).toNat : Int) &&& BitVec.ofInt 8 127).toNat)) ||| BitVec.ofInt 32 (IntKind.u32.wrap ((IntKind.u32.wrap (IntKind.u8.wrap (BitVec.ofInt 8 ((s.getD 1 0).toNat : Int) &&& BitVec.ofInt 8 127).toNat)) * 128))).toNat) ||| BitVec.ofInt 32 (IntKind.u32.wrap ((IntKind.u32.wrap (IntKind.u8.wrap (BitVec.ofInt 8 ((s.getD 2 0).toNat : Int) &&& BitVec.ofInt 8 127).toNat)) * 16384))).toNat) ||| BitVec.ofInt 32 (IntKind.u32.wrap ((IntKind.u32.wrap (IntKind.u8.wrap (BitVec.ofInt 8 ((s.getD 3 0).toNat : Int) &&& BitVec.ofInt 8 127).toNat)) * 2097152))).toNat))), (65, .v (.slice A s.length c))] hW hE90 fun a91 hE92 => ?_
  clear hE90
  refine of_op (wpOp_index hE92 (t := 22) (A := A) (m := s.length) (q := 3) (d := 66) (by kernel_rfl) (e := 5) (size := 1) (bytes := 1) (j := 3) (by kernel_rfl) hA82 rfl (by first | omega | (simp only [List.length_append, be_length, List.length_cons, List.length_nil] at *; omega)) fun a93 hE94 => ?_)
  clear hE92
  refine of_op (wpOp_load hE94 (t := 5) (b := b80) (o := o81 + 3 * 1) (d := 67) (by kernel_rfl) (cs := [.int .u8 ((s.getD 3 0).toNat : Int)]) (v := .int .u8 ((s.getD 3 0).toNat : Int)) (by kernel_rfl) (AtF.move hat84 hW.step nilM keepF).at_ fun a95 hE96 => ?_)
  clear hE94
  refine go_rn [3, 4] [] [(0, .v (.slice A s.length c)), (4, .v (.int .u32 (IntKind.u32.wrap (BitVec.ofInt 32 (IntKind.u32.wrap (BitVec.ofInt 32 (IntKind.u32.wrap (BitVec.ofInt 32 (IntKind.u32.wrap (IntKind.u8.wrap (BitVec.ofInt 8 ((s.getD 0 0).toNat : Int) &&& BitVec.ofInt 8 127).toNat)) ||| BitVec.ofInt 32 (IntKind.u32.wrap ((IntKind.u32.wrap (IntKind.u8.wrap (BitVec.ofInt 8 ((s.getD 1 0).toNat : Int) &&& BitVec.ofInt 8 127).toNat)) * 128))).toNat) ||| BitVec.ofInt 32 (IntKind.u32.wrap ((IntKind.u32.wrap (IntKind.u8.wrap (BitVec.ofInt 8 ((s.getD 2 0).toNat : Int) &&& BitVec.ofInt 8 127).toNat)) * 16384))).toNat) ||| BitVec.ofInt 32 (IntKind.u32.wrap ((IntKind.u32.wrap (IntKind.u8.wrap (BitVec.ofInt 8 ((s.getD 3 0).toNat : Int) &&& BitVec.ofInt 8 127).toNat)) * 2097152))).toNat))), (69, .v (.bool ((IntKind.u8.wrap (BitVec.ofInt 8 ((s.getD 3 0).toNat : Int) &&& BitVec.ofInt 8 128).toNat) == 0)))] hW hE96 fun a97 hE98 => ?_
  clear hE96
  refine wpOps_nil ?_
  refine then_normal ?_
  refine cond_false hE98 (b := (IntKind.u8.wrap (BitVec.ofInt 8 ((s.getD 3 0).toNat : Int) &&& BitVec.ofInt 8 128).toNat) == 0) (by kernel_rfl) ((and128 _ (oc_lt s 3)).trans (decide_eq_false (by have := h3; unfold oc at this; omega))) ?_
  refine go_sp [(0, .v (.slice A s.length c)), (4, .v (.int .u32 (IntKind.u32.wrap (BitVec.ofInt 32 (IntKind.u32.wrap (BitVec.ofInt 32 (IntKind.u32.wrap (BitVec.ofInt 32 (IntKind.u32.wrap (IntKind.u8.wrap (BitVec.ofInt 8 ((s.getD 0 0).toNat : Int) &&& BitVec.ofInt 8 127).toNat)) ||| BitVec.ofInt 32 (IntKind.u32.wrap ((IntKind.u32.wrap (IntKind.u8.wrap (BitVec.ofInt 8 ((s.getD 1 0).toNat : Int) &&& BitVec.ofInt 8 127).toNat)) * 128))).toNat) ||| BitVec.ofInt 32 (IntKind.u32.wrap ((IntKind.u32.wrap (IntKind.u8.wrap (BitVec.ofInt 8 ((s.getD 2 0).toNat : Int) &&& BitVec.ofInt 8 127).toNat)) * 16384))).toNat) ||| BitVec.ofInt 32 (IntKind.u32.wrap ((IntKind.u32.wrap (IntKind.u8.wrap (BitVec.ofInt 8 ((s.getD 3 0).toNat : Int) &&& BitVec.ofInt 8 127).toNat)) * 2097152))).toNat))), (73, .v (.bool (decide (((s.length : Nat) : Int) < 5))))] hW hE98 fun a99 hE100 => ?_
  clear hE98
  refine cond_false hE100 (b := decide (((s.length : Nat) : Int) < 5)) (by kernel_rfl) (decide_eq_false (by omega)) ?_
  refine wp_skip ?_
  refine then_normal ?_
  refine go_seq_region [0, 1, 2, 3, 4, 5, 6, 7] (by kernel_rfl) ?_
  refine go_rn [0, 1] [2, 3, 4, 5, 6, 7] [(0, .v (.slice A s.length c)), (74, .v (.int .u32 (IntKind.u32.wrap (BitVec.ofInt 32 (IntKind.u32.wrap (BitVec.ofInt 32 (IntKind.u32.wrap (BitVec.ofInt 32 (IntKind.u32.wrap (IntKind.u8.wrap (BitVec.ofInt 8 ((s.getD 0 0).toNat : Int) &&& BitVec.ofInt 8 127).toNat)) ||| BitVec.ofInt 32 (IntKind.u32.wrap ((IntKind.u32.wrap (IntKind.u8.wrap (BitVec.ofInt 8 ((s.getD 1 0).toNat : Int) &&& BitVec.ofInt 8 127).toNat)) * 128))).toNat) ||| BitVec.ofInt 32 (IntKind.u32.wrap ((IntKind.u32.wrap (IntKind.u8.wrap (BitVec.ofInt 8 ((s.getD 2 0).toNat : Int) &&& BitVec.ofInt 8 127).toNat)) * 16384))).toNat) ||| BitVec.ofInt 32 (IntKind.u32.wrap ((IntKind.u32.wrap (IntKind.u8.wrap (BitVec.ofInt 8 ((s.getD 3 0).toNat : Int) &&& BitVec.ofInt 8 127).toNat)) * 2097152))).toNat))), (75, .v (.slice A s.length c))] hW hE100 fun a101 hE102 => ?_
  clear hE100
  obtain ⟨b103, o104, hA105, hl106, hat107⟩ := Slots.get ho (i := 4) (by first | omega | (simp only [List.length_append, be_length, List.length_cons, List.length_nil] at *; omega))
  refine of_op (wpOp_index hE102 (t := 22) (A := A) (m := s.length) (q := 4) (d := 76) (by kernel_rfl) (e := 5) (size := 1) (bytes := 1) (j := 4) (by kernel_rfl) hA105 rfl (by first | omega | (simp only [List.length_append, be_length, List.length_cons, List.length_nil] at *; omega)) fun a108 hE109 => ?_)
  clear hE102
  refine of_op (wpOp_load hE109 (t := 5) (b := b103) (o := o104 + 4 * 1) (d := 77) (by kernel_rfl) (cs := [.int .u8 ((s.getD 4 0).toNat : Int)]) (v := .int .u8 ((s.getD 4 0).toNat : Int)) (by kernel_rfl) (AtF.move hat107 hW.step nilM keepF).at_ fun a110 hE111 => ?_)
  clear hE109
  refine go_rn [4, 5, 6, 7] [] [(0, .v (.slice A s.length c)), (4, .v (.int .u32 (IntKind.u32.wrap (BitVec.ofInt 32 (IntKind.u32.wrap (BitVec.ofInt 32 (IntKind.u32.wrap (BitVec.ofInt 32 (IntKind.u32.wrap (BitVec.ofInt 32 (IntKind.u32.wrap (IntKind.u8.wrap (BitVec.ofInt 8 ((s.getD 0 0).toNat : Int) &&& BitVec.ofInt 8 127).toNat)) ||| BitVec.ofInt 32 (IntKind.u32.wrap ((IntKind.u32.wrap (IntKind.u8.wrap (BitVec.ofInt 8 ((s.getD 1 0).toNat : Int) &&& BitVec.ofInt 8 127).toNat)) * 128))).toNat) ||| BitVec.ofInt 32 (IntKind.u32.wrap ((IntKind.u32.wrap (IntKind.u8.wrap (BitVec.ofInt 8 ((s.getD 2 0).toNat : Int) &&& BitVec.ofInt 8 127).toNat)) * 16384))).toNat) ||| BitVec.ofInt 32 (IntKind.u32.wrap ((IntKind.u32.wrap (IntKind.u8.wrap (BitVec.ofInt 8 ((s.getD 3 0).toNat : Int) &&& BitVec.ofInt 8 127).toNat)) * 2097152))).toNat) ||| BitVec.ofInt 32 (IntKind.u32.wrap ((IntKind.u32.wrap ((s.getD 4 0).toNat : Int)) * 268435456))).toNat)))] hW hE111 fun a112 hE113 => ?_
  clear hE111
  refine wpOps_nil ?_
  refine then_normal ?_
  refine wp_seq ?_
  refine go_seq_region [0, 1, 2, 3] (by kernel_rfl) ?_
  refine go_rn [0] [1, 2, 3] [(4, .v (.int .u32 (IntKind.u32.wrap (BitVec.ofInt 32 (IntKind.u32.wrap (BitVec.ofInt 32 (IntKind.u32.wrap (BitVec.ofInt 32 (IntKind.u32.wrap (BitVec.ofInt 32 (IntKind.u32.wrap (IntKind.u8.wrap (BitVec.ofInt 8 ((s.getD 0 0).toNat : Int) &&& BitVec.ofInt 8 127).toNat)) ||| BitVec.ofInt 32 (IntKind.u32.wrap ((IntKind.u32.wrap (IntKind.u8.wrap (BitVec.ofInt 8 ((s.getD 1 0).toNat : Int) &&& BitVec.ofInt 8 127).toNat)) * 128))).toNat) ||| BitVec.ofInt 32 (IntKind.u32.wrap ((IntKind.u32.wrap (IntKind.u8.wrap (BitVec.ofInt 8 ((s.getD 2 0).toNat : Int) &&& BitVec.ofInt 8 127).toNat)) * 16384))).toNat) ||| BitVec.ofInt 32 (IntKind.u32.wrap ((IntKind.u32.wrap (IntKind.u8.wrap (BitVec.ofInt 8 ((s.getD 3 0).toNat : Int) &&& BitVec.ofInt 8 127).toNat)) * 2097152))).toNat) ||| BitVec.ofInt 32 (IntKind.u32.wrap ((IntKind.u32.wrap ((s.getD 4 0).toNat : Int)) * 268435456))).toNat))), (81, .v (.slice A s.length c))] hW hE113 fun a114 hE115 => ?_
  clear hE113
  refine of_op (wpOp_index hE115 (t := 22) (A := A) (m := s.length) (q := 4) (d := 82) (by kernel_rfl) (e := 5) (size := 1) (bytes := 1) (j := 4) (by kernel_rfl) hA105 rfl (by first | omega | (simp only [List.length_append, be_length, List.length_cons, List.length_nil] at *; omega)) fun a116 hE117 => ?_)
  clear hE115
  refine of_op (wpOp_load hE117 (t := 5) (b := b103) (o := o104 + 4 * 1) (d := 83) (by kernel_rfl) (cs := [.int .u8 ((s.getD 4 0).toNat : Int)]) (v := .int .u8 ((s.getD 4 0).toNat : Int)) (by kernel_rfl) (AtF.move hat107 hW.step nilM keepF).at_ fun a118 hE119 => ?_)
  clear hE117
  refine go_rn [3] [] [(4, .v (.int .u32 (IntKind.u32.wrap (BitVec.ofInt 32 (IntKind.u32.wrap (BitVec.ofInt 32 (IntKind.u32.wrap (BitVec.ofInt 32 (IntKind.u32.wrap (BitVec.ofInt 32 (IntKind.u32.wrap (IntKind.u8.wrap (BitVec.ofInt 8 ((s.getD 0 0).toNat : Int) &&& BitVec.ofInt 8 127).toNat)) ||| BitVec.ofInt 32 (IntKind.u32.wrap ((IntKind.u32.wrap (IntKind.u8.wrap (BitVec.ofInt 8 ((s.getD 1 0).toNat : Int) &&& BitVec.ofInt 8 127).toNat)) * 128))).toNat) ||| BitVec.ofInt 32 (IntKind.u32.wrap ((IntKind.u32.wrap (IntKind.u8.wrap (BitVec.ofInt 8 ((s.getD 2 0).toNat : Int) &&& BitVec.ofInt 8 127).toNat)) * 16384))).toNat) ||| BitVec.ofInt 32 (IntKind.u32.wrap ((IntKind.u32.wrap (IntKind.u8.wrap (BitVec.ofInt 8 ((s.getD 3 0).toNat : Int) &&& BitVec.ofInt 8 127).toNat)) * 2097152))).toNat) ||| BitVec.ofInt 32 (IntKind.u32.wrap ((IntKind.u32.wrap ((s.getD 4 0).toNat : Int)) * 268435456))).toNat))), (84, .v (.bool (decide (((s.getD 4 0).toNat : Int) ≤ 15))))] hW hE119 fun a120 hE121 => ?_
  clear hE119
  refine wpOps_nil ?_
  refine then_normal ?_
  refine cond_true hE121 (b := decide (((s.getD 4 0).toNat : Int) ≤ 15)) (by kernel_rfl) (decide_eq_true (by have := h4; unfold oc at this; omega)) ?_
  refine go_sp [(2, .v (.int .u32 (IntKind.u32.wrap (BitVec.ofInt 32 (IntKind.u32.wrap (BitVec.ofInt 32 (IntKind.u32.wrap (BitVec.ofInt 32 (IntKind.u32.wrap (BitVec.ofInt 32 (IntKind.u32.wrap (IntKind.u8.wrap (BitVec.ofInt 8 ((s.getD 0 0).toNat : Int) &&& BitVec.ofInt 8 127).toNat)) ||| BitVec.ofInt 32 (IntKind.u32.wrap ((IntKind.u32.wrap (IntKind.u8.wrap (BitVec.ofInt 8 ((s.getD 1 0).toNat : Int) &&& BitVec.ofInt 8 127).toNat)) * 128))).toNat) ||| BitVec.ofInt 32 (IntKind.u32.wrap ((IntKind.u32.wrap (IntKind.u8.wrap (BitVec.ofInt 8 ((s.getD 2 0).toNat : Int) &&& BitVec.ofInt 8 127).toNat)) * 16384))).toNat) ||| BitVec.ofInt 32 (IntKind.u32.wrap ((IntKind.u32.wrap (IntKind.u8.wrap (BitVec.ofInt 8 ((s.getD 3 0).toNat : Int) &&& BitVec.ofInt 8 127).toNat)) * 2097152))).toNat) ||| BitVec.ofInt 32 (IntKind.u32.wrap ((IntKind.u32.wrap ((s.getD 4 0).toNat : Int)) * 268435456))).toNat))), (3, .v (.int .i64 5))] hW hE121 fun a122 hE123 => ?_
  clear hE121
  refine wp_ret ?_
  refine then_ret ?_
  refine scope_ret ?_
  refine leave hE123 hW.cells (v := .tuple #[.int .u32 (IntKind.u32.wrap (BitVec.ofInt 32 (IntKind.u32.wrap (BitVec.ofInt 32 (IntKind.u32.wrap (BitVec.ofInt 32 (IntKind.u32.wrap (BitVec.ofInt 32 (IntKind.u32.wrap (IntKind.u8.wrap (BitVec.ofInt 8 ((s.getD 0 0).toNat : Int) &&& BitVec.ofInt 8 127).toNat)) ||| BitVec.ofInt 32 (IntKind.u32.wrap ((IntKind.u32.wrap (IntKind.u8.wrap (BitVec.ofInt 8 ((s.getD 1 0).toNat : Int) &&& BitVec.ofInt 8 127).toNat)) * 128))).toNat) ||| BitVec.ofInt 32 (IntKind.u32.wrap ((IntKind.u32.wrap (IntKind.u8.wrap (BitVec.ofInt 8 ((s.getD 2 0).toNat : Int) &&& BitVec.ofInt 8 127).toNat)) * 16384))).toNat) ||| BitVec.ofInt 32 (IntKind.u32.wrap ((IntKind.u32.wrap (IntKind.u8.wrap (BitVec.ofInt 8 ((s.getD 3 0).toNat : Int) &&& BitVec.ofInt 8 127).toNat)) * 2097152))).toNat) ||| BitVec.ofInt 32 (IntKind.u32.wrap ((IntKind.u32.wrap ((s.getD 4 0).toNat : Int)) * 268435456))).toNat), .int .i64 5]) (by kernel_rfl) ?_
  have e_ := uv_5 (oc s 0) (oc s 1) (oc s 2) (oc s 3) (oc s 4) (oc_lt s 0) (oc_lt s 1) (oc_lt s 2) (oc_lt s 3) (by omega)
  refine ⟨congrArg (fun z_ : Int => Ending.returned (.tuple #[.int .u32 z_, .int .i64 5])) (Eq.trans e_ ?_), hW.step⟩
  omega

theorem rUv (x : Nat) (hx : x < 4294967296) (rest : Bs) {A : Option Addr} {c : Nat} {w : World} {F : Nat → Nat → Prop} (ho : Octs w F A c (uv x ++ rest)) :
    Calls Tryd.prog 128 #[.slice A (uv x ++ rest).length c] w (Gives w (.tuple #[.int .u32 ((x : Nat) : Int), .int .i64 (((uv x).length : Nat) : Int)])) := by
  have hl := uv_len_of hx
  have hL : (uv x ++ rest).length = (uv x).length + rest.length := List.length_append
  by_cases h1 : x < 128
  · rw [if_pos h1] at hl
    have h := rUv1 (uv x ++ rest) ho (by omega) x (by rw [uv_oc, if_pos h1]) h1
    rw [hl]; simpa using h
  rw [if_neg h1] at hl
  have o0 : oc (uv x ++ rest) 0 = x % 128 + 128 := by rw [uv_oc, if_neg h1]
  have o1 : oc (uv x ++ rest) 1 = oc (uv (x / 128) ++ rest) 0 := uv_oc1 (by omega) rest 0
  by_cases h2 : x < 16384
  · rw [if_pos h2] at hl
    rw [uv_oc, if_pos (by omega)] at o1
    have h := rUv2 (uv x ++ rest) ho (by omega) (x % 128) (x / 128) o0 o1 (by omega) (by omega)
    rw [show x % 128 + x / 128 * 128 = x by omega] at h
    rw [hl]; exact h
  rw [if_neg h2] at hl
  have o2 : oc (uv x ++ rest) 2 = oc (uv (x / 128 / 128) ++ rest) 0 := (uv_oc1 (by omega) rest 1).trans (uv_oc1 (by omega) rest 0)
  rw [uv_oc, if_neg (by omega)] at o1
  by_cases h3 : x < 2097152
  · rw [if_pos h3] at hl
    rw [uv_oc, if_pos (by omega)] at o2
    have h := rUv3 (uv x ++ rest) ho (by omega) (x % 128) (x / 128 % 128) (x / 128 / 128) o0 o1 o2 (by omega) (by omega) (by omega)
    rw [show x % 128 + x / 128 % 128 * 128 + x / 128 / 128 * 16384 = x by omega] at h
    rw [hl]; exact h
  rw [if_neg h3] at hl
  have o3 : oc (uv x ++ rest) 3 = oc (uv (x / 128 / 128 / 128) ++ rest) 0 := (uv_oc1 (by omega) rest 2).trans ((uv_oc1 (by omega) rest 1).trans (uv_oc1 (by omega) rest 0))
  rw [uv_oc, if_neg (by omega)] at o2
  by_cases h4 : x < 268435456
  · rw [if_pos h4] at hl
    rw [uv_oc, if_pos (by omega)] at o3
    have h := rUv4 (uv x ++ rest) ho (by omega) (x % 128) (x / 128 % 128) (x / 128 / 128 % 128) (x / 128 / 128 / 128) o0 o1 o2 o3 (by omega) (by omega) (by omega) (by omega)
    rw [show x % 128 + x / 128 % 128 * 128 + x / 128 / 128 % 128 * 16384 + x / 128 / 128 / 128 * 2097152 = x by omega] at h
    rw [hl]; exact h
  rw [if_neg h4] at hl
  have o4 : oc (uv x ++ rest) 4 = oc (uv (x / 128 / 128 / 128 / 128) ++ rest) 0 := (uv_oc1 (by omega) rest 3).trans ((uv_oc1 (by omega) rest 2).trans ((uv_oc1 (by omega) rest 1).trans (uv_oc1 (by omega) rest 0)))
  rw [uv_oc, if_neg (by omega)] at o3
  rw [uv_oc, if_pos (by omega)] at o4
  have h := rUv5 (uv x ++ rest) ho (by omega) (x % 128) (x / 128 % 128) (x / 128 / 128 % 128) (x / 128 / 128 / 128 % 128) (x / 128 / 128 / 128 / 128) o0 o1 o2 o3 o4 (by omega) (by omega) (by omega) (by omega) (by omega)
  rw [show x % 128 + x / 128 % 128 * 128 + x / 128 / 128 % 128 * 16384 + x / 128 / 128 / 128 % 128 * 2097152 + x / 128 / 128 / 128 / 128 * 268435456 = x by omega] at h
  rw [hl]; exact h

theorem rUvarint (x : Nat) (hx : x < 4294967296) (rest : Bs)  {br : Nat} {A : Option Addr} {m c : Nat} {w : World} {F : Nat → Nat → Prop} (hst : Str w br [.slice A m c, .bool false]) (hr : RdS w F A m c (uv x ++ rest)) (hFd : ∀ b o, F b o → ¬ RdM br b o) :
    Calls Tryd.prog 118 #[.pointer (some ⟨br, 0, none⟩)] w (RdPost w br F rest fun v w' => v = .int .u32 ((x : Nat) : Int)) := by
  obtain ⟨hm, ho⟩ := hr
  subst hm
  have hle := ho.le
  have hpos := uv_len_pos x
  refine enter (n := 31) Tryd.func118 rfl Tryd.ntmps118 (by kernel_rfl) fun a hE => ?_
  have hW : WOk w (RdM br) w [⟨br, 0, [.slice A ((uv x ++ rest).length) c, .bool false], true⟩] [] := WOk.startStr hst
  have hE1 := (hE.grow ⟨br, 0, [.slice A ((uv x ++ rest).length) c, .bool false], true⟩).recast 0 (.v (.pointer (some ⟨br, 0, none⟩))) (.p 0 0) rfl rfl (Nat.le_of_ble_eq_true (n := 1) rfl)
  refine go_sp [(0, .p 0 0)] hW hE1 fun a1 hE2 => ?_
  clear hE1
  refine go_seq_region [0, 1, 2, 3, 4, 5, 6, 7, 8, 9] (by kernel_rfl) ?_
  refine go_rn [0, 1, 2, 3] [4, 5, 6, 7, 8, 9] [(0, .p 0 0), (9, .v (.slice A ((uv x ++ rest).length) c))] hW hE2 fun a3 hE4 => ?_
  clear hE2
  refine of_op (wpOp_call hE4 (f := 128) (vs := [.slice A ((uv x ++ rest).length) c]) (d := 10) (by kernel_rfl) Tryd.call128 (rUv x hx rest (ho.move hW.step (fun b_ o_ h_ _ => hFd b_ o_ h_) (hW.immM hFd))) ?_)
  rintro e_ w6 ⟨rfl, hs5⟩
  refine ⟨_, rfl, fun a7 hE8 => ?_⟩
  have hW9 := hW.next_nil hs5
  have hF10 := hW.frN hs5
  clear hE4 hW
  refine go_rn [5, 6, 7, 8, 9] [] [(0, .p 0 0), (3, .v (.int .u32 ((x : Nat) : Int))), (4, .v (.int .i64 (((uv x).length : Nat) : Int)))] hW9 hE8 fun a11 hE12 => ?_
  clear hE8
  refine wpOps_nil ?_
  refine then_normal ?_
  refine wp_seq ?_
  refine go_sp [(0, .p 0 0), (3, .v (.int .u32 ((x : Nat) : Int))), (4, .v (.int .i64 (((uv x).length : Nat) : Int))), (14, .v (.bool (decide ((((uv x).length : Nat) : Int) ≤ 0))))] hW9 hE12 fun a13 hE14 => ?_
  clear hE12
  refine cond_false hE14 (b := decide ((((uv x).length : Nat) : Int) ≤ 0)) (by kernel_rfl) (decide_eq_false (by omega)) ?_
  refine wp_skip ?_
  refine then_normal ?_
  refine go_seq_region [0, 1, 2, 3, 4, 5, 6, 7, 8, 9] (by kernel_rfl) ?_
  refine go_rn [0, 1, 2, 3, 4, 5] [6, 7, 8, 9] [(3, .v (.int .u32 ((x : Nat) : Int))), (21, .p 0 0), (25, .v (.slice A ((uv x ++ rest).length) c)), (26, .v (.int .i64 (((uv x).length : Nat) : Int)))] hW9 hE14 fun a15 hE16 => ?_
  clear hE14
  refine of_op (wpOp_cut_lo hE16 (t := 22) (A := A) (m := ((uv x ++ rest).length)) (cp := c) (q := (((uv x).length : Nat) : Int)) (d := 27) (j := ((uv x).length)) (by kernel_rfl) (e := 5) (bytes := 1) (by kernel_rfl) (rfl) (by first | omega | (simp only [List.length_append, be_length, List.length_cons, List.length_nil] at *; omega)) fun a17 hE18 => ?_)
  clear hE16
  refine go_rn [7, 8] [9] [(3, .v (.int .u32 ((x : Nat) : Int))), (27, .v (.slice (cutA A c ((uv x).length)) (((uv x ++ rest).length) - ((uv x).length)) (c - ((uv x).length)))), (29, .p 0 0)] hW9 hE18 fun a19 hE20 => ?_
  clear hE18
  refine of_op (wpOp_store hW9 hE20 (oi := 0) (cs := [.slice (cutA A c ((uv x).length)) (((uv x ++ rest).length) - ((uv x).length)) (c - ((uv x).length)), .bool false]) (by kernel_rfl) fun w21 hF22 hW23 hE24 => ?_)
  clear hE20 hW9
  refine wpOps_nil ?_
  refine then_normal ?_
  refine go_sp [(2, .v (.int .u32 ((x : Nat) : Int)))] hW23 hE24 fun a25 hE26 => ?_
  clear hE24
  refine wp_ret ?_
  refine leave hE26 hW23.cells (v := .int .u32 ((x : Nat) : Int)) (by kernel_rfl) ?_
  exact ⟨_, _, _, _, rfl, Str.of hW23 0 rfl, RdS.drop (s := uv x) ⟨rfl, ho.move hW23.step (fun b_ o_ h_ _ => hFd b_ o_ h_) keepF⟩ (rfl), hW23.step, rfl⟩

theorem rSpan (X : Bs) (rest : Bs)  {br : Nat} {A : Option Addr} {m c : Nat} {w : World} {F : Nat → Nat → Prop} (hst : Str w br [.slice A m c, .bool false]) (hr : RdS w F A m c (X ++ rest)) (hFd : ∀ b o, F b o → ¬ RdM br b o) :
    Calls Tryd.prog 115 #[.pointer (some ⟨br, 0, none⟩), .int .i64 ((X.length : Nat) : Int)] w (RdPost w br F rest fun v w' => ∃ A2, v = .slice A2 X.length X.length ∧ Octs w' F A2 X.length X) := by
  obtain ⟨hm, ho⟩ := hr
  subst hm
  have hle := ho.le
  refine enter (n := 40) Tryd.func115 rfl Tryd.ntmps115 (by kernel_rfl) fun a hE => ?_
  have hW : WOk w (RdM br) w [⟨br, 0, [.slice A ((X ++ rest).length) c, .bool false], true⟩] [] := WOk.startStr hst
  have hE1 := (hE.grow ⟨br, 0, [.slice A ((X ++ rest).length) c, .bool false], true⟩).recast 0 (.v (.pointer (some ⟨br, 0, none⟩))) (.p 0 0) rfl rfl (Nat.le_of_ble_eq_true (n := 1) rfl)
  refine go_sp [(0, .p 0 0), (1, .v (.int .i64 ((X.length : Nat) : Int)))] hW hE1 fun a1 hE2 => ?_
  clear hE1
  refine wp_seq ?_
  refine go_seq_region [0, 1, 2, 3, 4, 5, 6, 7, 8, 9, 10] (by kernel_rfl) ?_
  refine go_rn [0, 1, 2, 3, 4, 5, 6, 7] [8, 9, 10] [(0, .p 0 0), (1, .v (.int .i64 ((X.length : Nat) : Int))), (13, .v (.bool (decide ((((X ++ rest).length : Nat) : Int) < ((X.length : Nat) : Int)))))] hW hE2 fun a3 hE4 => ?_
  clear hE2
  have hc5 : (decide ((((X ++ rest).length : Nat) : Int) < ((X.length : Nat) : Int))) = false := decide_eq_false (by first | omega | (simp only [List.length_append, be_length, List.length_cons, List.length_nil] at *; omega))
  have hE6 := hE4.cast (env' := [(0, .p 0 0), (1, .v (.int .i64 ((X.length : Nat) : Int))), (13, .v (.bool false))]) (by rw [hc5])
  clear hE4
  refine go_rn [8, 9, 10] [] [(0, .p 0 0), (1, .v (.int .i64 ((X.length : Nat) : Int))), (16, .v (.bool (decide (((X.length : Nat) : Int) < 0))))] hW hE6 fun a7 hE8 => ?_
  clear hE6
  refine wpOps_nil ?_
  refine then_normal ?_
  refine cond_false hE8 (b := decide (((X.length : Nat) : Int) < 0)) (by kernel_rfl) (decide_eq_false (by first | omega | (simp only [List.length_append, be_length, List.length_cons, List.length_nil] at *; omega))) ?_
  refine wp_skip ?_
  refine then_normal ?_
  refine go_seq_region [0, 1, 2, 3, 4, 5, 6, 7] (by kernel_rfl) ?_
  refine go_rn [0, 1, 2, 3, 4, 5] [6, 7] [(0, .p 0 0), (1, .v (.int .i64 ((X.length : Nat) : Int))), (26, .v (.slice A ((X ++ rest).length) c)), (27, .v (.int .i64 ((X.length : Nat) : Int))), (28, .v (.int .i64 ((X.length : Nat) : Int)))] hW hE8 fun a9 hE10 => ?_
  clear hE8
  refine of_op (wpOp_cutm hE10 (t := 22) (A := A) (m := ((X ++ rest).length)) (cp := c) (k := .i64) (q := ((X.length : Nat) : Int)) (d := 29) (j := X.length) (by kernel_rfl) (e := 5) (bytes := 1) (by kernel_rfl) (rfl) (by first | omega | (simp only [List.length_append, be_length, List.length_cons, List.length_nil] at *; omega)) fun a11 hE12 => ?_)
  clear hE10
  refine go_rn [7] [] [(0, .p 0 0), (1, .v (.int .i64 ((X.length : Nat) : Int))), (5, .v (.slice A X.length X.length))] hW hE12 fun a13 hE14 => ?_
  clear hE12
  refine wpOps_nil ?_
  refine then_normal ?_
  refine go_seq_region [0, 1, 2, 3, 4, 5, 6, 7, 8, 9] (by kernel_rfl) ?_
  refine go_rn [0, 1, 2, 3, 4, 5] [6, 7, 8, 9] [(5, .v (.slice A X.length X.length)), (30, .p 0 0), (34, .v (.slice A ((X ++ rest).length) c)), (35, .v (.int .i64 ((X.length : Nat) : Int)))] hW hE14 fun a15 hE16 => ?_
  clear hE14
  refine of_op (wpOp_cut_lo hE16 (t := 22) (A := A) (m := ((X ++ rest).length)) (cp := c) (q := ((X.length : Nat) : Int)) (d := 36) (j := X.length) (by kernel_rfl) (e := 5) (bytes := 1) (by kernel_rfl) (rfl) (by first | omega | (simp only [List.length_append, be_length, List.length_cons, List.length_nil] at *; omega)) fun a17 hE18 => ?_)
  clear hE16
  refine go_rn [7, 8] [9] [(5, .v (.slice A X.length X.length)), (36, .v (.slice (cutA A c X.length) (((X ++ rest).length) - X.length) (c - X.length))), (38, .p 0 0)] hW hE18 fun a19 hE20 => ?_
  clear hE18
  refine of_op (wpOp_store hW hE20 (oi := 0) (cs := [.slice (cutA A c X.length) (((X ++ rest).length) - X.length) (c - X.length), .bool false]) (by kernel_rfl) fun w21 hF22 hW23 hE24 => ?_)
  clear hE20 hW
  refine wpOps_nil ?_
  refine then_normal ?_
  refine go_sp [(4, .v (.slice A X.length X.length))] hW23 hE24 fun a25 hE26 => ?_
  clear hE24
  refine wp_ret ?_
  refine leave hE26 hW23.cells (v := .slice A X.length X.length) (by kernel_rfl) ?_
  exact ⟨_, _, _, _, rfl, Str.of hW23 0 rfl, RdS.drop (s := X) ⟨rfl, ho.move hW23.step (fun b_ o_ h_ _ => hFd b_ o_ h_) keepF⟩ (rfl), hW23.step, A, rfl, RdS.front (s := X) ⟨rfl, ho.move hW23.step (fun b_ o_ h_ _ => hFd b_ o_ h_) keepF⟩ rfl⟩

theorem rComplete {br : Nat} {A : Option Addr} {m c : Nat} {w : World} (hst : Str w br [.slice A m c, .bool false]) :
    Calls Tryd.prog 94 #[.pointer (some ⟨br, 0, none⟩)] w (fun e w' => e = .returned .nilIface ∧ w' = w) := by
  refine enter (n := 8) Tryd.func94 rfl Tryd.ntmps94 (by kernel_rfl) fun a hE => ?_
  have hW : WOk w (RdM br) w [⟨br, 0, [.slice A m c, .bool false], true⟩] [] := WOk.startStr hst
  have hE1 := (hE.grow ⟨br, 0, [.slice A m c, .bool false], true⟩).recast 0 (.v (.pointer (some ⟨br, 0, none⟩))) (.p 0 0) rfl rfl (Nat.le_of_ble_eq_true (n := 1) rfl)
  refine go_sp [(0, .p 0 0)] hW hE1 fun a1 hE2 => ?_
  clear hE1
  refine wp_seq ?_
  refine go_sp [(6, .v (.bool false))] hW hE2 fun a3 hE4 => ?_
  clear hE2
  refine cond_false hE4 (b := false) (by kernel_rfl) rfl ?_
  refine wp_skip ?_
  refine then_normal ?_
  refine go_sp [(2, .v (.nilIface))] hW hE4 fun a5 hE6 => ?_
  clear hE4
  refine wp_ret ?_
  refine leave hE6 hW.cells (v := .nilIface) (by kernel_rfl) ?_
  exact ⟨rfl, rfl⟩

end Go.Proofs.YthfdlmnfjcpioaaDoor.ME
