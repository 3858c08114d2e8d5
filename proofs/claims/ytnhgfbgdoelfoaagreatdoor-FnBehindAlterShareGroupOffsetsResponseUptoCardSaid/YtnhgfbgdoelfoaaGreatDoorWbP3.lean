/- The texts of a claim, put together: the engine, the contracts, the law. Own work. -/
import Derived.Test.YtnhgfbgdoelfoaaGreatDoorWbP2
import Derived.Lib.EndianBits
import Derived.Scope
import Derived.Lib.AppendZeros
import Derived.Deep.LoopGhost
/- Contracts: printed by tools/sp.py. Own work. -/
namespace Go.Proofs.YtnhgfbgdoelfoaaGreatDoor.ME
open Go
set_option linter.unusedVariables false
set_option linter.unusedSimpArgs false
set_option maxRecDepth 20000

theorem sPart (W : Fld → Tree → Bs) (A : Option Addr) (c : Nat) (l : List Fld) (v : Int) (flex : Bool) (ct : List Value) (t : Tree) (w : World) (F : Nat → Nat → Prop) (hW_ : ∀ cf f ct t w F, f ∈ l → FldR w F cf f → TreeR w F ct t → (W f t).length ≤ 1099511627776 → Calls Tryz.prog 92 #[.agg cf.toArray, .int .i64 v, .bool flex, .agg ct.toArray] w (FreshB w 5 (W f t))) (hl : FldsR w F A c l) (ht : TreeR w F ct t) (hroom : (partW W l v flex t).length ≤ 1099511627776) :
    Calls Tryz.prog 42 #[.slice A l.length c, .int .i64 v, .bool flex, .agg ct.toArray] w (FreshB w 5 (partW W l v flex t)) := by
  obtain ⟨xfs, h1, h2⟩ := hl.ex
  have hsm := h1.small
  obtain ⟨n1, s2, b3, l4, u5, A6, c7, A8, c9, A10, c11, xs12, rfl, rfl, h14, h15, h16, h17⟩ := ht.open_
  have hsm19 := h14.small
  have hsm20 := h15.small
  have hkr := known_range l
  refine enter (n := 132) Tryz.func42 rfl Tryz.ntmps42 (by kernel_rfl) fun a hE => ?_
  have hW := WOk.start w Nil
  refine go_seq_region [0, 1] (by kernel_rfl) ?_
  refine of_op (wpOp_box hW hE (d := 7) (cs := [.int .i64 n1, .slice A6 s2.length c7, .bool b3, .slice A8 l4.length c9, .slice A10 u5.length c11]) (by kernel_rfl) fun b21 a22 w23 hb24 hz25 hF26 hW27 hE28 => ?_)
  clear hE hW
  refine go_rn [1] [] [(0, .v (.slice A l.length c)), (1, .v (.int .i64 v)), (2, .v (.bool flex)), (7, .p 0 0)] hW27 hE28 fun a29 hE30 => ?_
  clear hE28
  refine wpOps_nil ?_
  refine then_normal ?_
  refine go_sp [(0, .v (.slice A l.length c)), (1, .v (.int .i64 v)), (2, .v (.bool flex)), (7, .p 0 0), (9, .v (.slice none 0 0)), (10, .v (.slice none 0 0))] hW27 hE30 fun a31 hE32 => ?_
  clear hE30
  refine go_sp [(0, .v (.slice A l.length c)), (1, .v (.int .i64 v)), (2, .v (.bool flex)), (7, .p 0 0), (9, .v (.slice none 0 0)), (10, .v (.slice none 0 0)), (11, .v (.int .i64 0))] hW27 hE32 fun a33 hE34 => ?_
  clear hE32
  refine wp_seq ?_
  refine go_sp [(0, .v (.slice A l.length c)), (1, .v (.int .i64 v)), (2, .v (.bool flex)), (7, .p 0 0), (9, .v (.slice none 0 0)), (10, .v (.slice none 0 0)), (11, .v (.int .i64 0)), (21, .v (.slice A l.length c)), (22, .v (.int .i64 ((l.length : Nat) : Int))), (23, .v (.int .i64 0))] hW27 hE34 fun a35 hE36 => ?_
  clear hE34
  refine wp_block ?_
  have hW37 := hW27.addNil 5 1
  have hF38 := hW27.frNil 5 1
  clear hW27
  have htot : (bodyB W l v (Tree.mk n1 s2 b3 l4 u5) 0).length ≤ 1099511627776 := by have h_ := hroom; rw [partW, List.length_append] at h_; omega
  refine wp_loop_ghost (fun n_ a_ w_ => ∃ (k : Nat) (A_ : Option Addr) (c_ : Nat) (dn : Bs), n_ = l.length - k ∧ k ≤ l.length ∧ (dn ++ bodyB W (l.drop k) v (Tree.mk n1 s2 b3 l4 u5) k = bodyB W l v (Tree.mk n1 s2 b3 l4 u5) 0) ∧ LInv hW37 132 [⟨b21, 0, [.int .i64 n1, .slice A6 s2.length c7, .bool b3, .slice A8 l4.length c9, .slice A10 u5.length c11], true⟩] [brow A_ c_ 5 dn] [(0, .v (.slice A l.length c)), (1, .v (.int .i64 v)), (2, .v (.bool flex)), (7, .p 0 0), (9, .v (.slice A_ dn.length c_)), (10, .v (.slice none 0 0)), (11, .v (.int .i64 0)), (21, .v (.slice A l.length c)), (22, .v (.int .i64 ((l.length : Nat) : Int))), (23, .v (.int .i64 ((k : Nat) : Int)))] a_ w_) (l.length) ⟨0, none, 0, [], by omega, by omega, rfl, hE36.pk, hW37, Fr.refl _ _ _⟩ ?_
  clear hE36
  rintro n39 a40 w41 ⟨k, A_, c_, dn, hn44, hk45, hB, hE42, hW43, hF46⟩
  refine go_sp [(0, .v (.slice A l.length c)), (1, .v (.int .i64 v)), (2, .v (.bool flex)), (7, .p 0 0), (9, .v (.slice A_ dn.length c_)), (10, .v (.slice none 0 0)), (11, .v (.int .i64 0)), (21, .v (.slice A l.length c)), (22, .v (.int .i64 ((l.length : Nat) : Int))), (23, .v (.int .i64 ((k : Nat) : Int))), (24, .v (.bool (decide (((k : Nat) : Int) < ((l.length : Nat) : Int)))))] hW43 hE42 fun a47 hE48 => ?_
  clear hE42
  refine wp_seq ?_
  refine cond_of hE48 (b := decide (((k : Nat) : Int) < ((l.length : Nat) : Int))) (by kernel_rfl) (fun hc49 => ?_) (fun hc49 => ?_)
  ·
    have hf50 := of_decide_eq_true hc49
    refine wp_skip ?_
    refine then_normal ?_
    refine wp_seq ?_
    refine wp_block ?_
    refine go_seq_region [0, 1, 2, 3, 4, 5] (by kernel_rfl) ?_
    refine go_rn [0] [1, 2, 3, 4, 5] [(0, .v (.slice A l.length c)), (1, .v (.int .i64 v)), (2, .v (.bool flex)), (7, .p 0 0), (9, .v (.slice A_ dn.length c_)), (10, .v (.slice none 0 0)), (11, .v (.int .i64 0)), (21, .v (.slice A l.length c)), (22, .v (.int .i64 ((l.length : Nat) : Int))), (23, .v (.int .i64 ((k : Nat) : Int))), (25, .v (.int .i64 ((k : Nat) : Int)))] hW43 hE48 fun a51 hE52 => ?_
    clear hE48
    obtain ⟨b53, o54, hA55, hl56, hat57⟩ := Slots.get h1 (i := k) (by omega)
    obtain ⟨x58, he59⟩ : ∃ x, l[k]? = some x := ⟨_, List.getElem?_eq_getElem (by omega)⟩
    have hr60 := h2 k x58 he59
    obtain ⟨k61, y62, y63, y64, y65, y66, y67, l68, A69, c70, xs71, rfl, hcs72, h73, h74⟩ := hr60.open_
    rw [hcs72] at hr60
    have hsm75 := h73.small
    rw [hcs72] at hat57
    refine of_op (wpOp_index hE52 (t := 29) (A := A) (m := l.length) (q := ((k : Nat) : Int)) (d := 26) (by kernel_rfl) (e := 56) (size := 8) (bytes := 80) (by kernel_rfl) hA55 rfl (by omega) fun a76 hE77 => ?_)
    clear hE52
    refine of_op (wpOp_load hE77 (t := 56) (b := b53) (o := o54 + k * 8) (d := 27) (by kernel_rfl) (cs := [.int .i64 k61, .int .i64 y62, .int .i64 y63, .int .i64 y64, .int .i64 y65, .int .i64 y66, .int .i64 y67, .slice A69 l68.length c70]) (v := .agg #[.int .i64 k61, .int .i64 y62, .int .i64 y63, .int .i64 y64, .int .i64 y65, .int .i64 y66, .int .i64 y67, .slice A69 l68.length c70]) (by kernel_rfl) (AtF.move hat57 hW43.step nilM keepF).at_ fun a78 hE79 => ?_)
    clear hE77
    refine of_op (wpOp_alloc hW43 hE79 (d := 13) (cs := [.int .i64 0, .int .i64 0, .int .i64 0, .int .i64 0, .int .i64 0, .int .i64 0, .int .i64 0, .slice none 0 0]) (by kernel_rfl) fun b80 a81 w82 hb83 hz84 hF85 hW86 hE87 => ?_)
    clear hE79 hW43
    refine go_rn [4] [5] [(0, .v (.slice A l.length c)), (1, .v (.int .i64 v)), (2, .v (.bool flex)), (7, .p 0 0), (9, .v (.slice A_ dn.length c_)), (10, .v (.slice none 0 0)), (11, .v (.int .i64 0)), (12, .v (.int .i64 ((k : Nat) : Int))), (13, .p 1 0), (21, .v (.slice A l.length c)), (22, .v (.int .i64 ((l.length : Nat) : Int))), (23, .v (.int .i64 ((k : Nat) : Int))), (27, .v (.agg #[.int .i64 k61, .int .i64 y62, .int .i64 y63, .int .i64 y64, .int .i64 y65, .int .i64 y66, .int .i64 y67, .slice A69 l68.length c70]))] hW86 hE87 fun a88 hE89 => ?_
    clear hE87
    refine of_op (wpOp_store hW86 hE89 (oi := 1) (cs := [.int .i64 k61, .int .i64 y62, .int .i64 y63, .int .i64 y64, .int .i64 y65, .int .i64 y66, .int .i64 y67, .slice A69 l68.length c70]) (by kernel_rfl) fun w90 hF91 hW92 hE93 => ?_)
    clear hE89 hW86
    refine wpOps_nil ?_
    refine then_normal ?_
    refine go_seq_region [0, 1, 2, 3, 4, 5, 6, 7] (by kernel_rfl) ?_
    refine go_rn [0, 1, 2, 3] [4, 5, 6, 7] [(0, .v (.slice A l.length c)), (1, .v (.int .i64 v)), (2, .v (.bool flex)), (7, .p 0 0), (9, .v (.slice A_ dn.length c_)), (10, .v (.slice none 0 0)), (11, .v (.int .i64 0)), (12, .v (.int .i64 ((k : Nat) : Int))), (13, .p 1 0), (21, .v (.slice A l.length c)), (22, .v (.int .i64 ((l.length : Nat) : Int))), (23, .v (.int .i64 ((k : Nat) : Int))), (31, .v (.bool (decide (y65 < 0))))] hW92 hE93 fun a94 hE95 => ?_
    clear hE93
    refine (Bool.eq_false_or_eq_true (decide (y65 < 0))).elim (fun hc96 => ?_) (fun hc96 => ?_)
    ·
      have hf97 := of_decide_eq_true hc96
      have hE98 := hE95.cast (env' := [(0, .v (.slice A l.length c)), (1, .v (.int .i64 v)), (2, .v (.bool flex)), (7, .p 0 0), (9, .v (.slice A_ dn.length c_)), (10, .v (.slice none 0 0)), (11, .v (.int .i64 0)), (12, .v (.int .i64 ((k : Nat) : Int))), (13, .p 1 0), (21, .v (.slice A l.length c)), (22, .v (.int .i64 ((l.length : Nat) : Int))), (23, .v (.int .i64 ((k : Nat) : Int))), (31, .v (.bool true))]) (by rw [hc96])
      clear hE95
      refine go_rn [4, 5] [6, 7] [(0, .v (.slice A l.length c)), (1, .v (.int .i64 v)), (2, .v (.bool flex)), (7, .p 0 0), (9, .v (.slice A_ dn.length c_)), (10, .v (.slice none 0 0)), (11, .v (.int .i64 0)), (12, .v (.int .i64 ((k : Nat) : Int))), (13, .p 1 0), (21, .v (.slice A l.length c)), (22, .v (.int .i64 ((l.length : Nat) : Int))), (23, .v (.int .i64 ((k : Nat) : Int))), (31, .v (.bool true)), (32, .v (.agg #[.int .i64 k61, .int .i64 y62, .int .i64 y63, .int .i64 y64, .int .i64 y65, .int .i64 y66, .int .i64 y67, .slice A69 l68.length c70])), (33, .v (.int .i64 v))] hW92 hE98 fun a99 hE100 => ?_
      clear hE98
      refine of_op (wpOp_call hE100 (f := 83) (vs := [.agg #[.int .i64 k61, .int .i64 y62, .int .i64 y63, .int .i64 y64, .int .i64 y65, .int .i64 y66, .int .i64 y67, .slice A69 l68.length c70], .int .i64 v]) (d := 34) (by kernel_rfl) Tryz.call83 (sHas k61 y62 y63 y64 y65 y66 y67 l68 _ _ v _) ?_)
      rintro e_ w102 ⟨rfl, hs101⟩
      refine ⟨_, rfl, fun a103 hE104 => ?_⟩
      have hW105 := hW92.next_nil hs101
      have hF106 := hW92.frN hs101
      clear hE100 hW92
      refine go_rn [7] [] [(0, .v (.slice A l.length c)), (1, .v (.int .i64 v)), (2, .v (.bool flex)), (7, .p 0 0), (9, .v (.slice A_ dn.length c_)), (10, .v (.slice none 0 0)), (11, .v (.int .i64 0)), (12, .v (.int .i64 ((k : Nat) : Int))), (13, .p 1 0), (21, .v (.slice A l.length c)), (22, .v (.int .i64 ((l.length : Nat) : Int))), (23, .v (.int .i64 ((k : Nat) : Int))), (35, .v (.bool (Fld.has (Fld.mk k61 y62 y63 y64 y65 y66 y67 l68) v)))] hW105 hE104 fun a107 hE108 => ?_
      clear hE104
      refine wpOps_nil ?_
      refine then_normal ?_
      refine cond_of hE108 (b := Fld.has (Fld.mk k61 y62 y63 y64 y65 y66 y67 l68) v) (by kernel_rfl) (fun hc109 => ?_) (fun hc109 => ?_)
      ·
        refine go_drawK 9 (by kernel_rfl) hW105 fun w111 hF112 hW113 hT114 => ?_
        clear hW105
        refine go_rnD [0, 1, 2, 3, 4, 5] [(0, .v (.slice A l.length c)), (1, .v (.int .i64 v)), (2, .v (.bool flex)), (7, .p 0 0), (9, .v (.slice A_ dn.length c_)), (10, .v (.slice none 0 0)), (11, .v (.int .i64 0)), (21, .v (.slice A l.length c)), (22, .v (.int .i64 ((l.length : Nat) : Int))), (23, .v (.int .i64 ((k : Nat) : Int))), (36, .v (.slice A_ dn.length c_)), (37, .v (.agg #[.int .i64 k61, .int .i64 y62, .int .i64 y63, .int .i64 y64, .int .i64 y65, .int .i64 y66, .int .i64 y67, .slice A69 l68.length c70])), (38, .v (.int .i64 v)), (39, .v (.bool flex)), (40, .v (.agg #[.int .i64 n1, .slice A6 s2.length c7, .bool b3, .slice A8 l4.length c9, .slice A10 u5.length c11])), (41, .v (.int .i64 ((k : Nat) : Int)))] 4 (panicFree_block (panicFree_then (panicFree_then (panicFree_block (panicFree_then panicFree_body))))) (fun _ h => h.cells) hT114 hE108 fun a115 hE116 => ?_
        clear hE108
        refine anyC_op (i := 6) (by kernel_rfl) (wpOp_call hE116 (f := 82) (vs := [.agg #[.int .i64 n1, .slice A6 s2.length c7, .bool b3, .slice A8 l4.length c9, .slice A10 u5.length c11], .int .i64 ((k : Nat) : Int)]) (d := 42) (by kernel_rfl) Tryz.call82 (sAt _ _ k _ _ (ht.move hW113.step nilM hW113.imm)) ?_)
        rintro e_ w120 ⟨cs119, rfl, hr118, hs117⟩
        have hr121 := hr118.move hs117 nilM (fun b o h_ hb_ => hW113.laid (G := F) hs117 b o (.inl h_) (Nat.lt_of_lt_of_le hb_ hs117.size))
        obtain ⟨n122, s123, b124, l125, u126, A127, c128, A129, c130, A131, c132, xs133, ht139, hcs134, h135, h136, h137, h138⟩ := hr121.open_
        rw [hcs134] at hr121
        have hsm140 := h135.small
        have hsm141 := h136.small
        rw [hcs134]
        refine ⟨_, rfl, fun a142 hE143 => ?_⟩
        have hW144 := hW113.next_nil hs117
        have hF145 := hW113.frN hs117
        clear hE116
        have hT146 := TT.ofW hF145 hW144
        refine ⟨fun _ => hT146, ?_⟩
        refine anyC_op (i := 7) (by kernel_rfl) (wpOp_call hE143 (f := 92) (vs := [.agg #[.int .i64 k61, .int .i64 y62, .int .i64 y63, .int .i64 y64, .int .i64 y65, .int .i64 y66, .int .i64 y67, .slice A69 l68.length c70], .int .i64 v, .bool flex, .agg #[.int .i64 n122, .slice A127 s123.length c128, .bool b124, .slice A129 l125.length c130, .slice A131 u126.length c132]]) (d := 43) (by kernel_rfl) Tryz.call92 ( hW_ _ _ _ _ _ _ (List.mem_of_getElem? he59) (hr60.move hW144.step nilM hW144.imm) hr121 (by have h_ := congrArg List.length hB; rw [bodyB_pos he59 (by assumption) (by assumption)] at h_; simp only [List.length_append] at h_; omega)) ?_)
        rintro e_ w151 ⟨A149, c150, rfl, ho148, hs147⟩
        refine ⟨_, rfl, fun a152 hE153 => ?_⟩
        obtain ⟨hW154, hF155⟩ := hW144.frFresh hs147 (brow A149 c150 5 (W (Fld.mk k61 y62 y63 y64 y65 y66 y67 l68) (Tree.at_ (Tree.mk n1 s2 b3 l4 u5) k))) (Nat.le_refl _) ho148
        clear hE143 hW144
        have hlw156 : (W (Fld.mk k61 y62 y63 y64 y65 y66 y67 l68) (Tree.at_ (Tree.mk n1 s2 b3 l4 u5) k)).length ≤ 1099511627776 := by have h_ := congrArg List.length hB; rw [bodyB_pos he59 (by assumption) (by assumption)] at h_; simp only [List.length_append] at h_; omega
        have hT157 := TT.ofW (Fr.trans hF145 hF155) hW154
        refine ⟨fun _ => hT157, ?_⟩
        refine anyC_op (i := 8) (by kernel_rfl) (wpOp_append hW154 hE153 (k := 0) (d := 44) (t := 22) (e := 5) (size := 1) (bytes := 1) (A := A_) (As := A149) (m0 := dn.length) (c := c_) (m := ((W (Fld.mk k61 y62 y63 y64 y65 y66 y67 l68) (Tree.at_ (Tree.mk n1 s2 b3 l4 u5) k)).length)) (cs := c150) (xs := (bc dn)) (news := bc (W (Fld.mk k61 y62 y63 y64 y65 y66 y67 l68) (Tree.at_ (Tree.mk n1 s2 b3 l4 u5) k))) (by kernel_rfl) (by kernel_rfl) rfl (own_src (hW154.own 1 _ rfl) (bc_one _)) (own_cap (hW154.own 1 _ rfl)) (by have h_ := congrArg List.length hB; rw [bodyB_pos he59 (by assumption) (by assumption)] at h_; simp only [List.length_append] at h_ ⊢; omega) fun A158 c159 a160 w161 hF162 hW163 hE164 => ?_)
        clear hE153 hW154
        have er165 : (⟨A158, c159, 5, 1, dn.length + (W (Fld.mk k61 y62 y63 y64 y65 y66 y67 l68) (Tree.at_ (Tree.mk n1 s2 b3 l4 u5) k)).length, bc dn ++ bc (W (Fld.mk k61 y62 y63 y64 y65 y66 y67 l68) (Tree.at_ (Tree.mk n1 s2 b3 l4 u5) k))⟩ : Rw) = brow A158 c159 5 (dn ++ (W (Fld.mk k61 y62 y63 y64 y65 y66 y67 l68) (Tree.at_ (Tree.mk n1 s2 b3 l4 u5) k))) := brow_eq (rfl) rfl
        obtain ⟨hW166, hF168⟩ := hW163.rowEq 0 [brow A158 c159 5 (dn ++ (W (Fld.mk k61 y62 y63 y64 y65 y66 y67 l68) (Tree.at_ (Tree.mk n1 s2 b3 l4 u5) k))), brow A149 c150 5 (W (Fld.mk k61 y62 y63 y64 y65 y66 y67 l68) (Tree.at_ (Tree.mk n1 s2 b3 l4 u5) k))] er165
        clear hW163
        have hE169 := EnvOk.pick hE164 (ks := [0, 1, 2, 7, 9, 10, 11, 21, 22, 23, 36, 37, 38, 39, 40, 41, 42, 43, 44]) (env' := [(0, .v (.slice A l.length c)), (1, .v (.int .i64 v)), (2, .v (.bool flex)), (7, .p 0 0), (9, .v (.slice A_ dn.length c_)), (10, .v (.slice none 0 0)), (11, .v (.int .i64 0)), (21, .v (.slice A l.length c)), (22, .v (.int .i64 ((l.length : Nat) : Int))), (23, .v (.int .i64 ((k : Nat) : Int))), (36, .v (.slice A_ dn.length c_)), (37, .v (.agg #[.int .i64 k61, .int .i64 y62, .int .i64 y63, .int .i64 y64, .int .i64 y65, .int .i64 y66, .int .i64 y67, .slice A69 l68.length c70])), (38, .v (.int .i64 v)), (39, .v (.bool flex)), (40, .v (.agg #[.int .i64 n1, .slice A6 s2.length c7, .bool b3, .slice A8 l4.length c9, .slice A10 u5.length c11])), (41, .v (.int .i64 ((k : Nat) : Int))), (42, .v (.agg #[.int .i64 n122, .slice A127 s123.length c128, .bool b124, .slice A129 l125.length c130, .slice A131 u126.length c132])), (43, .v (.slice A149 ((W (Fld.mk k61 y62 y63 y64 y65 y66 y67 l68) (Tree.at_ (Tree.mk n1 s2 b3 l4 u5) k)).length) c150)), (44, .v (.slice A158 (dn.length + (W (Fld.mk k61 y62 y63 y64 y65 y66 y67 l68) (Tree.at_ (Tree.mk n1 s2 b3 l4 u5) k)).length) c159))]) (by kernel_rfl)
        have hE167 := hE169.cast (env' := [(0, .v (.slice A l.length c)), (1, .v (.int .i64 v)), (2, .v (.bool flex)), (7, .p 0 0), (9, .v (.slice A_ dn.length c_)), (10, .v (.slice none 0 0)), (11, .v (.int .i64 0)), (21, .v (.slice A l.length c)), (22, .v (.int .i64 ((l.length : Nat) : Int))), (23, .v (.int .i64 ((k : Nat) : Int))), (36, .v (.slice A_ dn.length c_)), (37, .v (.agg #[.int .i64 k61, .int .i64 y62, .int .i64 y63, .int .i64 y64, .int .i64 y65, .int .i64 y66, .int .i64 y67, .slice A69 l68.length c70])), (38, .v (.int .i64 v)), (39, .v (.bool flex)), (40, .v (.agg #[.int .i64 n1, .slice A6 s2.length c7, .bool b3, .slice A8 l4.length c9, .slice A10 u5.length c11])), (41, .v (.int .i64 ((k : Nat) : Int))), (42, .v (.agg #[.int .i64 n122, .slice A127 s123.length c128, .bool b124, .slice A129 l125.length c130, .slice A131 u126.length c132])), (43, .v (.slice A149 ((W (Fld.mk k61 y62 y63 y64 y65 y66 y67 l68) (Tree.at_ (Tree.mk n1 s2 b3 l4 u5) k)).length) c150)), (44, .v (.slice A158 ((dn ++ (W (Fld.mk k61 y62 y63 y64 y65 y66 y67 l68) (Tree.at_ (Tree.mk n1 s2 b3 l4 u5) k))).length) c159))]) (by simp only [List.length_append, List.length_cons, List.length_nil, Nat.zero_add])
        clear hE164
        clear hE169
        have hT170 := TT.ofW (Fr.trans (Fr.trans (Fr.trans hF145 hF155) hF162) hF168) hW166
        refine ⟨fun _ => hT170, ?_⟩
        refine anyC_op (i := 9) (by kernel_rfl) (wpOp_pure [0, 1, 2, 7, 9, 10, 11, 21, 22, 23] hW166.cells hE167 (env' := [(0, .v (.slice A l.length c)), (1, .v (.int .i64 v)), (2, .v (.bool flex)), (7, .p 0 0), (9, .v (.slice A158 ((dn ++ (W (Fld.mk k61 y62 y63 y64 y65 y66 y67 l68) (Tree.at_ (Tree.mk n1 s2 b3 l4 u5) k))).length) c159)), (10, .v (.slice none 0 0)), (11, .v (.int .i64 0)), (21, .v (.slice A l.length c)), (22, .v (.int .i64 ((l.length : Nat) : Int))), (23, .v (.int .i64 ((k : Nat) : Int)))]) (by kernel_rfl) fun a171 hE172 => ?_)
        clear hE167
        refine ⟨fun h => absurd rfl h, ?_⟩
        refine anyC_done (by kernel_rfl) ?_ _
        refine block_normal ?_
        refine then_normal ?_
        refine go_region [0, 1] (by kernel_rfl) ?_
        refine go_rn [0, 1] [] [(0, .v (.slice A l.length c)), (1, .v (.int .i64 v)), (2, .v (.bool flex)), (7, .p 0 0), (9, .v (.slice A158 ((dn ++ (W (Fld.mk k61 y62 y63 y64 y65 y66 y67 l68) (Tree.at_ (Tree.mk n1 s2 b3 l4 u5) k))).length) c159)), (10, .v (.slice none 0 0)), (11, .v (.int .i64 0)), (21, .v (.slice A l.length c)), (22, .v (.int .i64 ((l.length : Nat) : Int))), (23, .v (.int .i64 (IntKind.i64.wrap (((k : Nat) : Int) + 1))))] hW166 hE172 fun a173 hE174 => ?_
        clear hE172
        refine wpOps_nil ?_
        refine then_normal ?_
        obtain ⟨hE175, hW176, hF177⟩ := hW166.cutB hE174 1 [⟨b21, 0, [.int .i64 n1, .slice A6 s2.length c7, .bool b3, .slice A8 l4.length c9, .slice A10 u5.length c11], true⟩] [(0, .v (.slice A l.length c)), (1, .v (.int .i64 v)), (2, .v (.bool flex)), (7, .p 0 0), (9, .v (.slice A158 ((dn ++ (W (Fld.mk k61 y62 y63 y64 y65 y66 y67 l68) (Tree.at_ (Tree.mk n1 s2 b3 l4 u5) k))).length) c159)), (10, .v (.slice none 0 0)), (11, .v (.int .i64 0)), (21, .v (.slice A l.length c)), (22, .v (.int .i64 ((l.length : Nat) : Int))), (23, .v (.int .i64 (IntKind.i64.wrap (((k : Nat) : Int) + 1))))]
        obtain ⟨hW178, hF179⟩ := hW176.cutR 1 [brow A158 c159 5 (dn ++ (W (Fld.mk k61 y62 y63 y64 y65 y66 y67 l68) (Tree.at_ (Tree.mk n1 s2 b3 l4 u5) k)))]
        have he180 : IntKind.i64.wrap (((k : Nat) : Int) + 1) = ((k + 1 : Nat) : Int) := wrap_succ (by omega)
        rw [he180] at hE175
        exact ⟨l.length - (k + 1), by omega, k + 1, A158, c159, dn ++ (W (Fld.mk k61 y62 y63 y64 y65 y66 y67 l68) (Tree.at_ (Tree.mk n1 s2 b3 l4 u5) k)), rfl, by omega, by rw [List.append_assoc, ← bodyB_pos he59 (by assumption) (by assumption)]; exact hB, hE175.pk, hW178, (Fr.trans (Fr.trans (Fr.trans (Fr.trans (Fr.trans (Fr.trans (Fr.trans (Fr.trans (Fr.trans (Fr.trans hF46 hF85) hF91) hF106) hF112) hF145) hF155) hF162) hF168) hF177) hF179)⟩
      ·
        refine wp_skip ?_
        refine block_normal ?_
        refine then_normal ?_
        refine go_region [0, 1] (by kernel_rfl) ?_
        refine go_rn [0, 1] [] [(0, .v (.slice A l.length c)), (1, .v (.int .i64 v)), (2, .v (.bool flex)), (7, .p 0 0), (9, .v (.slice A_ dn.length c_)), (10, .v (.slice none 0 0)), (11, .v (.int .i64 0)), (21, .v (.slice A l.length c)), (22, .v (.int .i64 ((l.length : Nat) : Int))), (23, .v (.int .i64 (IntKind.i64.wrap (((k : Nat) : Int) + 1))))] hW105 hE108 fun a182 hE183 => ?_
        clear hE108
        refine wpOps_nil ?_
        refine then_normal ?_
        obtain ⟨hE184, hW185, hF186⟩ := hW105.cutB hE183 1 [⟨b21, 0, [.int .i64 n1, .slice A6 s2.length c7, .bool b3, .slice A8 l4.length c9, .slice A10 u5.length c11], true⟩] [(0, .v (.slice A l.length c)), (1, .v (.int .i64 v)), (2, .v (.bool flex)), (7, .p 0 0), (9, .v (.slice A_ dn.length c_)), (10, .v (.slice none 0 0)), (11, .v (.int .i64 0)), (21, .v (.slice A l.length c)), (22, .v (.int .i64 ((l.length : Nat) : Int))), (23, .v (.int .i64 (IntKind.i64.wrap (((k : Nat) : Int) + 1))))]
        have he187 : IntKind.i64.wrap (((k : Nat) : Int) + 1) = ((k + 1 : Nat) : Int) := wrap_succ (by omega)
        rw [he187] at hE184
        exact ⟨l.length - (k + 1), by omega, k + 1, A_, c_, dn, rfl, by omega, by rw [← bodyB_neg2 he59 (by assumption)]; exact hB, hE184.pk, hW185, (Fr.trans (Fr.trans (Fr.trans (Fr.trans hF46 hF85) hF91) hF106) hF186)⟩
    ·
      have hf188 := of_decide_eq_false hc96
      have hE189 := hE95.cast (env' := [(0, .v (.slice A l.length c)), (1, .v (.int .i64 v)), (2, .v (.bool flex)), (7, .p 0 0), (9, .v (.slice A_ dn.length c_)), (10, .v (.slice none 0 0)), (11, .v (.int .i64 0)), (12, .v (.int .i64 ((k : Nat) : Int))), (13, .p 1 0), (21, .v (.slice A l.length c)), (22, .v (.int .i64 ((l.length : Nat) : Int))), (23, .v (.int .i64 ((k : Nat) : Int))), (31, .v (.bool false))]) (by rw [hc96])
      clear hE95
      refine go_rn [4, 5, 6, 7] [] [(0, .v (.slice A l.length c)), (1, .v (.int .i64 v)), (2, .v (.bool flex)), (7, .p 0 0), (9, .v (.slice A_ dn.length c_)), (10, .v (.slice none 0 0)), (11, .v (.int .i64 0)), (12, .v (.int .i64 ((k : Nat) : Int))), (13, .p 1 0), (21, .v (.slice A l.length c)), (22, .v (.int .i64 ((l.length : Nat) : Int))), (23, .v (.int .i64 ((k : Nat) : Int))), (35, .v (.bool false))] hW92 hE189 fun a190 hE191 => ?_
      clear hE189
      refine wpOps_nil ?_
      refine then_normal ?_
      refine cond_false hE191 (b := false) (by kernel_rfl) rfl ?_
      refine wp_skip ?_
      refine block_normal ?_
      refine then_normal ?_
      refine go_region [0, 1] (by kernel_rfl) ?_
      refine go_rn [0, 1] [] [(0, .v (.slice A l.length c)), (1, .v (.int .i64 v)), (2, .v (.bool flex)), (7, .p 0 0), (9, .v (.slice A_ dn.length c_)), (10, .v (.slice none 0 0)), (11, .v (.int .i64 0)), (21, .v (.slice A l.length c)), (22, .v (.int .i64 ((l.length : Nat) : Int))), (23, .v (.int .i64 (IntKind.i64.wrap (((k : Nat) : Int) + 1))))] hW92 hE191 fun a192 hE193 => ?_
      clear hE191
      refine wpOps_nil ?_
      refine then_normal ?_
      obtain ⟨hE194, hW195, hF196⟩ := hW92.cutB hE193 1 [⟨b21, 0, [.int .i64 n1, .slice A6 s2.length c7, .bool b3, .slice A8 l4.length c9, .slice A10 u5.length c11], true⟩] [(0, .v (.slice A l.length c)), (1, .v (.int .i64 v)), (2, .v (.bool flex)), (7, .p 0 0), (9, .v (.slice A_ dn.length c_)), (10, .v (.slice none 0 0)), (11, .v (.int .i64 0)), (21, .v (.slice A l.length c)), (22, .v (.int .i64 ((l.length : Nat) : Int))), (23, .v (.int .i64 (IntKind.i64.wrap (((k : Nat) : Int) + 1))))]
      have he197 : IntKind.i64.wrap (((k : Nat) : Int) + 1) = ((k + 1 : Nat) : Int) := wrap_succ (by omega)
      rw [he197] at hE194
      exact ⟨l.length - (k + 1), by omega, k + 1, A_, c_, dn, rfl, by omega, by rw [← bodyB_neg1 he59 (by assumption)]; exact hB, hE194.pk, hW195, (Fr.trans (Fr.trans (Fr.trans hF46 hF85) hF91) hF196)⟩
  ·
    have hf198 := of_decide_eq_false hc49
    refine wp_exit ?_
    refine then_exit ?_
    refine then_exit ?_
    refine block_exit ?_
    refine then_normal ?_
    refine wp_seq ?_
    refine go_sp [(0, .v (.slice A l.length c)), (1, .v (.int .i64 v)), (2, .v (.bool flex)), (7, .p 0 0), (9, .v (.slice A_ dn.length c_)), (10, .v (.slice none 0 0)), (11, .v (.int .i64 0)), (47, .v (.bool (!flex)))] hW43 hE48 fun a199 hE200 => ?_
    clear hE48
    refine cond_of hE200 (b := !flex) (by kernel_rfl) (fun hc201 => ?_) (fun hc201 => ?_)
    ·
      refine go_sp [(8, .v (.slice A_ dn.length c_))] hW43 hE200 fun a203 hE204 => ?_
      clear hE200
      refine wp_ret ?_
      refine then_ret ?_
      refine leave hE204 hW43.cells (v := .slice A_ dn.length c_) (by kernel_rfl) ?_
      exact fresh_end hW43 (k := 0) rfl (by rw [show flex = false by simpa using hc201, partW_old, ← hB, bodyB_end (by omega), List.append_nil])
    ·
      refine wp_skip ?_
      refine then_normal ?_
      refine wp_seq ?_
      refine go_seq_region [0, 1, 2, 3] (by kernel_rfl) ?_
      refine go_rn [0] [1, 2, 3] [(0, .v (.slice A l.length c)), (1, .v (.int .i64 v)), (2, .v (.bool flex)), (7, .p 0 0), (9, .v (.slice A_ dn.length c_)), (10, .v (.slice none 0 0)), (11, .v (.int .i64 0)), (49, .v (.slice A l.length c))] hW43 hE200 fun a206 hE207 => ?_
      clear hE200
      refine of_op (wpOp_call hE207 (f := 93) (vs := [.slice A l.length c]) (d := 50) (by kernel_rfl) Tryz.call93 (sKnown _ _ l _ _ ⟨xfs, (h1.move hW43.step nilM hW43.imm), (fun i_ x_ h_ => ((h2 i_ x_ h_).move hW43.step nilM hW43.imm))⟩) ?_)
      rintro e_ w209 ⟨rfl, hs208⟩
      refine ⟨_, rfl, fun a210 hE211 => ?_⟩
      have hW212 := hW43.next_nil hs208
      have hF213 := hW43.frN hs208
      clear hE207 hW43
      refine go_rn [2, 3] [] [(0, .v (.slice A l.length c)), (1, .v (.int .i64 v)), (2, .v (.bool flex)), (7, .p 0 0), (9, .v (.slice A_ dn.length c_)), (10, .v (.slice none 0 0)), (11, .v (.int .i64 0)), (51, .v (.int .i64 (IntKind.i64.wrap (knownI l)))), (52, .v (.int .i64 0))] hW212 hE211 fun a214 hE215 => ?_
      clear hE211
      refine wpOps_nil ?_
      refine then_normal ?_
      refine wp_block ?_
      have hdn : dn = bodyB W l v (Tree.mk n1 s2 b3 l4 u5) 0 := by rw [← hB, bodyB_end (by omega), List.append_nil]
      have er216 : dn = (bodyB W l v (Tree.mk n1 s2 b3 l4 u5) 0) := hdn
      have er217 := congrArg (brow A_ c_ 5) er216
      obtain ⟨hW218, hF219⟩ := hW212.rowEq 0 [brow A_ c_ 5 (bodyB W l v (Tree.mk n1 s2 b3 l4 u5) 0)] er217
      clear hW212
      rw [er216] at hE215
      have hfx : flex = true := by simpa using hc201
      have htot2 : (bodyB W l v (Tree.mk n1 s2 b3 l4 u5) 0).length + (uv (tagsN W l (Tree.mk n1 s2 b3 l4 u5) (knownI l).toNat + (unknownT l u5).length)).length + ((tagsK W l (Tree.mk n1 s2 b3 l4 u5) (knownI l).toNat).length + (tagsB (unknownT l u5)).length) ≤ 1099511627776 := by have h_ := hroom; rw [hfx, partW_flex] at h_; simpa only [List.length_append] using h_
      have hmono := fun i (h_ : i ≤ (knownI l).toNat) => tagsK_mono W l (Tree.mk n1 s2 b3 l4 u5) h_
      have hcnt := tagsN_le W l (Tree.mk n1 s2 b3 l4 u5)
      have hknn := known_nat l
      have hE221 := EnvOk.pick hE215 (ks := [0, 1, 2, 7, 9, 10, 11, 51, 52]) (env' := [(0, .v (.slice A l.length c)), (1, .v (.int .i64 v)), (2, .v (.bool flex)), (7, .p 0 0), (9, .v (.slice A_ ((bodyB W l v (Tree.mk n1 s2 b3 l4 u5) 0).length) c_)), (10, .v (.slice none 0 0)), (11, .v (.int .i64 0)), (51, .v (.int .i64 (IntKind.i64.wrap (knownI l)))), (52, .v (.int .i64 0))]) (by kernel_rfl)
      have hE220 := hE221.cast (env' := [(0, .v (.slice A l.length c)), (1, .v (.int .i64 v)), (2, .v (.bool flex)), (7, .p 0 0), (9, .v (.slice A_ ((bodyB W l v (Tree.mk n1 s2 b3 l4 u5) 0).length) c_)), (10, .v (.slice none 0 0)), (11, .v (.int .i64 0)), (51, .v (.int .i64 (((knownI l).toNat : Nat) : Int))), (52, .v (.int .i64 0))]) (by rw [hknn])
      clear hE215 hE221
      have hW222 := hW218.addNil 5 1
      have hF223 := hW218.frNil 5 1
      clear hW218
      refine wp_loop_ghost (fun n_ a_ w_ => ∃ (k2 : Nat) (A2_ : Option Addr) (c2_ : Nat), n_ = (knownI l).toNat - k2 ∧ k2 ≤ (knownI l).toNat ∧ LInv hW222 132 [⟨b21, 0, [.int .i64 n1, .slice A6 s2.length c7, .bool b3, .slice A8 l4.length c9, .slice A10 u5.length c11], true⟩] [brow A_ c_ 5 (bodyB W l v (Tree.mk n1 s2 b3 l4 u5) 0), brow A2_ c2_ 5 (tagsK W l (Tree.mk n1 s2 b3 l4 u5) k2)] [(0, .v (.slice A l.length c)), (1, .v (.int .i64 v)), (2, .v (.bool flex)), (7, .p 0 0), (9, .v (.slice A_ ((bodyB W l v (Tree.mk n1 s2 b3 l4 u5) 0).length) c_)), (10, .v (.slice A2_ ((tagsK W l (Tree.mk n1 s2 b3 l4 u5) k2).length) c2_)), (11, .v (.int .i64 ((tagsN W l (Tree.mk n1 s2 b3 l4 u5) k2 : Nat) : Int))), (51, .v (.int .i64 (((knownI l).toNat : Nat) : Int))), (52, .v (.int .i64 ((k2 : Nat) : Int)))] a_ w_) ((knownI l).toNat) ⟨0, none, 0, by omega, by omega, hE220.pk, hW222, Fr.refl _ _ _⟩ ?_
      clear hE220
      rintro n224 a225 w226 ⟨k2, A2_, c2_, hn229, hk230, hE227, hW228, hF231⟩
      refine go_sp [(0, .v (.slice A l.length c)), (1, .v (.int .i64 v)), (2, .v (.bool flex)), (7, .p 0 0), (9, .v (.slice A_ ((bodyB W l v (Tree.mk n1 s2 b3 l4 u5) 0).length) c_)), (10, .v (.slice A2_ ((tagsK W l (Tree.mk n1 s2 b3 l4 u5) k2).length) c2_)), (11, .v (.int .i64 ((tagsN W l (Tree.mk n1 s2 b3 l4 u5) k2 : Nat) : Int))), (51, .v (.int .i64 (((knownI l).toNat : Nat) : Int))), (52, .v (.int .i64 ((k2 : Nat) : Int))), (53, .v (.bool (decide (((k2 : Nat) : Int) < (((knownI l).toNat : Nat) : Int)))))] hW228 hE227 fun a232 hE233 => ?_
      clear hE227
      refine wp_seq ?_
      refine cond_of hE233 (b := decide (((k2 : Nat) : Int) < (((knownI l).toNat : Nat) : Int))) (by kernel_rfl) (fun hc234 => ?_) (fun hc234 => ?_)
      ·
        have hf235 := of_decide_eq_true hc234
        refine wp_skip ?_
        refine then_normal ?_
        refine wp_seq ?_
        refine wp_block ?_
        refine go_sp [(0, .v (.slice A l.length c)), (1, .v (.int .i64 v)), (2, .v (.bool flex)), (7, .p 0 0), (9, .v (.slice A_ ((bodyB W l v (Tree.mk n1 s2 b3 l4 u5) 0).length) c_)), (10, .v (.slice A2_ ((tagsK W l (Tree.mk n1 s2 b3 l4 u5) k2).length) c2_)), (11, .v (.int .i64 ((tagsN W l (Tree.mk n1 s2 b3 l4 u5) k2 : Nat) : Int))), (14, .v (.int .i64 ((k2 : Nat) : Int))), (51, .v (.int .i64 (((knownI l).toNat : Nat) : Int))), (52, .v (.int .i64 ((k2 : Nat) : Int)))] hW228 hE233 fun a236 hE237 => ?_
        clear hE233
        refine go_sp [(0, .v (.slice A l.length c)), (1, .v (.int .i64 v)), (2, .v (.bool flex)), (7, .p 0 0), (9, .v (.slice A_ ((bodyB W l v (Tree.mk n1 s2 b3 l4 u5) 0).length) c_)), (10, .v (.slice A2_ ((tagsK W l (Tree.mk n1 s2 b3 l4 u5) k2).length) c2_)), (11, .v (.int .i64 ((tagsN W l (Tree.mk n1 s2 b3 l4 u5) k2 : Nat) : Int))), (14, .v (.int .i64 ((k2 : Nat) : Int))), (51, .v (.int .i64 (((knownI l).toNat : Nat) : Int))), (52, .v (.int .i64 ((k2 : Nat) : Int))), (55, .v (.slice A l.length c)), (56, .v (.int .i64 ((l.length : Nat) : Int))), (57, .v (.int .i64 0))] hW228 hE237 fun a238 hE239 => ?_
        clear hE237
        refine wp_block ?_
        have er240 : (tagsK W l (Tree.mk n1 s2 b3 l4 u5) k2) = (tagsK W l (Tree.mk n1 s2 b3 l4 u5) k2 ++ []) := (List.append_nil _).symm
        have er241 := congrArg (brow A2_ c2_ 5) er240
        obtain ⟨hW242, hF243⟩ := hW228.rowEq 1 [brow A_ c_ 5 (bodyB W l v (Tree.mk n1 s2 b3 l4 u5) 0), brow A2_ c2_ 5 (tagsK W l (Tree.mk n1 s2 b3 l4 u5) k2 ++ [])] er241
        clear hW228
        rw [er240] at hE239
        have hm2 := hmono (k2 + 1) (by omega)
        rw [tagsK, List.length_append] at hm2
        have hc2 := hcnt (k2 + 1)
        rw [tagsN, tagsK, List.length_append] at hc2
        have hc3 := tagN_le W k2 (Tree.mk n1 s2 b3 l4 u5) l 0
        refine wp_loop_ghost (fun n_ a_ w_ => ∃ (q : Nat) (A3_ : Option Addr) (c3_ : Nat) (dm : Bs) (cn : Nat), n_ = l.length - q ∧ q ≤ l.length ∧ (dm ++ tagB W (l.drop q) k2 (Tree.mk n1 s2 b3 l4 u5) q = tagB W l k2 (Tree.mk n1 s2 b3 l4 u5) 0) ∧ (cn + tagN W (l.drop q) k2 (Tree.mk n1 s2 b3 l4 u5) q = tagN W l k2 (Tree.mk n1 s2 b3 l4 u5) 0) ∧ LInv hW242 132 [⟨b21, 0, [.int .i64 n1, .slice A6 s2.length c7, .bool b3, .slice A8 l4.length c9, .slice A10 u5.length c11], true⟩] [brow A_ c_ 5 (bodyB W l v (Tree.mk n1 s2 b3 l4 u5) 0), brow A3_ c3_ 5 (tagsK W l (Tree.mk n1 s2 b3 l4 u5) k2 ++ dm)] [(0, .v (.slice A l.length c)), (1, .v (.int .i64 v)), (2, .v (.bool flex)), (7, .p 0 0), (9, .v (.slice A_ ((bodyB W l v (Tree.mk n1 s2 b3 l4 u5) 0).length) c_)), (10, .v (.slice A3_ ((tagsK W l (Tree.mk n1 s2 b3 l4 u5) k2 ++ dm).length) c3_)), (11, .v (.int .i64 ((tagsN W l (Tree.mk n1 s2 b3 l4 u5) k2 + cn : Nat) : Int))), (14, .v (.int .i64 ((k2 : Nat) : Int))), (51, .v (.int .i64 (((knownI l).toNat : Nat) : Int))), (52, .v (.int .i64 ((k2 : Nat) : Int))), (55, .v (.slice A l.length c)), (56, .v (.int .i64 ((l.length : Nat) : Int))), (57, .v (.int .i64 ((q : Nat) : Int)))] a_ w_) (l.length) ⟨0, A2_, c2_, [], 0, by omega, by omega, rfl, Nat.zero_add _, hE239.pk, hW242, Fr.refl _ _ _⟩ ?_
        clear hE239
        rintro n244 a245 w246 ⟨q, A3_, c3_, dm, cn, hn249, hk250, hB2, hN2, hE247, hW248, hF251⟩
        refine go_sp [(0, .v (.slice A l.length c)), (1, .v (.int .i64 v)), (2, .v (.bool flex)), (7, .p 0 0), (9, .v (.slice A_ ((bodyB W l v (Tree.mk n1 s2 b3 l4 u5) 0).length) c_)), (10, .v (.slice A3_ ((tagsK W l (Tree.mk n1 s2 b3 l4 u5) k2 ++ dm).length) c3_)), (11, .v (.int .i64 ((tagsN W l (Tree.mk n1 s2 b3 l4 u5) k2 + cn : Nat) : Int))), (14, .v (.int .i64 ((k2 : Nat) : Int))), (51, .v (.int .i64 (((knownI l).toNat : Nat) : Int))), (52, .v (.int .i64 ((k2 : Nat) : Int))), (55, .v (.slice A l.length c)), (56, .v (.int .i64 ((l.length : Nat) : Int))), (57, .v (.int .i64 ((q : Nat) : Int))), (58, .v (.bool (decide (((q : Nat) : Int) < ((l.length : Nat) : Int)))))] hW248 hE247 fun a252 hE253 => ?_
        clear hE247
        refine wp_seq ?_
        refine cond_of hE253 (b := decide (((q : Nat) : Int) < ((l.length : Nat) : Int))) (by kernel_rfl) (fun hc254 => ?_) (fun hc254 => ?_)
        ·
          have hf255 := of_decide_eq_true hc254
          refine wp_skip ?_
          refine then_normal ?_
          refine wp_seq ?_
          refine wp_block ?_
          refine go_seq_region [0, 1, 2, 3, 4, 5] (by kernel_rfl) ?_
          refine go_rn [0] [1, 2, 3, 4, 5] [(0, .v (.slice A l.length c)), (1, .v (.int .i64 v)), (2, .v (.bool flex)), (7, .p 0 0), (9, .v (.slice A_ ((bodyB W l v (Tree.mk n1 s2 b3 l4 u5) 0).length) c_)), (10, .v (.slice A3_ ((tagsK W l (Tree.mk n1 s2 b3 l4 u5) k2 ++ dm).length) c3_)), (11, .v (.int .i64 ((tagsN W l (Tree.mk n1 s2 b3 l4 u5) k2 + cn : Nat) : Int))), (14, .v (.int .i64 ((k2 : Nat) : Int))), (51, .v (.int .i64 (((knownI l).toNat : Nat) : Int))), (52, .v (.int .i64 ((k2 : Nat) : Int))), (55, .v (.slice A l.length c)), (56, .v (.int .i64 ((l.length : Nat) : Int))), (57, .v (.int .i64 ((q : Nat) : Int))), (59, .v (.int .i64 ((q : Nat) : Int)))] hW248 hE253 fun a256 hE257 => ?_
          clear hE253
          obtain ⟨b258, o259, hA260, hl261, hat262⟩ := Slots.get h1 (i := q) (by omega)
          obtain ⟨x263, he264⟩ : ∃ x, l[q]? = some x := ⟨_, List.getElem?_eq_getElem (by omega)⟩
          have hr265 := h2 q x263 he264
          obtain ⟨k266, y267, y268, y269, y270, y271, y272, l273, A274, c275, xs276, rfl, hcs277, h278, h279⟩ := hr265.open_
          rw [hcs277] at hr265
          have hsm280 := h278.small
          rw [hcs277] at hat262
          refine of_op (wpOp_index hE257 (t := 29) (A := A) (m := l.length) (q := ((q : Nat) : Int)) (d := 60) (by kernel_rfl) (e := 56) (size := 8) (bytes := 80) (by kernel_rfl) hA260 rfl (by omega) fun a281 hE282 => ?_)
          clear hE257
          refine of_op (wpOp_load hE282 (t := 56) (b := b258) (o := o259 + q * 8) (d := 61) (by kernel_rfl) (cs := [.int .i64 k266, .int .i64 y267, .int .i64 y268, .int .i64 y269, .int .i64 y270, .int .i64 y271, .int .i64 y272, .slice A274 l273.length c275]) (v := .agg #[.int .i64 k266, .int .i64 y267, .int .i64 y268, .int .i64 y269, .int .i64 y270, .int .i64 y271, .int .i64 y272, .slice A274 l273.length c275]) (by kernel_rfl) (AtF.move hat262 hW248.step nilM keepF).at_ fun a283 hE284 => ?_)
          clear hE282
          refine of_op (wpOp_alloc hW248 hE284 (d := 16) (cs := [.int .i64 0, .int .i64 0, .int .i64 0, .int .i64 0, .int .i64 0, .int .i64 0, .int .i64 0, .slice none 0 0]) (by kernel_rfl) fun b285 a286 w287 hb288 hz289 hF290 hW291 hE292 => ?_)
          clear hE284 hW248
          refine go_rn [4] [5] [(0, .v (.slice A l.length c)), (1, .v (.int .i64 v)), (2, .v (.bool flex)), (7, .p 0 0), (9, .v (.slice A_ ((bodyB W l v (Tree.mk n1 s2 b3 l4 u5) 0).length) c_)), (10, .v (.slice A3_ ((tagsK W l (Tree.mk n1 s2 b3 l4 u5) k2 ++ dm).length) c3_)), (11, .v (.int .i64 ((tagsN W l (Tree.mk n1 s2 b3 l4 u5) k2 + cn : Nat) : Int))), (14, .v (.int .i64 ((k2 : Nat) : Int))), (15, .v (.int .i64 ((q : Nat) : Int))), (16, .p 1 0), (51, .v (.int .i64 (((knownI l).toNat : Nat) : Int))), (52, .v (.int .i64 ((k2 : Nat) : Int))), (55, .v (.slice A l.length c)), (56, .v (.int .i64 ((l.length : Nat) : Int))), (57, .v (.int .i64 ((q : Nat) : Int))), (61, .v (.agg #[.int .i64 k266, .int .i64 y267, .int .i64 y268, .int .i64 y269, .int .i64 y270, .int .i64 y271, .int .i64 y272, .slice A274 l273.length c275]))] hW291 hE292 fun a293 hE294 => ?_
          clear hE292
          refine of_op (wpOp_store hW291 hE294 (oi := 1) (cs := [.int .i64 k266, .int .i64 y267, .int .i64 y268, .int .i64 y269, .int .i64 y270, .int .i64 y271, .int .i64 y272, .slice A274 l273.length c275]) (by kernel_rfl) fun w295 hF296 hW297 hE298 => ?_)
          clear hE294 hW291
          refine wpOps_nil ?_
          refine then_normal ?_
          refine go_seq_drawK 12 (by kernel_rfl) hW297 fun w299 hF300 hW301 hT302 => ?_
          clear hW297
          refine go_rnD [0, 1, 2, 3, 4] [(0, .v (.slice A l.length c)), (1, .v (.int .i64 v)), (2, .v (.bool flex)), (7, .p 0 0), (9, .v (.slice A_ ((bodyB W l v (Tree.mk n1 s2 b3 l4 u5) 0).length) c_)), (10, .v (.slice A3_ ((tagsK W l (Tree.mk n1 s2 b3 l4 u5) k2 ++ dm).length) c3_)), (11, .v (.int .i64 ((tagsN W l (Tree.mk n1 s2 b3 l4 u5) k2 + cn : Nat) : Int))), (14, .v (.int .i64 ((k2 : Nat) : Int))), (15, .v (.int .i64 ((q : Nat) : Int))), (16, .p 1 0), (51, .v (.int .i64 (((knownI l).toNat : Nat) : Int))), (52, .v (.int .i64 ((k2 : Nat) : Int))), (55, .v (.slice A l.length c)), (56, .v (.int .i64 ((l.length : Nat) : Int))), (57, .v (.int .i64 ((q : Nat) : Int))), (66, .v (.bool (y270 == ((k2 : Nat) : Int))))] 7 (panicFree_then (panicFree_block (panicFree_then (panicFree_then (panicFree_block (panicFree_block (panicFree_then (panicFree_then (panicFree_block (panicFree_then panicFree_body)))))))))) (fun _ h => h.cells) hT302 hE298 fun a303 hE304 => ?_
          clear hE298
          refine (Bool.eq_false_or_eq_true (y270 == ((k2 : Nat) : Int))).elim (fun hc305 => ?_) (fun hc305 => ?_)
          ·
            have hf306 : y270 = ((k2 : Nat) : Int) := by simpa using hc305
            have hE307 := hE304.cast (env' := [(0, .v (.slice A l.length c)), (1, .v (.int .i64 v)), (2, .v (.bool flex)), (7, .p 0 0), (9, .v (.slice A_ ((bodyB W l v (Tree.mk n1 s2 b3 l4 u5) 0).length) c_)), (10, .v (.slice A3_ ((tagsK W l (Tree.mk n1 s2 b3 l4 u5) k2 ++ dm).length) c3_)), (11, .v (.int .i64 ((tagsN W l (Tree.mk n1 s2 b3 l4 u5) k2 + cn : Nat) : Int))), (14, .v (.int .i64 ((k2 : Nat) : Int))), (15, .v (.int .i64 ((q : Nat) : Int))), (16, .p 1 0), (51, .v (.int .i64 (((knownI l).toNat : Nat) : Int))), (52, .v (.int .i64 ((k2 : Nat) : Int))), (55, .v (.slice A l.length c)), (56, .v (.int .i64 ((l.length : Nat) : Int))), (57, .v (.int .i64 ((q : Nat) : Int))), (66, .v (.bool true))]) (by rw [hc305])
            clear hE304
            refine go_rnD [5, 6, 7] [(0, .v (.slice A l.length c)), (1, .v (.int .i64 v)), (2, .v (.bool flex)), (7, .p 0 0), (9, .v (.slice A_ ((bodyB W l v (Tree.mk n1 s2 b3 l4 u5) 0).length) c_)), (10, .v (.slice A3_ ((tagsK W l (Tree.mk n1 s2 b3 l4 u5) k2 ++ dm).length) c3_)), (11, .v (.int .i64 ((tagsN W l (Tree.mk n1 s2 b3 l4 u5) k2 + cn : Nat) : Int))), (14, .v (.int .i64 ((k2 : Nat) : Int))), (15, .v (.int .i64 ((q : Nat) : Int))), (16, .p 1 0), (51, .v (.int .i64 (((knownI l).toNat : Nat) : Int))), (52, .v (.int .i64 ((k2 : Nat) : Int))), (55, .v (.slice A l.length c)), (56, .v (.int .i64 ((l.length : Nat) : Int))), (57, .v (.int .i64 ((q : Nat) : Int))), (66, .v (.bool true)), (67, .v (.agg #[.int .i64 k266, .int .i64 y267, .int .i64 y268, .int .i64 y269, .int .i64 y270, .int .i64 y271, .int .i64 y272, .slice A274 l273.length c275])), (68, .v (.agg #[.int .i64 n1, .slice A6 s2.length c7, .bool b3, .slice A8 l4.length c9, .slice A10 u5.length c11])), (69, .v (.int .i64 ((q : Nat) : Int)))] 4 (panicFree_then (panicFree_block (panicFree_then (panicFree_then (panicFree_block (panicFree_block (panicFree_then (panicFree_then (panicFree_block (panicFree_then panicFree_body)))))))))) (fun _ h => h.cells) hT302 hE307 fun a308 hE309 => ?_
            clear hE307
            refine anyC_op (i := 8) (by kernel_rfl) (wpOp_call hE309 (f := 82) (vs := [.agg #[.int .i64 n1, .slice A6 s2.length c7, .bool b3, .slice A8 l4.length c9, .slice A10 u5.length c11], .int .i64 ((q : Nat) : Int)]) (d := 70) (by kernel_rfl) Tryz.call82 (sAt _ _ q _ _ (ht.move hW301.step nilM hW301.imm)) ?_)
            rintro e_ w313 ⟨cs312, rfl, hr311, hs310⟩
            have hr314 := hr311.move hs310 nilM (fun b o h_ hb_ => hW301.laid (G := F) hs310 b o (.inl h_) (Nat.lt_of_lt_of_le hb_ hs310.size))
            obtain ⟨n315, s316, b317, l318, u319, A320, c321, A322, c323, A324, c325, xs326, ht332, hcs327, h328, h329, h330, h331⟩ := hr314.open_
            rw [hcs327] at hr314
            have hsm333 := h328.small
            have hsm334 := h329.small
            rw [hcs327]
            refine ⟨_, rfl, fun a335 hE336 => ?_⟩
            have hW337 := hW301.next_nil hs310
            have hF338 := hW301.frN hs310
            clear hE309
            have hT339 := TT.ofW hF338 hW337
            refine ⟨fun _ => hT339, ?_⟩
            refine anyC_op (i := 9) (by kernel_rfl) (wpOp_call hE336 (f := 84) (vs := [.agg #[.int .i64 k266, .int .i64 y267, .int .i64 y268, .int .i64 y269, .int .i64 y270, .int .i64 y271, .int .i64 y272, .slice A274 l273.length c275], .agg #[.int .i64 n315, .slice A320 s316.length c321, .bool b317, .slice A322 l318.length c323, .slice A324 u319.length c325]]) (d := 71) (by kernel_rfl) Tryz.call84 (sUsual _ _ _ _ _ _ _ (hr265.move hW337.step nilM hW337.imm) (Nat.le_refl _) hr314) ?_)
            rintro e_ w341 ⟨rfl, hs340⟩
            refine ⟨_, rfl, fun a342 hE343 => ?_⟩
            have hW344 := hW337.next_nil hs340
            have hF345 := hW337.frN hs340
            clear hE336 hW337
            have hT346 := TT.ofW (Fr.trans hF338 hF345) hW344
            refine ⟨fun _ => hT346, ?_⟩
            refine go_rnD [10, 11] [(0, .v (.slice A l.length c)), (1, .v (.int .i64 v)), (2, .v (.bool flex)), (7, .p 0 0), (9, .v (.slice A_ ((bodyB W l v (Tree.mk n1 s2 b3 l4 u5) 0).length) c_)), (10, .v (.slice A3_ ((tagsK W l (Tree.mk n1 s2 b3 l4 u5) k2 ++ dm).length) c3_)), (11, .v (.int .i64 ((tagsN W l (Tree.mk n1 s2 b3 l4 u5) k2 + cn : Nat) : Int))), (14, .v (.int .i64 ((k2 : Nat) : Int))), (15, .v (.int .i64 ((q : Nat) : Int))), (16, .p 1 0), (51, .v (.int .i64 (((knownI l).toNat : Nat) : Int))), (52, .v (.int .i64 ((k2 : Nat) : Int))), (55, .v (.slice A l.length c)), (56, .v (.int .i64 ((l.length : Nat) : Int))), (57, .v (.int .i64 ((q : Nat) : Int))), (73, .v (.bool (!(Fld.usual (Fld.mk k266 y267 y268 y269 y270 y271 y272 l273) (Tree.at_ (Tree.mk n1 s2 b3 l4 u5) q)))))] 0 (panicFree_then (panicFree_block (panicFree_then (panicFree_then (panicFree_block (panicFree_block (panicFree_then (panicFree_then (panicFree_block (panicFree_then panicFree_body)))))))))) (fun _ h => h.cells) hT346 hE343 fun a347 hE348 => ?_
            clear hE343
            refine anyC_done (by kernel_rfl) ?_ _
            refine then_normal ?_
            refine cond_of hE348 (b := !(Fld.usual (Fld.mk k266 y267 y268 y269 y270 y271 y272 l273) (Tree.at_ (Tree.mk n1 s2 b3 l4 u5) q))) (by kernel_rfl) (fun hc349 => ?_) (fun hc349 => ?_)
            ·
              refine go_seq_drawK 7 (by kernel_rfl) hW344 fun w351 hF352 hW353 hT354 => ?_
              clear hW344
              refine go_rnD [0, 1, 2, 3, 4] [(0, .v (.slice A l.length c)), (1, .v (.int .i64 v)), (2, .v (.bool flex)), (7, .p 0 0), (9, .v (.slice A_ ((bodyB W l v (Tree.mk n1 s2 b3 l4 u5) 0).length) c_)), (10, .v (.slice A3_ ((tagsK W l (Tree.mk n1 s2 b3 l4 u5) k2 ++ dm).length) c3_)), (11, .v (.int .i64 ((tagsN W l (Tree.mk n1 s2 b3 l4 u5) k2 + cn : Nat) : Int))), (14, .v (.int .i64 ((k2 : Nat) : Int))), (51, .v (.int .i64 (((knownI l).toNat : Nat) : Int))), (52, .v (.int .i64 ((k2 : Nat) : Int))), (55, .v (.slice A l.length c)), (56, .v (.int .i64 ((l.length : Nat) : Int))), (57, .v (.int .i64 ((q : Nat) : Int))), (74, .v (.agg #[.int .i64 k266, .int .i64 y267, .int .i64 y268, .int .i64 y269, .int .i64 y270, .int .i64 y271, .int .i64 y272, .slice A274 l273.length c275])), (75, .v (.int .i64 v)), (76, .v (.bool flex)), (77, .v (.agg #[.int .i64 n1, .slice A6 s2.length c7, .bool b3, .slice A8 l4.length c9, .slice A10 u5.length c11])), (78, .v (.int .i64 ((q : Nat) : Int)))] 3 (panicFree_then (panicFree_block (panicFree_then (panicFree_then (panicFree_block (panicFree_block (panicFree_then (panicFree_then (panicFree_block (panicFree_then panicFree_body)))))))))) (fun _ h => h.cells) hT354 hE348 fun a355 hE356 => ?_
              clear hE348
              refine anyC_op (i := 5) (by kernel_rfl) (wpOp_call hE356 (f := 82) (vs := [.agg #[.int .i64 n1, .slice A6 s2.length c7, .bool b3, .slice A8 l4.length c9, .slice A10 u5.length c11], .int .i64 ((q : Nat) : Int)]) (d := 79) (by kernel_rfl) Tryz.call82 (sAt _ _ q _ _ (ht.move hW353.step nilM hW353.imm)) ?_)
              rintro e_ w360 ⟨cs359, rfl, hr358, hs357⟩
              have hr361 := hr358.move hs357 nilM (fun b o h_ hb_ => hW353.laid (G := F) hs357 b o (.inl h_) (Nat.lt_of_lt_of_le hb_ hs357.size))
              obtain ⟨n362, s363, b364, l365, u366, A367, c368, A369, c370, A371, c372, xs373, ht379, hcs374, h375, h376, h377, h378⟩ := hr361.open_
              rw [hcs374] at hr361
              have hsm380 := h375.small
              have hsm381 := h376.small
              rw [hcs374]
              refine ⟨_, rfl, fun a382 hE383 => ?_⟩
              have hW384 := hW353.next_nil hs357
              have hF385 := hW353.frN hs357
              clear hE356
              have hT386 := TT.ofW hF385 hW384
              refine ⟨fun _ => hT386, ?_⟩
              refine anyC_op (i := 6) (by kernel_rfl) (wpOp_call hE383 (f := 92) (vs := [.agg #[.int .i64 k266, .int .i64 y267, .int .i64 y268, .int .i64 y269, .int .i64 y270, .int .i64 y271, .int .i64 y272, .slice A274 l273.length c275], .int .i64 v, .bool flex, .agg #[.int .i64 n362, .slice A367 s363.length c368, .bool b364, .slice A369 l365.length c370, .slice A371 u366.length c372]]) (d := 80) (by kernel_rfl) Tryz.call92 ( hW_ _ _ _ _ _ _ (List.mem_of_getElem? he264) (hr265.move hW384.step nilM hW384.imm) hr361 (by have h_ := congrArg List.length hB2; rw [tagB_pos he264 (by omega) (by simpa using hc349)] at h_; simp only [List.length_append] at h_; omega)) ?_)
              rintro e_ w391 ⟨A389, c390, rfl, ho388, hs387⟩
              refine ⟨_, rfl, fun a392 hE393 => ?_⟩
              obtain ⟨hW394, hF395⟩ := hW384.frFresh hs387 (brow A389 c390 5 (W (Fld.mk k266 y267 y268 y269 y270 y271 y272 l273) (Tree.at_ (Tree.mk n1 s2 b3 l4 u5) q))) (Nat.le_refl _) ho388
              clear hE383 hW384
              have hlw396 : (W (Fld.mk k266 y267 y268 y269 y270 y271 y272 l273) (Tree.at_ (Tree.mk n1 s2 b3 l4 u5) q)).length ≤ 1099511627776 := by have h_ := congrArg List.length hB2; rw [tagB_pos he264 (by omega) (by simpa using hc349)] at h_; simp only [List.length_append] at h_; omega
              have hT397 := TT.ofW (Fr.trans hF385 hF395) hW394
              refine ⟨fun _ => hT397, ?_⟩
              refine anyC_op (i := 7) (by kernel_rfl) (wpOp_pure [0, 1, 2, 7, 9, 10, 11, 14, 17, 51, 52, 55, 56, 57] hW394.cells hE393 (env' := [(0, .v (.slice A l.length c)), (1, .v (.int .i64 v)), (2, .v (.bool flex)), (7, .p 0 0), (9, .v (.slice A_ ((bodyB W l v (Tree.mk n1 s2 b3 l4 u5) 0).length) c_)), (10, .v (.slice A3_ ((tagsK W l (Tree.mk n1 s2 b3 l4 u5) k2 ++ dm).length) c3_)), (11, .v (.int .i64 ((tagsN W l (Tree.mk n1 s2 b3 l4 u5) k2 + cn : Nat) : Int))), (14, .v (.int .i64 ((k2 : Nat) : Int))), (17, .v (.slice A389 ((W (Fld.mk k266 y267 y268 y269 y270 y271 y272 l273) (Tree.at_ (Tree.mk n1 s2 b3 l4 u5) q)).length) c390)), (51, .v (.int .i64 (((knownI l).toNat : Nat) : Int))), (52, .v (.int .i64 ((k2 : Nat) : Int))), (55, .v (.slice A l.length c)), (56, .v (.int .i64 ((l.length : Nat) : Int))), (57, .v (.int .i64 ((q : Nat) : Int)))]) (by kernel_rfl) fun a398 hE399 => ?_)
              clear hE393
              refine ⟨fun h => absurd rfl h, ?_⟩
              refine anyC_done (by kernel_rfl) ?_ _
              refine then_normal ?_
              refine go_seq_region [0, 1, 2, 3, 4, 5, 6, 7, 8, 9, 10, 11, 12] (by kernel_rfl) ?_
              refine go_rn [0, 1, 2] [3, 4, 5, 6, 7, 8, 9, 10, 11, 12] [(0, .v (.slice A l.length c)), (1, .v (.int .i64 v)), (2, .v (.bool flex)), (7, .p 0 0), (9, .v (.slice A_ ((bodyB W l v (Tree.mk n1 s2 b3 l4 u5) 0).length) c_)), (11, .v (.int .i64 ((tagsN W l (Tree.mk n1 s2 b3 l4 u5) k2 + cn : Nat) : Int))), (14, .v (.int .i64 ((k2 : Nat) : Int))), (17, .v (.slice A389 ((W (Fld.mk k266 y267 y268 y269 y270 y271 y272 l273) (Tree.at_ (Tree.mk n1 s2 b3 l4 u5) q)).length) c390)), (51, .v (.int .i64 (((knownI l).toNat : Nat) : Int))), (52, .v (.int .i64 ((k2 : Nat) : Int))), (55, .v (.slice A l.length c)), (56, .v (.int .i64 ((l.length : Nat) : Int))), (57, .v (.int .i64 ((q : Nat) : Int))), (81, .v (.slice A3_ ((tagsK W l (Tree.mk n1 s2 b3 l4 u5) k2 ++ dm).length) c3_)), (83, .v (.int .u64 (IntKind.u64.wrap ((k2 : Nat) : Int))))] hW394 hE399 fun a400 hE401 => ?_
              clear hE399
              have he402 : IntKind.u64.wrap ((k2 : Nat) : Int) = ((k2 : Nat) : Int) := by simp only [wrap_u64, wrap_u32, wrap_u16, IntKind.wrap_i64, IntKind.wrap_i32]; omega
              have hE404 := EnvOk.pick hE401 (ks := [0, 1, 2, 7, 9, 11, 14, 17, 51, 52, 55, 56, 57, 81, 83]) (env' := [(0, .v (.slice A l.length c)), (1, .v (.int .i64 v)), (2, .v (.bool flex)), (7, .p 0 0), (9, .v (.slice A_ ((bodyB W l v (Tree.mk n1 s2 b3 l4 u5) 0).length) c_)), (11, .v (.int .i64 ((tagsN W l (Tree.mk n1 s2 b3 l4 u5) k2 + cn : Nat) : Int))), (14, .v (.int .i64 ((k2 : Nat) : Int))), (17, .v (.slice A389 ((W (Fld.mk k266 y267 y268 y269 y270 y271 y272 l273) (Tree.at_ (Tree.mk n1 s2 b3 l4 u5) q)).length) c390)), (51, .v (.int .i64 (((knownI l).toNat : Nat) : Int))), (52, .v (.int .i64 ((k2 : Nat) : Int))), (55, .v (.slice A l.length c)), (56, .v (.int .i64 ((l.length : Nat) : Int))), (57, .v (.int .i64 ((q : Nat) : Int))), (81, .v (.slice A3_ ((tagsK W l (Tree.mk n1 s2 b3 l4 u5) k2 ++ dm).length) c3_)), (83, .v (.int .u64 (IntKind.u64.wrap ((k2 : Nat) : Int))))]) (by kernel_rfl)
              have hE403 := hE404.cast (env' := [(0, .v (.slice A l.length c)), (1, .v (.int .i64 v)), (2, .v (.bool flex)), (7, .p 0 0), (9, .v (.slice A_ ((bodyB W l v (Tree.mk n1 s2 b3 l4 u5) 0).length) c_)), (11, .v (.int .i64 ((tagsN W l (Tree.mk n1 s2 b3 l4 u5) k2 + cn : Nat) : Int))), (14, .v (.int .i64 ((k2 : Nat) : Int))), (17, .v (.slice A389 ((W (Fld.mk k266 y267 y268 y269 y270 y271 y272 l273) (Tree.at_ (Tree.mk n1 s2 b3 l4 u5) q)).length) c390)), (51, .v (.int .i64 (((knownI l).toNat : Nat) : Int))), (52, .v (.int .i64 ((k2 : Nat) : Int))), (55, .v (.slice A l.length c)), (56, .v (.int .i64 ((l.length : Nat) : Int))), (57, .v (.int .i64 ((q : Nat) : Int))), (81, .v (.slice A3_ ((tagsK W l (Tree.mk n1 s2 b3 l4 u5) k2 ++ dm).length) c3_)), (83, .v (.int .u64 ((k2 : Nat) : Int)))]) (by rw [he402])
              clear hE401 hE404
              refine of_op (wpOp_call hE403 (f := 94) (vs := [.int .u64 ((k2 : Nat) : Int)]) (d := 84) (by kernel_rfl) Tryz.call94 (sUvarint k2 (by omega) _) ?_)
              rintro e_ w409 ⟨A407, c408, rfl, ho406, hs405⟩
              refine ⟨_, rfl, fun a410 hE411 => ?_⟩
              obtain ⟨hW412, hF413⟩ := hW394.frFresh hs405 (brow A407 c408 5 (uv k2)) (Nat.le_refl _) ho406
              clear hE403 hW394
              refine of_op (wpOp_append hW412 hE411 (k := 1) (d := 85) (t := 22) (e := 5) (size := 1) (bytes := 1) (A := A3_) (As := A407) (m0 := ((tagsK W l (Tree.mk n1 s2 b3 l4 u5) k2 ++ dm).length)) (c := c3_) (m := ((uv k2).length)) (cs := c408) (xs := (bc (tagsK W l (Tree.mk n1 s2 b3 l4 u5) k2 ++ dm))) (news := bc (uv k2)) (by kernel_rfl) (by kernel_rfl) rfl (own_src (hW412.own 3 _ rfl) (bc_one _)) (own_cap (hW412.own 3 _ rfl)) (by have h_ := congrArg List.length hB2; rw [tagB_pos he264 (by omega) (by simpa using hc349)] at h_; simp only [List.length_append] at h_ ⊢; omega) fun A414 c415 a416 w417 hF418 hW419 hE420 => ?_)
              clear hE411 hW412
              have er421 : (⟨A414, c415, 5, 1, (tagsK W l (Tree.mk n1 s2 b3 l4 u5) k2 ++ dm).length + (uv k2).length, bc (tagsK W l (Tree.mk n1 s2 b3 l4 u5) k2 ++ dm) ++ bc (uv k2)⟩ : Rw) = brow A414 c415 5 (tagsK W l (Tree.mk n1 s2 b3 l4 u5) k2 ++ dm ++ (uv k2)) := brow_eq (rfl) rfl
              obtain ⟨hW422, hF424⟩ := hW419.rowEq 1 [brow A_ c_ 5 (bodyB W l v (Tree.mk n1 s2 b3 l4 u5) 0), brow A414 c415 5 (tagsK W l (Tree.mk n1 s2 b3 l4 u5) k2 ++ dm ++ (uv k2)), brow A389 c390 5 (W (Fld.mk k266 y267 y268 y269 y270 y271 y272 l273) (Tree.at_ (Tree.mk n1 s2 b3 l4 u5) q)), brow A407 c408 5 (uv k2)] er421
              clear hW419
              have hE425 := EnvOk.pick hE420 (ks := [0, 1, 2, 7, 9, 11, 14, 17, 51, 52, 55, 56, 57, 81, 83, 84, 85]) (env' := [(0, .v (.slice A l.length c)), (1, .v (.int .i64 v)), (2, .v (.bool flex)), (7, .p 0 0), (9, .v (.slice A_ ((bodyB W l v (Tree.mk n1 s2 b3 l4 u5) 0).length) c_)), (11, .v (.int .i64 ((tagsN W l (Tree.mk n1 s2 b3 l4 u5) k2 + cn : Nat) : Int))), (14, .v (.int .i64 ((k2 : Nat) : Int))), (17, .v (.slice A389 ((W (Fld.mk k266 y267 y268 y269 y270 y271 y272 l273) (Tree.at_ (Tree.mk n1 s2 b3 l4 u5) q)).length) c390)), (51, .v (.int .i64 (((knownI l).toNat : Nat) : Int))), (52, .v (.int .i64 ((k2 : Nat) : Int))), (55, .v (.slice A l.length c)), (56, .v (.int .i64 ((l.length : Nat) : Int))), (57, .v (.int .i64 ((q : Nat) : Int))), (81, .v (.slice A3_ ((tagsK W l (Tree.mk n1 s2 b3 l4 u5) k2 ++ dm).length) c3_)), (83, .v (.int .u64 ((k2 : Nat) : Int))), (84, .v (.slice A407 ((uv k2).length) c408)), (85, .v (.slice A414 ((tagsK W l (Tree.mk n1 s2 b3 l4 u5) k2 ++ dm).length + (uv k2).length) c415))]) (by kernel_rfl)
              have hE423 := hE425.cast (env' := [(0, .v (.slice A l.length c)), (1, .v (.int .i64 v)), (2, .v (.bool flex)), (7, .p 0 0), (9, .v (.slice A_ ((bodyB W l v (Tree.mk n1 s2 b3 l4 u5) 0).length) c_)), (11, .v (.int .i64 ((tagsN W l (Tree.mk n1 s2 b3 l4 u5) k2 + cn : Nat) : Int))), (14, .v (.int .i64 ((k2 : Nat) : Int))), (17, .v (.slice A389 ((W (Fld.mk k266 y267 y268 y269 y270 y271 y272 l273) (Tree.at_ (Tree.mk n1 s2 b3 l4 u5) q)).length) c390)), (51, .v (.int .i64 (((knownI l).toNat : Nat) : Int))), (52, .v (.int .i64 ((k2 : Nat) : Int))), (55, .v (.slice A l.length c)), (56, .v (.int .i64 ((l.length : Nat) : Int))), (57, .v (.int .i64 ((q : Nat) : Int))), (81, .v (.slice A3_ ((tagsK W l (Tree.mk n1 s2 b3 l4 u5) k2 ++ dm).length) c3_)), (83, .v (.int .u64 ((k2 : Nat) : Int))), (84, .v (.slice A407 ((uv k2).length) c408)), (85, .v (.slice A414 ((tagsK W l (Tree.mk n1 s2 b3 l4 u5) k2 ++ dm ++ (uv k2)).length) c415))]) (by simp only [List.length_append, List.length_cons, List.length_nil, Nat.zero_add])
              clear hE420
              clear hE425
              refine go_rn [5, 6, 7] [8, 9, 10, 11, 12] [(0, .v (.slice A l.length c)), (1, .v (.int .i64 v)), (2, .v (.bool flex)), (7, .p 0 0), (9, .v (.slice A_ ((bodyB W l v (Tree.mk n1 s2 b3 l4 u5) 0).length) c_)), (11, .v (.int .i64 ((tagsN W l (Tree.mk n1 s2 b3 l4 u5) k2 + cn : Nat) : Int))), (14, .v (.int .i64 ((k2 : Nat) : Int))), (17, .v (.slice A389 ((W (Fld.mk k266 y267 y268 y269 y270 y271 y272 l273) (Tree.at_ (Tree.mk n1 s2 b3 l4 u5) q)).length) c390)), (51, .v (.int .i64 (((knownI l).toNat : Nat) : Int))), (52, .v (.int .i64 ((k2 : Nat) : Int))), (55, .v (.slice A l.length c)), (56, .v (.int .i64 ((l.length : Nat) : Int))), (57, .v (.int .i64 ((q : Nat) : Int))), (85, .v (.slice A414 ((tagsK W l (Tree.mk n1 s2 b3 l4 u5) k2 ++ dm ++ (uv k2)).length) c415)), (88, .v (.int .u64 (IntKind.u64.wrap (((W (Fld.mk k266 y267 y268 y269 y270 y271 y272 l273) (Tree.at_ (Tree.mk n1 s2 b3 l4 u5) q)).length : Nat) : Int))))] hW422 hE423 fun a426 hE427 => ?_
              clear hE423
              have he428 : IntKind.u64.wrap (((W (Fld.mk k266 y267 y268 y269 y270 y271 y272 l273) (Tree.at_ (Tree.mk n1 s2 b3 l4 u5) q)).length : Nat) : Int) = (((W (Fld.mk k266 y267 y268 y269 y270 y271 y272 l273) (Tree.at_ (Tree.mk n1 s2 b3 l4 u5) q)).length : Nat) : Int) := by simp only [wrap_u64, wrap_u32, wrap_u16, IntKind.wrap_i64, IntKind.wrap_i32]; omega
              have hE430 := EnvOk.pick hE427 (ks := [0, 1, 2, 7, 9, 11, 14, 17, 51, 52, 55, 56, 57, 85, 88]) (env' := [(0, .v (.slice A l.length c)), (1, .v (.int .i64 v)), (2, .v (.bool flex)), (7, .p 0 0), (9, .v (.slice A_ ((bodyB W l v (Tree.mk n1 s2 b3 l4 u5) 0).length) c_)), (11, .v (.int .i64 ((tagsN W l (Tree.mk n1 s2 b3 l4 u5) k2 + cn : Nat) : Int))), (14, .v (.int .i64 ((k2 : Nat) : Int))), (17, .v (.slice A389 ((W (Fld.mk k266 y267 y268 y269 y270 y271 y272 l273) (Tree.at_ (Tree.mk n1 s2 b3 l4 u5) q)).length) c390)), (51, .v (.int .i64 (((knownI l).toNat : Nat) : Int))), (52, .v (.int .i64 ((k2 : Nat) : Int))), (55, .v (.slice A l.length c)), (56, .v (.int .i64 ((l.length : Nat) : Int))), (57, .v (.int .i64 ((q : Nat) : Int))), (85, .v (.slice A414 ((tagsK W l (Tree.mk n1 s2 b3 l4 u5) k2 ++ dm ++ (uv k2)).length) c415)), (88, .v (.int .u64 (IntKind.u64.wrap (((W (Fld.mk k266 y267 y268 y269 y270 y271 y272 l273) (Tree.at_ (Tree.mk n1 s2 b3 l4 u5) q)).length : Nat) : Int))))]) (by kernel_rfl)
              have hE429 := hE430.cast (env' := [(0, .v (.slice A l.length c)), (1, .v (.int .i64 v)), (2, .v (.bool flex)), (7, .p 0 0), (9, .v (.slice A_ ((bodyB W l v (Tree.mk n1 s2 b3 l4 u5) 0).length) c_)), (11, .v (.int .i64 ((tagsN W l (Tree.mk n1 s2 b3 l4 u5) k2 + cn : Nat) : Int))), (14, .v (.int .i64 ((k2 : Nat) : Int))), (17, .v (.slice A389 ((W (Fld.mk k266 y267 y268 y269 y270 y271 y272 l273) (Tree.at_ (Tree.mk n1 s2 b3 l4 u5) q)).length) c390)), (51, .v (.int .i64 (((knownI l).toNat : Nat) : Int))), (52, .v (.int .i64 ((k2 : Nat) : Int))), (55, .v (.slice A l.length c)), (56, .v (.int .i64 ((l.length : Nat) : Int))), (57, .v (.int .i64 ((q : Nat) : Int))), (85, .v (.slice A414 ((tagsK W l (Tree.mk n1 s2 b3 l4 u5) k2 ++ dm ++ (uv k2)).length) c415)), (88, .v (.int .u64 (((W (Fld.mk k266 y267 y268 y269 y270 y271 y272 l273) (Tree.at_ (Tree.mk n1 s2 b3 l4 u5) q)).length : Nat) : Int)))]) (by rw [he428])
              clear hE427 hE430
              refine of_op (wpOp_call hE429 (f := 94) (vs := [.int .u64 (((W (Fld.mk k266 y267 y268 y269 y270 y271 y272 l273) (Tree.at_ (Tree.mk n1 s2 b3 l4 u5) q)).length : Nat) : Int)]) (d := 89) (by kernel_rfl) Tryz.call94 (sUvarint ((W (Fld.mk k266 y267 y268 y269 y270 y271 y272 l273) (Tree.at_ (Tree.mk n1 s2 b3 l4 u5) q)).length) (by omega) _) ?_)
              rintro e_ w435 ⟨A433, c434, rfl, ho432, hs431⟩
              refine ⟨_, rfl, fun a436 hE437 => ?_⟩
              obtain ⟨hW438, hF439⟩ := hW422.frFresh hs431 (brow A433 c434 5 (uv ((W (Fld.mk k266 y267 y268 y269 y270 y271 y272 l273) (Tree.at_ (Tree.mk n1 s2 b3 l4 u5) q)).length))) (Nat.le_refl _) ho432
              clear hE429 hW422
              refine of_op (wpOp_append hW438 hE437 (k := 1) (d := 90) (t := 22) (e := 5) (size := 1) (bytes := 1) (A := A414) (As := A433) (m0 := ((tagsK W l (Tree.mk n1 s2 b3 l4 u5) k2 ++ dm ++ (uv k2)).length)) (c := c415) (m := ((uv ((W (Fld.mk k266 y267 y268 y269 y270 y271 y272 l273) (Tree.at_ (Tree.mk n1 s2 b3 l4 u5) q)).length)).length)) (cs := c434) (xs := (bc (tagsK W l (Tree.mk n1 s2 b3 l4 u5) k2 ++ dm ++ (uv k2)))) (news := bc (uv ((W (Fld.mk k266 y267 y268 y269 y270 y271 y272 l273) (Tree.at_ (Tree.mk n1 s2 b3 l4 u5) q)).length))) (by kernel_rfl) (by kernel_rfl) rfl (own_src (hW438.own 4 _ rfl) (bc_one _)) (own_cap (hW438.own 4 _ rfl)) (by have h_ := congrArg List.length hB2; rw [tagB_pos he264 (by omega) (by simpa using hc349)] at h_; simp only [List.length_append] at h_ ⊢; omega) fun A440 c441 a442 w443 hF444 hW445 hE446 => ?_)
              clear hE437 hW438
              have er447 : (⟨A440, c441, 5, 1, (tagsK W l (Tree.mk n1 s2 b3 l4 u5) k2 ++ dm ++ (uv k2)).length + (uv ((W (Fld.mk k266 y267 y268 y269 y270 y271 y272 l273) (Tree.at_ (Tree.mk n1 s2 b3 l4 u5) q)).length)).length, bc (tagsK W l (Tree.mk n1 s2 b3 l4 u5) k2 ++ dm ++ (uv k2)) ++ bc (uv ((W (Fld.mk k266 y267 y268 y269 y270 y271 y272 l273) (Tree.at_ (Tree.mk n1 s2 b3 l4 u5) q)).length))⟩ : Rw) = brow A440 c441 5 (tagsK W l (Tree.mk n1 s2 b3 l4 u5) k2 ++ dm ++ (uv k2) ++ (uv ((W (Fld.mk k266 y267 y268 y269 y270 y271 y272 l273) (Tree.at_ (Tree.mk n1 s2 b3 l4 u5) q)).length))) := brow_eq (rfl) rfl
              obtain ⟨hW448, hF450⟩ := hW445.rowEq 1 [brow A_ c_ 5 (bodyB W l v (Tree.mk n1 s2 b3 l4 u5) 0), brow A440 c441 5 (tagsK W l (Tree.mk n1 s2 b3 l4 u5) k2 ++ dm ++ (uv k2) ++ (uv ((W (Fld.mk k266 y267 y268 y269 y270 y271 y272 l273) (Tree.at_ (Tree.mk n1 s2 b3 l4 u5) q)).length))), brow A389 c390 5 (W (Fld.mk k266 y267 y268 y269 y270 y271 y272 l273) (Tree.at_ (Tree.mk n1 s2 b3 l4 u5) q)), brow A407 c408 5 (uv k2), brow A433 c434 5 (uv ((W (Fld.mk k266 y267 y268 y269 y270 y271 y272 l273) (Tree.at_ (Tree.mk n1 s2 b3 l4 u5) q)).length))] er447
              clear hW445
              have hE451 := EnvOk.pick hE446 (ks := [0, 1, 2, 7, 9, 11, 14, 17, 51, 52, 55, 56, 57, 85, 88, 89, 90]) (env' := [(0, .v (.slice A l.length c)), (1, .v (.int .i64 v)), (2, .v (.bool flex)), (7, .p 0 0), (9, .v (.slice A_ ((bodyB W l v (Tree.mk n1 s2 b3 l4 u5) 0).length) c_)), (11, .v (.int .i64 ((tagsN W l (Tree.mk n1 s2 b3 l4 u5) k2 + cn : Nat) : Int))), (14, .v (.int .i64 ((k2 : Nat) : Int))), (17, .v (.slice A389 ((W (Fld.mk k266 y267 y268 y269 y270 y271 y272 l273) (Tree.at_ (Tree.mk n1 s2 b3 l4 u5) q)).length) c390)), (51, .v (.int .i64 (((knownI l).toNat : Nat) : Int))), (52, .v (.int .i64 ((k2 : Nat) : Int))), (55, .v (.slice A l.length c)), (56, .v (.int .i64 ((l.length : Nat) : Int))), (57, .v (.int .i64 ((q : Nat) : Int))), (85, .v (.slice A414 ((tagsK W l (Tree.mk n1 s2 b3 l4 u5) k2 ++ dm ++ (uv k2)).length) c415)), (88, .v (.int .u64 (((W (Fld.mk k266 y267 y268 y269 y270 y271 y272 l273) (Tree.at_ (Tree.mk n1 s2 b3 l4 u5) q)).length : Nat) : Int))), (89, .v (.slice A433 ((uv ((W (Fld.mk k266 y267 y268 y269 y270 y271 y272 l273) (Tree.at_ (Tree.mk n1 s2 b3 l4 u5) q)).length)).length) c434)), (90, .v (.slice A440 ((tagsK W l (Tree.mk n1 s2 b3 l4 u5) k2 ++ dm ++ (uv k2)).length + (uv ((W (Fld.mk k266 y267 y268 y269 y270 y271 y272 l273) (Tree.at_ (Tree.mk n1 s2 b3 l4 u5) q)).length)).length) c441))]) (by kernel_rfl)
              have hE449 := hE451.cast (env' := [(0, .v (.slice A l.length c)), (1, .v (.int .i64 v)), (2, .v (.bool flex)), (7, .p 0 0), (9, .v (.slice A_ ((bodyB W l v (Tree.mk n1 s2 b3 l4 u5) 0).length) c_)), (11, .v (.int .i64 ((tagsN W l (Tree.mk n1 s2 b3 l4 u5) k2 + cn : Nat) : Int))), (14, .v (.int .i64 ((k2 : Nat) : Int))), (17, .v (.slice A389 ((W (Fld.mk k266 y267 y268 y269 y270 y271 y272 l273) (Tree.at_ (Tree.mk n1 s2 b3 l4 u5) q)).length) c390)), (51, .v (.int .i64 (((knownI l).toNat : Nat) : Int))), (52, .v (.int .i64 ((k2 : Nat) : Int))), (55, .v (.slice A l.length c)), (56, .v (.int .i64 ((l.length : Nat) : Int))), (57, .v (.int .i64 ((q : Nat) : Int))), (85, .v (.slice A414 ((tagsK W l (Tree.mk n1 s2 b3 l4 u5) k2 ++ dm ++ (uv k2)).length) c415)), (88, .v (.int .u64 (((W (Fld.mk k266 y267 y268 y269 y270 y271 y272 l273) (Tree.at_ (Tree.mk n1 s2 b3 l4 u5) q)).length : Nat) : Int))), (89, .v (.slice A433 ((uv ((W (Fld.mk k266 y267 y268 y269 y270 y271 y272 l273) (Tree.at_ (Tree.mk n1 s2 b3 l4 u5) q)).length)).length) c434)), (90, .v (.slice A440 ((tagsK W l (Tree.mk n1 s2 b3 l4 u5) k2 ++ dm ++ (uv k2) ++ (uv ((W (Fld.mk k266 y267 y268 y269 y270 y271 y272 l273) (Tree.at_ (Tree.mk n1 s2 b3 l4 u5) q)).length))).length) c441))]) (by simp only [List.length_append, List.length_cons, List.length_nil, Nat.zero_add])
              clear hE446
              clear hE451
              refine go_rn [10] [11, 12] [(0, .v (.slice A l.length c)), (1, .v (.int .i64 v)), (2, .v (.bool flex)), (7, .p 0 0), (9, .v (.slice A_ ((bodyB W l v (Tree.mk n1 s2 b3 l4 u5) 0).length) c_)), (11, .v (.int .i64 ((tagsN W l (Tree.mk n1 s2 b3 l4 u5) k2 + cn : Nat) : Int))), (14, .v (.int .i64 ((k2 : Nat) : Int))), (51, .v (.int .i64 (((knownI l).toNat : Nat) : Int))), (52, .v (.int .i64 ((k2 : Nat) : Int))), (55, .v (.slice A l.length c)), (56, .v (.int .i64 ((l.length : Nat) : Int))), (57, .v (.int .i64 ((q : Nat) : Int))), (90, .v (.slice A440 ((tagsK W l (Tree.mk n1 s2 b3 l4 u5) k2 ++ dm ++ (uv k2) ++ (uv ((W (Fld.mk k266 y267 y268 y269 y270 y271 y272 l273) (Tree.at_ (Tree.mk n1 s2 b3 l4 u5) q)).length))).length) c441)), (91, .v (.slice A389 ((W (Fld.mk k266 y267 y268 y269 y270 y271 y272 l273) (Tree.at_ (Tree.mk n1 s2 b3 l4 u5) q)).length) c390))] hW448 hE449 fun a452 hE453 => ?_
              clear hE449
              refine of_op (wpOp_append hW448 hE453 (k := 1) (d := 92) (t := 22) (e := 5) (size := 1) (bytes := 1) (A := A440) (As := A389) (m0 := ((tagsK W l (Tree.mk n1 s2 b3 l4 u5) k2 ++ dm ++ (uv k2) ++ (uv ((W (Fld.mk k266 y267 y268 y269 y270 y271 y272 l273) (Tree.at_ (Tree.mk n1 s2 b3 l4 u5) q)).length))).length)) (c := c441) (m := ((W (Fld.mk k266 y267 y268 y269 y270 y271 y272 l273) (Tree.at_ (Tree.mk n1 s2 b3 l4 u5) q)).length)) (cs := c390) (xs := (bc (tagsK W l (Tree.mk n1 s2 b3 l4 u5) k2 ++ dm ++ (uv k2) ++ (uv ((W (Fld.mk k266 y267 y268 y269 y270 y271 y272 l273) (Tree.at_ (Tree.mk n1 s2 b3 l4 u5) q)).length))))) (news := bc (W (Fld.mk k266 y267 y268 y269 y270 y271 y272 l273) (Tree.at_ (Tree.mk n1 s2 b3 l4 u5) q))) (by kernel_rfl) (by kernel_rfl) rfl (own_src (hW448.own 2 _ rfl) (bc_one _)) (own_cap (hW448.own 2 _ rfl)) (by have h_ := congrArg List.length hB2; rw [tagB_pos he264 (by omega) (by simpa using hc349)] at h_; simp only [List.length_append] at h_ ⊢; omega) fun A454 c455 a456 w457 hF458 hW459 hE460 => ?_)
              clear hE453 hW448
              have er461 : (⟨A454, c455, 5, 1, (tagsK W l (Tree.mk n1 s2 b3 l4 u5) k2 ++ dm ++ (uv k2) ++ (uv ((W (Fld.mk k266 y267 y268 y269 y270 y271 y272 l273) (Tree.at_ (Tree.mk n1 s2 b3 l4 u5) q)).length))).length + (W (Fld.mk k266 y267 y268 y269 y270 y271 y272 l273) (Tree.at_ (Tree.mk n1 s2 b3 l4 u5) q)).length, bc (tagsK W l (Tree.mk n1 s2 b3 l4 u5) k2 ++ dm ++ (uv k2) ++ (uv ((W (Fld.mk k266 y267 y268 y269 y270 y271 y272 l273) (Tree.at_ (Tree.mk n1 s2 b3 l4 u5) q)).length))) ++ bc (W (Fld.mk k266 y267 y268 y269 y270 y271 y272 l273) (Tree.at_ (Tree.mk n1 s2 b3 l4 u5) q))⟩ : Rw) = brow A454 c455 5 (tagsK W l (Tree.mk n1 s2 b3 l4 u5) k2 ++ dm ++ (uv k2) ++ (uv ((W (Fld.mk k266 y267 y268 y269 y270 y271 y272 l273) (Tree.at_ (Tree.mk n1 s2 b3 l4 u5) q)).length)) ++ (W (Fld.mk k266 y267 y268 y269 y270 y271 y272 l273) (Tree.at_ (Tree.mk n1 s2 b3 l4 u5) q))) := brow_eq (rfl) rfl
              obtain ⟨hW462, hF464⟩ := hW459.rowEq 1 [brow A_ c_ 5 (bodyB W l v (Tree.mk n1 s2 b3 l4 u5) 0), brow A454 c455 5 (tagsK W l (Tree.mk n1 s2 b3 l4 u5) k2 ++ dm ++ (uv k2) ++ (uv ((W (Fld.mk k266 y267 y268 y269 y270 y271 y272 l273) (Tree.at_ (Tree.mk n1 s2 b3 l4 u5) q)).length)) ++ (W (Fld.mk k266 y267 y268 y269 y270 y271 y272 l273) (Tree.at_ (Tree.mk n1 s2 b3 l4 u5) q))), brow A389 c390 5 (W (Fld.mk k266 y267 y268 y269 y270 y271 y272 l273) (Tree.at_ (Tree.mk n1 s2 b3 l4 u5) q)), brow A407 c408 5 (uv k2), brow A433 c434 5 (uv ((W (Fld.mk k266 y267 y268 y269 y270 y271 y272 l273) (Tree.at_ (Tree.mk n1 s2 b3 l4 u5) q)).length))] er461
              clear hW459
              have hE465 := EnvOk.pick hE460 (ks := [0, 1, 2, 7, 9, 11, 14, 51, 52, 55, 56, 57, 90, 91, 92]) (env' := [(0, .v (.slice A l.length c)), (1, .v (.int .i64 v)), (2, .v (.bool flex)), (7, .p 0 0), (9, .v (.slice A_ ((bodyB W l v (Tree.mk n1 s2 b3 l4 u5) 0).length) c_)), (11, .v (.int .i64 ((tagsN W l (Tree.mk n1 s2 b3 l4 u5) k2 + cn : Nat) : Int))), (14, .v (.int .i64 ((k2 : Nat) : Int))), (51, .v (.int .i64 (((knownI l).toNat : Nat) : Int))), (52, .v (.int .i64 ((k2 : Nat) : Int))), (55, .v (.slice A l.length c)), (56, .v (.int .i64 ((l.length : Nat) : Int))), (57, .v (.int .i64 ((q : Nat) : Int))), (90, .v (.slice A440 ((tagsK W l (Tree.mk n1 s2 b3 l4 u5) k2 ++ dm ++ (uv k2) ++ (uv ((W (Fld.mk k266 y267 y268 y269 y270 y271 y272 l273) (Tree.at_ (Tree.mk n1 s2 b3 l4 u5) q)).length))).length) c441)), (91, .v (.slice A389 ((W (Fld.mk k266 y267 y268 y269 y270 y271 y272 l273) (Tree.at_ (Tree.mk n1 s2 b3 l4 u5) q)).length) c390)), (92, .v (.slice A454 ((tagsK W l (Tree.mk n1 s2 b3 l4 u5) k2 ++ dm ++ (uv k2) ++ (uv ((W (Fld.mk k266 y267 y268 y269 y270 y271 y272 l273) (Tree.at_ (Tree.mk n1 s2 b3 l4 u5) q)).length))).length + (W (Fld.mk k266 y267 y268 y269 y270 y271 y272 l273) (Tree.at_ (Tree.mk n1 s2 b3 l4 u5) q)).length) c455))]) (by kernel_rfl)
              have hE463 := hE465.cast (env' := [(0, .v (.slice A l.length c)), (1, .v (.int .i64 v)), (2, .v (.bool flex)), (7, .p 0 0), (9, .v (.slice A_ ((bodyB W l v (Tree.mk n1 s2 b3 l4 u5) 0).length) c_)), (11, .v (.int .i64 ((tagsN W l (Tree.mk n1 s2 b3 l4 u5) k2 + cn : Nat) : Int))), (14, .v (.int .i64 ((k2 : Nat) : Int))), (51, .v (.int .i64 (((knownI l).toNat : Nat) : Int))), (52, .v (.int .i64 ((k2 : Nat) : Int))), (55, .v (.slice A l.length c)), (56, .v (.int .i64 ((l.length : Nat) : Int))), (57, .v (.int .i64 ((q : Nat) : Int))), (90, .v (.slice A440 ((tagsK W l (Tree.mk n1 s2 b3 l4 u5) k2 ++ dm ++ (uv k2) ++ (uv ((W (Fld.mk k266 y267 y268 y269 y270 y271 y272 l273) (Tree.at_ (Tree.mk n1 s2 b3 l4 u5) q)).length))).length) c441)), (91, .v (.slice A389 ((W (Fld.mk k266 y267 y268 y269 y270 y271 y272 l273) (Tree.at_ (Tree.mk n1 s2 b3 l4 u5) q)).length) c390)), (92, .v (.slice A454 ((tagsK W l (Tree.mk n1 s2 b3 l4 u5) k2 ++ dm ++ (uv k2) ++ (uv ((W (Fld.mk k266 y267 y268 y269 y270 y271 y272 l273) (Tree.at_ (Tree.mk n1 s2 b3 l4 u5) q)).length)) ++ (W (Fld.mk k266 y267 y268 y269 y270 y271 y272 l273) (Tree.at_ (Tree.mk n1 s2 b3 l4 u5) q))).length) c455))]) (by simp only [List.length_append, List.length_cons, List.length_nil, Nat.zero_add])
              clear hE460
              clear hE465
              refine go_rn [12] [] [(0, .v (.slice A l.length c)), (1, .v (.int .i64 v)), (2, .v (.bool flex)), (7, .p 0 0), (9, .v (.slice A_ ((bodyB W l v (Tree.mk n1 s2 b3 l4 u5) 0).length) c_)), (10, .v (.slice A454 ((tagsK W l (Tree.mk n1 s2 b3 l4 u5) k2 ++ dm ++ (uv k2) ++ (uv ((W (Fld.mk k266 y267 y268 y269 y270 y271 y272 l273) (Tree.at_ (Tree.mk n1 s2 b3 l4 u5) q)).length)) ++ (W (Fld.mk k266 y267 y268 y269 y270 y271 y272 l273) (Tree.at_ (Tree.mk n1 s2 b3 l4 u5) q))).length) c455)), (11, .v (.int .i64 ((tagsN W l (Tree.mk n1 s2 b3 l4 u5) k2 + cn : Nat) : Int))), (14, .v (.int .i64 ((k2 : Nat) : Int))), (51, .v (.int .i64 (((knownI l).toNat : Nat) : Int))), (52, .v (.int .i64 ((k2 : Nat) : Int))), (55, .v (.slice A l.length c)), (56, .v (.int .i64 ((l.length : Nat) : Int))), (57, .v (.int .i64 ((q : Nat) : Int)))] hW462 hE463 fun a466 hE467 => ?_
              clear hE463
              refine wpOps_nil ?_
              refine then_normal ?_
              refine go_region [0, 1, 2] (by kernel_rfl) ?_
              refine go_rn [0, 1, 2] [] [(0, .v (.slice A l.length c)), (1, .v (.int .i64 v)), (2, .v (.bool flex)), (7, .p 0 0), (9, .v (.slice A_ ((bodyB W l v (Tree.mk n1 s2 b3 l4 u5) 0).length) c_)), (10, .v (.slice A454 ((tagsK W l (Tree.mk n1 s2 b3 l4 u5) k2 ++ dm ++ (uv k2) ++ (uv ((W (Fld.mk k266 y267 y268 y269 y270 y271 y272 l273) (Tree.at_ (Tree.mk n1 s2 b3 l4 u5) q)).length)) ++ (W (Fld.mk k266 y267 y268 y269 y270 y271 y272 l273) (Tree.at_ (Tree.mk n1 s2 b3 l4 u5) q))).length) c455)), (11, .v (.int .i64 (IntKind.i64.wrap (((tagsN W l (Tree.mk n1 s2 b3 l4 u5) k2 + cn : Nat) : Int) + 1)))), (14, .v (.int .i64 ((k2 : Nat) : Int))), (51, .v (.int .i64 (((knownI l).toNat : Nat) : Int))), (52, .v (.int .i64 ((k2 : Nat) : Int))), (55, .v (.slice A l.length c)), (56, .v (.int .i64 ((l.length : Nat) : Int))), (57, .v (.int .i64 ((q : Nat) : Int)))] hW462 hE467 fun a468 hE469 => ?_
              clear hE467
              refine wpOps_nil ?_
              refine block_normal ?_
              refine then_normal ?_
              refine go_region [0, 1] (by kernel_rfl) ?_
              refine go_rn [0, 1] [] [(0, .v (.slice A l.length c)), (1, .v (.int .i64 v)), (2, .v (.bool flex)), (7, .p 0 0), (9, .v (.slice A_ ((bodyB W l v (Tree.mk n1 s2 b3 l4 u5) 0).length) c_)), (10, .v (.slice A454 ((tagsK W l (Tree.mk n1 s2 b3 l4 u5) k2 ++ dm ++ (uv k2) ++ (uv ((W (Fld.mk k266 y267 y268 y269 y270 y271 y272 l273) (Tree.at_ (Tree.mk n1 s2 b3 l4 u5) q)).length)) ++ (W (Fld.mk k266 y267 y268 y269 y270 y271 y272 l273) (Tree.at_ (Tree.mk n1 s2 b3 l4 u5) q))).length) c455)), (11, .v (.int .i64 (IntKind.i64.wrap (((tagsN W l (Tree.mk n1 s2 b3 l4 u5) k2 + cn : Nat) : Int) + 1)))), (14, .v (.int .i64 ((k2 : Nat) : Int))), (51, .v (.int .i64 (((knownI l).toNat : Nat) : Int))), (52, .v (.int .i64 ((k2 : Nat) : Int))), (55, .v (.slice A l.length c)), (56, .v (.int .i64 ((l.length : Nat) : Int))), (57, .v (.int .i64 (IntKind.i64.wrap (((q : Nat) : Int) + 1))))] hW462 hE469 fun a470 hE471 => ?_
              clear hE469
              refine wpOps_nil ?_
              refine then_normal ?_
              obtain ⟨hE472, hW473, hF474⟩ := hW462.cutB hE471 1 [⟨b21, 0, [.int .i64 n1, .slice A6 s2.length c7, .bool b3, .slice A8 l4.length c9, .slice A10 u5.length c11], true⟩] [(0, .v (.slice A l.length c)), (1, .v (.int .i64 v)), (2, .v (.bool flex)), (7, .p 0 0), (9, .v (.slice A_ ((bodyB W l v (Tree.mk n1 s2 b3 l4 u5) 0).length) c_)), (10, .v (.slice A454 ((tagsK W l (Tree.mk n1 s2 b3 l4 u5) k2 ++ dm ++ (uv k2) ++ (uv ((W (Fld.mk k266 y267 y268 y269 y270 y271 y272 l273) (Tree.at_ (Tree.mk n1 s2 b3 l4 u5) q)).length)) ++ (W (Fld.mk k266 y267 y268 y269 y270 y271 y272 l273) (Tree.at_ (Tree.mk n1 s2 b3 l4 u5) q))).length) c455)), (11, .v (.int .i64 (IntKind.i64.wrap (((tagsN W l (Tree.mk n1 s2 b3 l4 u5) k2 + cn : Nat) : Int) + 1)))), (14, .v (.int .i64 ((k2 : Nat) : Int))), (51, .v (.int .i64 (((knownI l).toNat : Nat) : Int))), (52, .v (.int .i64 ((k2 : Nat) : Int))), (55, .v (.slice A l.length c)), (56, .v (.int .i64 ((l.length : Nat) : Int))), (57, .v (.int .i64 (IntKind.i64.wrap (((q : Nat) : Int) + 1))))]
              obtain ⟨hW475, hF476⟩ := hW473.cutR 2 [brow A_ c_ 5 (bodyB W l v (Tree.mk n1 s2 b3 l4 u5) 0), brow A454 c455 5 (tagsK W l (Tree.mk n1 s2 b3 l4 u5) k2 ++ dm ++ (uv k2) ++ (uv ((W (Fld.mk k266 y267 y268 y269 y270 y271 y272 l273) (Tree.at_ (Tree.mk n1 s2 b3 l4 u5) q)).length)) ++ (W (Fld.mk k266 y267 y268 y269 y270 y271 y272 l273) (Tree.at_ (Tree.mk n1 s2 b3 l4 u5) q)))]
              have er477 : (tagsK W l (Tree.mk n1 s2 b3 l4 u5) k2 ++ dm ++ (uv k2) ++ (uv ((W (Fld.mk k266 y267 y268 y269 y270 y271 y272 l273) (Tree.at_ (Tree.mk n1 s2 b3 l4 u5) q)).length)) ++ (W (Fld.mk k266 y267 y268 y269 y270 y271 y272 l273) (Tree.at_ (Tree.mk n1 s2 b3 l4 u5) q))) = (tagsK W l (Tree.mk n1 s2 b3 l4 u5) k2 ++ (dm ++ (uv k2 ++ uv (W (Fld.mk k266 y267 y268 y269 y270 y271 y272 l273) (Tree.at_ (Tree.mk n1 s2 b3 l4 u5) q)).length ++ W (Fld.mk k266 y267 y268 y269 y270 y271 y272 l273) (Tree.at_ (Tree.mk n1 s2 b3 l4 u5) q)))) := by simp only [List.append_assoc]
              have er478 := congrArg (brow A454 c455 5) er477
              obtain ⟨hW479, hF480⟩ := hW475.rowEq 1 [brow A_ c_ 5 (bodyB W l v (Tree.mk n1 s2 b3 l4 u5) 0), brow A454 c455 5 (tagsK W l (Tree.mk n1 s2 b3 l4 u5) k2 ++ (dm ++ (uv k2 ++ uv (W (Fld.mk k266 y267 y268 y269 y270 y271 y272 l273) (Tree.at_ (Tree.mk n1 s2 b3 l4 u5) q)).length ++ W (Fld.mk k266 y267 y268 y269 y270 y271 y272 l273) (Tree.at_ (Tree.mk n1 s2 b3 l4 u5) q))))] er478
              clear hW475
              rw [er477] at hE472
              have he481 : IntKind.i64.wrap (((q : Nat) : Int) + 1) = ((q + 1 : Nat) : Int) := wrap_succ (by omega)
              rw [he481] at hE472
              have he482 : IntKind.i64.wrap (((tagsN W l (Tree.mk n1 s2 b3 l4 u5) k2 + cn : Nat) : Int) + 1) = ((tagsN W l (Tree.mk n1 s2 b3 l4 u5) k2 + (cn + 1) : Nat) : Int) := by rw [wrap_i64 (by omega) (by omega)]; omega
              rw [he482] at hE472
              exact ⟨l.length - (q + 1), by omega, q + 1, A454, c455, (dm ++ (uv k2 ++ uv (W (Fld.mk k266 y267 y268 y269 y270 y271 y272 l273) (Tree.at_ (Tree.mk n1 s2 b3 l4 u5) q)).length ++ W (Fld.mk k266 y267 y268 y269 y270 y271 y272 l273) (Tree.at_ (Tree.mk n1 s2 b3 l4 u5) q))), (cn + 1), rfl, by omega, by rw [List.append_assoc, ← tagB_pos he264 (by omega) (by simpa using hc349)]; exact hB2, by rw [Nat.add_assoc, ← tagN_pos he264 (by omega) (by simpa using hc349)]; exact hN2, hE472.pk, hW479, (Fr.trans (Fr.trans (Fr.trans (Fr.trans (Fr.trans (Fr.trans (Fr.trans (Fr.trans (Fr.trans (Fr.trans (Fr.trans (Fr.trans (Fr.trans (Fr.trans (Fr.trans (Fr.trans (Fr.trans (Fr.trans (Fr.trans hF251 hF290) hF296) hF300) hF338) hF345) hF352) hF385) hF395) hF413) hF418) hF424) hF439) hF444) hF450) hF458) hF464) hF474) hF476) hF480)⟩
            ·
              refine wp_skip ?_
              refine block_normal ?_
              refine then_normal ?_
              refine go_region [0, 1] (by kernel_rfl) ?_
              refine go_rn [0, 1] [] [(0, .v (.slice A l.length c)), (1, .v (.int .i64 v)), (2, .v (.bool flex)), (7, .p 0 0), (9, .v (.slice A_ ((bodyB W l v (Tree.mk n1 s2 b3 l4 u5) 0).length) c_)), (10, .v (.slice A3_ ((tagsK W l (Tree.mk n1 s2 b3 l4 u5) k2 ++ dm).length) c3_)), (11, .v (.int .i64 ((tagsN W l (Tree.mk n1 s2 b3 l4 u5) k2 + cn : Nat) : Int))), (14, .v (.int .i64 ((k2 : Nat) : Int))), (51, .v (.int .i64 (((knownI l).toNat : Nat) : Int))), (52, .v (.int .i64 ((k2 : Nat) : Int))), (55, .v (.slice A l.length c)), (56, .v (.int .i64 ((l.length : Nat) : Int))), (57, .v (.int .i64 (IntKind.i64.wrap (((q : Nat) : Int) + 1))))] hW344 hE348 fun a484 hE485 => ?_
              clear hE348
              refine wpOps_nil ?_
              refine then_normal ?_
              obtain ⟨hE486, hW487, hF488⟩ := hW344.cutB hE485 1 [⟨b21, 0, [.int .i64 n1, .slice A6 s2.length c7, .bool b3, .slice A8 l4.length c9, .slice A10 u5.length c11], true⟩] [(0, .v (.slice A l.length c)), (1, .v (.int .i64 v)), (2, .v (.bool flex)), (7, .p 0 0), (9, .v (.slice A_ ((bodyB W l v (Tree.mk n1 s2 b3 l4 u5) 0).length) c_)), (10, .v (.slice A3_ ((tagsK W l (Tree.mk n1 s2 b3 l4 u5) k2 ++ dm).length) c3_)), (11, .v (.int .i64 ((tagsN W l (Tree.mk n1 s2 b3 l4 u5) k2 + cn : Nat) : Int))), (14, .v (.int .i64 ((k2 : Nat) : Int))), (51, .v (.int .i64 (((knownI l).toNat : Nat) : Int))), (52, .v (.int .i64 ((k2 : Nat) : Int))), (55, .v (.slice A l.length c)), (56, .v (.int .i64 ((l.length : Nat) : Int))), (57, .v (.int .i64 (IntKind.i64.wrap (((q : Nat) : Int) + 1))))]
              have he489 : IntKind.i64.wrap (((q : Nat) : Int) + 1) = ((q + 1 : Nat) : Int) := wrap_succ (by omega)
              rw [he489] at hE486
              exact ⟨l.length - (q + 1), by omega, q + 1, A3_, c3_, dm, cn, rfl, by omega, by rw [← tagB_neg2 he264 (by simpa using hc349)]; exact hB2, by rw [← tagN_neg2 he264 (by simpa using hc349)]; exact hN2, hE486.pk, hW487, (Fr.trans (Fr.trans (Fr.trans (Fr.trans (Fr.trans (Fr.trans hF251 hF290) hF296) hF300) hF338) hF345) hF488)⟩
          ·
            have hf490 : y270 ≠ ((k2 : Nat) : Int) := by simpa using hc305
            have hE491 := hE304.cast (env' := [(0, .v (.slice A l.length c)), (1, .v (.int .i64 v)), (2, .v (.bool flex)), (7, .p 0 0), (9, .v (.slice A_ ((bodyB W l v (Tree.mk n1 s2 b3 l4 u5) 0).length) c_)), (10, .v (.slice A3_ ((tagsK W l (Tree.mk n1 s2 b3 l4 u5) k2 ++ dm).length) c3_)), (11, .v (.int .i64 ((tagsN W l (Tree.mk n1 s2 b3 l4 u5) k2 + cn : Nat) : Int))), (14, .v (.int .i64 ((k2 : Nat) : Int))), (15, .v (.int .i64 ((q : Nat) : Int))), (16, .p 1 0), (51, .v (.int .i64 (((knownI l).toNat : Nat) : Int))), (52, .v (.int .i64 ((k2 : Nat) : Int))), (55, .v (.slice A l.length c)), (56, .v (.int .i64 ((l.length : Nat) : Int))), (57, .v (.int .i64 ((q : Nat) : Int))), (66, .v (.bool false))]) (by rw [hc305])
            clear hE304
            refine go_rnD [5, 6, 7, 8, 9, 10, 11] [(0, .v (.slice A l.length c)), (1, .v (.int .i64 v)), (2, .v (.bool flex)), (7, .p 0 0), (9, .v (.slice A_ ((bodyB W l v (Tree.mk n1 s2 b3 l4 u5) 0).length) c_)), (10, .v (.slice A3_ ((tagsK W l (Tree.mk n1 s2 b3 l4 u5) k2 ++ dm).length) c3_)), (11, .v (.int .i64 ((tagsN W l (Tree.mk n1 s2 b3 l4 u5) k2 + cn : Nat) : Int))), (14, .v (.int .i64 ((k2 : Nat) : Int))), (15, .v (.int .i64 ((q : Nat) : Int))), (16, .p 1 0), (51, .v (.int .i64 (((knownI l).toNat : Nat) : Int))), (52, .v (.int .i64 ((k2 : Nat) : Int))), (55, .v (.slice A l.length c)), (56, .v (.int .i64 ((l.length : Nat) : Int))), (57, .v (.int .i64 ((q : Nat) : Int))), (73, .v (.bool false))] 0 (panicFree_then (panicFree_block (panicFree_then (panicFree_then (panicFree_block (panicFree_block (panicFree_then (panicFree_then (panicFree_block (panicFree_then panicFree_body)))))))))) (fun _ h => h.cells) hT302 hE491 fun a492 hE493 => ?_
            clear hE491
            refine anyC_done (by kernel_rfl) ?_ _
            refine then_normal ?_
            refine cond_false hE493 (b := false) (by kernel_rfl) rfl ?_
            refine wp_skip ?_
            refine block_normal ?_
            refine then_normal ?_
            refine go_region [0, 1] (by kernel_rfl) ?_
            refine go_rn [0, 1] [] [(0, .v (.slice A l.length c)), (1, .v (.int .i64 v)), (2, .v (.bool flex)), (7, .p 0 0), (9, .v (.slice A_ ((bodyB W l v (Tree.mk n1 s2 b3 l4 u5) 0).length) c_)), (10, .v (.slice A3_ ((tagsK W l (Tree.mk n1 s2 b3 l4 u5) k2 ++ dm).length) c3_)), (11, .v (.int .i64 ((tagsN W l (Tree.mk n1 s2 b3 l4 u5) k2 + cn : Nat) : Int))), (14, .v (.int .i64 ((k2 : Nat) : Int))), (51, .v (.int .i64 (((knownI l).toNat : Nat) : Int))), (52, .v (.int .i64 ((k2 : Nat) : Int))), (55, .v (.slice A l.length c)), (56, .v (.int .i64 ((l.length : Nat) : Int))), (57, .v (.int .i64 (IntKind.i64.wrap (((q : Nat) : Int) + 1))))] hW301 hE493 fun a494 hE495 => ?_
            clear hE493
            refine wpOps_nil ?_
            refine then_normal ?_
            obtain ⟨hE496, hW497, hF498⟩ := hW301.cutB hE495 1 [⟨b21, 0, [.int .i64 n1, .slice A6 s2.length c7, .bool b3, .slice A8 l4.length c9, .slice A10 u5.length c11], true⟩] [(0, .v (.slice A l.length c)), (1, .v (.int .i64 v)), (2, .v (.bool flex)), (7, .p 0 0), (9, .v (.slice A_ ((bodyB W l v (Tree.mk n1 s2 b3 l4 u5) 0).length) c_)), (10, .v (.slice A3_ ((tagsK W l (Tree.mk n1 s2 b3 l4 u5) k2 ++ dm).length) c3_)), (11, .v (.int .i64 ((tagsN W l (Tree.mk n1 s2 b3 l4 u5) k2 + cn : Nat) : Int))), (14, .v (.int .i64 ((k2 : Nat) : Int))), (51, .v (.int .i64 (((knownI l).toNat : Nat) : Int))), (52, .v (.int .i64 ((k2 : Nat) : Int))), (55, .v (.slice A l.length c)), (56, .v (.int .i64 ((l.length : Nat) : Int))), (57, .v (.int .i64 (IntKind.i64.wrap (((q : Nat) : Int) + 1))))]
            have he499 : IntKind.i64.wrap (((q : Nat) : Int) + 1) = ((q + 1 : Nat) : Int) := wrap_succ (by omega)
            rw [he499] at hE496
            exact ⟨l.length - (q + 1), by omega, q + 1, A3_, c3_, dm, cn, rfl, by omega, by rw [← tagB_neg1 he264 (by omega)]; exact hB2, by rw [← tagN_neg1 he264 (by omega)]; exact hN2, hE496.pk, hW497, (Fr.trans (Fr.trans (Fr.trans (Fr.trans hF251 hF290) hF296) hF300) hF498)⟩
        ·
          have hf500 := of_decide_eq_false hc254
          refine wp_exit ?_
          refine then_exit ?_
          refine then_exit ?_
          refine block_exit ?_
          refine block_normal ?_
          refine then_normal ?_
          refine go_region [0, 1] (by kernel_rfl) ?_
          refine go_rn [0, 1] [] [(0, .v (.slice A l.length c)), (1, .v (.int .i64 v)), (2, .v (.bool flex)), (7, .p 0 0), (9, .v (.slice A_ ((bodyB W l v (Tree.mk n1 s2 b3 l4 u5) 0).length) c_)), (10, .v (.slice A3_ ((tagsK W l (Tree.mk n1 s2 b3 l4 u5) k2 ++ dm).length) c3_)), (11, .v (.int .i64 ((tagsN W l (Tree.mk n1 s2 b3 l4 u5) k2 + cn : Nat) : Int))), (51, .v (.int .i64 (((knownI l).toNat : Nat) : Int))), (52, .v (.int .i64 (IntKind.i64.wrap (((k2 : Nat) : Int) + 1))))] hW248 hE253 fun a501 hE502 => ?_
          clear hE253
          refine wpOps_nil ?_
          refine then_normal ?_
          have er503 : (tagsK W l (Tree.mk n1 s2 b3 l4 u5) k2 ++ dm) = (tagsK W l (Tree.mk n1 s2 b3 l4 u5) (k2 + 1)) := by rw [tagsK, ← hB2, tagB_end (by omega), List.append_nil]
          have er504 := congrArg (brow A3_ c3_ 5) er503
          obtain ⟨hW505, hF506⟩ := hW248.rowEq 1 [brow A_ c_ 5 (bodyB W l v (Tree.mk n1 s2 b3 l4 u5) 0), brow A3_ c3_ 5 (tagsK W l (Tree.mk n1 s2 b3 l4 u5) (k2 + 1))] er504
          clear hW248
          rw [er503] at hE502
          have he507 : IntKind.i64.wrap (((k2 : Nat) : Int) + 1) = ((k2 + 1 : Nat) : Int) := wrap_succ (by omega)
          rw [he507] at hE502
          have he508 : ((tagsN W l (Tree.mk n1 s2 b3 l4 u5) k2 + cn : Nat) : Int) = ((tagsN W l (Tree.mk n1 s2 b3 l4 u5) (k2 + 1) : Nat) : Int) := by rw [tagsN, ← hN2, tagN_end (by omega), Nat.add_zero]
          rw [he508] at hE502
          exact ⟨(knownI l).toNat - (k2 + 1), by omega, k2 + 1, A3_, c3_, rfl, by omega, hE502.pk, hW505, (Fr.trans (Fr.trans (Fr.trans hF231 hF243) hF251) hF506)⟩
      ·
        have hf509 := of_decide_eq_false hc234
        refine wp_exit ?_
        refine then_exit ?_
        refine then_exit ?_
        refine block_exit ?_
        refine then_normal ?_
        refine wp_seq ?_
        refine go_seq_region [0, 1, 2, 3, 4, 5] (by kernel_rfl) ?_
        refine go_rn [0, 1, 2] [3, 4, 5] [(9, .v (.slice A_ ((bodyB W l v (Tree.mk n1 s2 b3 l4 u5) 0).length) c_)), (10, .v (.slice A2_ ((tagsK W l (Tree.mk n1 s2 b3 l4 u5) k2).length) c2_)), (11, .v (.int .i64 ((tagsN W l (Tree.mk n1 s2 b3 l4 u5) k2 : Nat) : Int))), (97, .v (.slice A l.length c)), (99, .v (.slice A10 u5.length c11))] hW228 hE233 fun a510 hE511 => ?_
        clear hE233
        refine of_op (wpOp_call hE511 (f := 87) (vs := [.slice A l.length c, .slice A10 u5.length c11]) (d := 100) (by kernel_rfl) Tryz.call87 (sUnknown _ _ l _ _ u5 _ _ ⟨xfs, (h1.move hW228.step nilM hW228.imm), (fun i_ x_ h_ => ((h2 i_ x_ h_).move hW228.step nilM hW228.imm))⟩ (h17.move hW228.step nilM hW228.imm)) ?_)
        rintro e_ w516 ⟨A514, c515, rfl, hr513, hs512⟩
        have hr517 := hr513.move (Step.refl _ Nil) nilM (hW228.laid (G := F) hs512)
        refine ⟨_, rfl, fun a518 hE519 => ?_⟩
        have hW520 := hW228.next_nil hs512
        have hF521 := hW228.frN hs512
        clear hE511
        refine go_rn [4, 5] [] [(9, .v (.slice A_ ((bodyB W l v (Tree.mk n1 s2 b3 l4 u5) 0).length) c_)), (10, .v (.slice A2_ ((tagsK W l (Tree.mk n1 s2 b3 l4 u5) k2).length) c2_)), (11, .v (.int .i64 ((tagsN W l (Tree.mk n1 s2 b3 l4 u5) k2 : Nat) : Int))), (100, .v (.slice A514 ((unknownT l u5).length) c515)), (101, .v (.int .i64 (((unknownT l u5).length : Nat) : Int))), (102, .v (.int .i64 0))] hW520 hE519 fun a522 hE523 => ?_
        clear hE519
        refine wpOps_nil ?_
        refine then_normal ?_
        refine wp_block ?_
        obtain ⟨cs524, h525, h526⟩ := hr517.ex
        have hsm527 := h525.small
        have hkk2 : k2 = (knownI l).toNat := by omega
        have hc2 := hcnt k2
        have hm2 := hmono k2 (by omega)
        have er528 : (tagsK W l (Tree.mk n1 s2 b3 l4 u5) k2) = (tagsK W l (Tree.mk n1 s2 b3 l4 u5) k2 ++ tagsB ((unknownT l u5).take 0)) := (List.append_nil _).symm
        have er529 := congrArg (brow A2_ c2_ 5) er528
        obtain ⟨hW530, hF531⟩ := hW520.rowEq 1 [brow A_ c_ 5 (bodyB W l v (Tree.mk n1 s2 b3 l4 u5) 0), brow A2_ c2_ 5 (tagsK W l (Tree.mk n1 s2 b3 l4 u5) k2 ++ tagsB ((unknownT l u5).take 0))] er529
        clear hW520
        rw [er528] at hE523
        refine wp_loop_ghost (fun n_ a_ w_ => ∃ (k : Nat) (A4_ : Option Addr) (c4_ : Nat), n_ = (unknownT l u5).length - k ∧ k ≤ (unknownT l u5).length ∧ LInv hW530 132 [⟨b21, 0, [.int .i64 n1, .slice A6 s2.length c7, .bool b3, .slice A8 l4.length c9, .slice A10 u5.length c11], true⟩] [brow A_ c_ 5 (bodyB W l v (Tree.mk n1 s2 b3 l4 u5) 0), brow A4_ c4_ 5 (tagsK W l (Tree.mk n1 s2 b3 l4 u5) k2 ++ tagsB ((unknownT l u5).take k))] [(9, .v (.slice A_ ((bodyB W l v (Tree.mk n1 s2 b3 l4 u5) 0).length) c_)), (10, .v (.slice A4_ ((tagsK W l (Tree.mk n1 s2 b3 l4 u5) k2 ++ tagsB ((unknownT l u5).take k)).length) c4_)), (11, .v (.int .i64 ((tagsN W l (Tree.mk n1 s2 b3 l4 u5) k2 + k : Nat) : Int))), (100, .v (.slice A514 ((unknownT l u5).length) c515)), (101, .v (.int .i64 (((unknownT l u5).length : Nat) : Int))), (102, .v (.int .i64 ((k : Nat) : Int)))] a_ w_) ((unknownT l u5).length) ⟨0, A2_, c2_, by omega, by omega, hE523.pk, hW530, Fr.refl _ _ _⟩ ?_
        clear hE523
        rintro n532 a533 w534 ⟨k, A4_, c4_, hn537, hk538, hE535, hW536, hF539⟩
        refine go_sp [(9, .v (.slice A_ ((bodyB W l v (Tree.mk n1 s2 b3 l4 u5) 0).length) c_)), (10, .v (.slice A4_ ((tagsK W l (Tree.mk n1 s2 b3 l4 u5) k2 ++ tagsB ((unknownT l u5).take k)).length) c4_)), (11, .v (.int .i64 ((tagsN W l (Tree.mk n1 s2 b3 l4 u5) k2 + k : Nat) : Int))), (100, .v (.slice A514 ((unknownT l u5).length) c515)), (101, .v (.int .i64 (((unknownT l u5).length : Nat) : Int))), (102, .v (.int .i64 ((k : Nat) : Int))), (103, .v (.bool (decide (((k : Nat) : Int) < (((unknownT l u5).length : Nat) : Int)))))] hW536 hE535 fun a540 hE541 => ?_
        clear hE535
        refine wp_seq ?_
        refine cond_of hE541 (b := decide (((k : Nat) : Int) < (((unknownT l u5).length : Nat) : Int))) (by kernel_rfl) (fun hc542 => ?_) (fun hc542 => ?_)
        ·
          have hf543 := of_decide_eq_true hc542
          refine wp_skip ?_
          refine then_normal ?_
          refine wp_seq ?_
          refine wp_block ?_
          refine go_seq_region [0, 1, 2, 3] (by kernel_rfl) ?_
          obtain ⟨b544, o545, hA546, hl547, hat548⟩ := Slots.get h525 (i := k) (by omega)
          obtain ⟨⟨k549, s550⟩, he551⟩ : ∃ x, (unknownT l u5)[k]? = some x := ⟨_, List.getElem?_eq_getElem (by omega)⟩
          obtain ⟨⟨A552, c553, hcs554, hb555⟩, h556, h557⟩ := h526 k k549 s550 he551
          rw [hcs554] at hat548
          refine of_op (wpOp_index hE541 (t := 24) (A := A514) (m := ((unknownT l u5).length)) (q := ((k : Nat) : Int)) (d := 104) (by kernel_rfl) (e := 83) (size := 2) (bytes := 32) (by kernel_rfl) hA546 rfl (by omega) fun a558 hE559 => ?_)
          clear hE541
          refine of_op (wpOp_load hE559 (t := 83) (b := b544) (o := o545 + k * 2) (d := 105) (by kernel_rfl) (cs := [.int .u32 k549, .slice A552 s550.length c553]) (v := .agg #[.int .u32 k549, .slice A552 s550.length c553]) (by kernel_rfl) (AtF.move hat548 (Fr.trans hF531 hF539).step immM (Fr.trans hF531 hF539).to').at_ fun a560 hE561 => ?_)
          clear hE559
          refine of_op (wpOp_alloc hW536 hE561 (d := 19) (cs := [.int .u32 0, .slice none 0 0]) (by kernel_rfl) fun b562 a563 w564 hb565 hz566 hF567 hW568 hE569 => ?_)
          clear hE561 hW536
          refine of_op (wpOp_store hW568 hE569 (oi := 1) (cs := [.int .u32 k549, .slice A552 s550.length c553]) (by kernel_rfl) fun w570 hF571 hW572 hE573 => ?_)
          clear hE569 hW568
          refine wpOps_nil ?_
          refine then_normal ?_
          refine go_seq_region [0, 1, 2, 3] (by kernel_rfl) ?_
          refine go_rn [0, 1] [2, 3] [(9, .v (.slice A_ ((bodyB W l v (Tree.mk n1 s2 b3 l4 u5) 0).length) c_)), (10, .v (.slice A4_ ((tagsK W l (Tree.mk n1 s2 b3 l4 u5) k2 ++ tagsB ((unknownT l u5).take k)).length) c4_)), (11, .v (.int .i64 ((tagsN W l (Tree.mk n1 s2 b3 l4 u5) k2 + k : Nat) : Int))), (19, .p 1 0), (100, .v (.slice A514 ((unknownT l u5).length) c515)), (101, .v (.int .i64 (((unknownT l u5).length : Nat) : Int))), (102, .v (.int .i64 ((k : Nat) : Int))), (107, .v (.slice A552 s550.length c553))] hW572 hE573 fun a574 hE575 => ?_
          clear hE573
          have hwl577 := whole_le s550
          refine of_op (wpOp_call hE575 (f := 88) (vs := [.slice A552 s550.length c553]) (d := 108) (by kernel_rfl) Tryz.call88 (sWhole _ _ s550 (hb555.move (Fr.trans (Fr.trans (Fr.trans hF531 hF539) hF567) hF571).step immM (Fr.trans (Fr.trans (Fr.trans hF531 hF539) hF567) hF571).to').le _) ?_)
          rintro e_ w578 ⟨rfl, hs576⟩
          refine ⟨_, rfl, fun a579 hE580 => ?_⟩
          have hW581 := hW572.next_nil hs576
          have hF582 := hW572.frN hs576
          clear hE575 hW572
          refine go_rn [3] [] [(9, .v (.slice A_ ((bodyB W l v (Tree.mk n1 s2 b3 l4 u5) 0).length) c_)), (10, .v (.slice A4_ ((tagsK W l (Tree.mk n1 s2 b3 l4 u5) k2 ++ tagsB ((unknownT l u5).take k)).length) c4_)), (11, .v (.int .i64 ((tagsN W l (Tree.mk n1 s2 b3 l4 u5) k2 + k : Nat) : Int))), (19, .p 1 0), (20, .v (.slice A552 ((whole s550).length) c553)), (100, .v (.slice A514 ((unknownT l u5).length) c515)), (101, .v (.int .i64 (((unknownT l u5).length : Nat) : Int))), (102, .v (.int .i64 ((k : Nat) : Int)))] hW581 hE580 fun a583 hE584 => ?_
          clear hE580
          refine wpOps_nil ?_
          refine then_normal ?_
          refine go_seq_region [0, 1, 2, 3, 4, 5, 6, 7, 8, 9, 10, 11, 12, 13] (by kernel_rfl) ?_
          refine go_rn [0, 1, 2, 3] [4, 5, 6, 7, 8, 9, 10, 11, 12, 13] [(9, .v (.slice A_ ((bodyB W l v (Tree.mk n1 s2 b3 l4 u5) 0).length) c_)), (11, .v (.int .i64 ((tagsN W l (Tree.mk n1 s2 b3 l4 u5) k2 + k : Nat) : Int))), (20, .v (.slice A552 ((whole s550).length) c553)), (100, .v (.slice A514 ((unknownT l u5).length) c515)), (101, .v (.int .i64 (((unknownT l u5).length : Nat) : Int))), (102, .v (.int .i64 ((k : Nat) : Int))), (109, .v (.slice A4_ ((tagsK W l (Tree.mk n1 s2 b3 l4 u5) k2 ++ tagsB ((unknownT l u5).take k)).length) c4_)), (112, .v (.int .u64 (IntKind.u64.wrap k549)))] hW581 hE584 fun a585 hE586 => ?_
          clear hE584
          have he587 : IntKind.u64.wrap k549 = ((k549.toNat : Nat) : Int) := by simp only [wrap_u64, wrap_u32, wrap_u16, IntKind.wrap_i64, IntKind.wrap_i32]; omega
          have hE589 := EnvOk.pick hE586 (ks := [9, 11, 20, 100, 101, 102, 109, 112]) (env' := [(9, .v (.slice A_ ((bodyB W l v (Tree.mk n1 s2 b3 l4 u5) 0).length) c_)), (11, .v (.int .i64 ((tagsN W l (Tree.mk n1 s2 b3 l4 u5) k2 + k : Nat) : Int))), (20, .v (.slice A552 ((whole s550).length) c553)), (100, .v (.slice A514 ((unknownT l u5).length) c515)), (101, .v (.int .i64 (((unknownT l u5).length : Nat) : Int))), (102, .v (.int .i64 ((k : Nat) : Int))), (109, .v (.slice A4_ ((tagsK W l (Tree.mk n1 s2 b3 l4 u5) k2 ++ tagsB ((unknownT l u5).take k)).length) c4_)), (112, .v (.int .u64 (IntKind.u64.wrap k549)))]) (by kernel_rfl)
          have hE588 := hE589.cast (env' := [(9, .v (.slice A_ ((bodyB W l v (Tree.mk n1 s2 b3 l4 u5) 0).length) c_)), (11, .v (.int .i64 ((tagsN W l (Tree.mk n1 s2 b3 l4 u5) k2 + k : Nat) : Int))), (20, .v (.slice A552 ((whole s550).length) c553)), (100, .v (.slice A514 ((unknownT l u5).length) c515)), (101, .v (.int .i64 (((unknownT l u5).length : Nat) : Int))), (102, .v (.int .i64 ((k : Nat) : Int))), (109, .v (.slice A4_ ((tagsK W l (Tree.mk n1 s2 b3 l4 u5) k2 ++ tagsB ((unknownT l u5).take k)).length) c4_)), (112, .v (.int .u64 ((k549.toNat : Nat) : Int)))]) (by rw [he587])
          clear hE586 hE589
          refine of_op (wpOp_call hE588 (f := 94) (vs := [.int .u64 ((k549.toNat : Nat) : Int)]) (d := 113) (by kernel_rfl) Tryz.call94 (sUvarint k549.toNat (by omega) _) ?_)
          rintro e_ w594 ⟨A592, c593, rfl, ho591, hs590⟩
          refine ⟨_, rfl, fun a595 hE596 => ?_⟩
          obtain ⟨hW597, hF598⟩ := hW581.frFresh hs590 (brow A592 c593 5 (uv k549.toNat)) (Nat.le_refl _) ho591
          clear hE588 hW581
          refine of_op (wpOp_append hW597 hE596 (k := 1) (d := 114) (t := 22) (e := 5) (size := 1) (bytes := 1) (A := A4_) (As := A592) (m0 := ((tagsK W l (Tree.mk n1 s2 b3 l4 u5) k2 ++ tagsB ((unknownT l u5).take k)).length)) (c := c4_) (m := ((uv k549.toNat).length)) (cs := c593) (xs := (bc (tagsK W l (Tree.mk n1 s2 b3 l4 u5) k2 ++ tagsB ((unknownT l u5).take k)))) (news := bc (uv k549.toNat)) (by kernel_rfl) (by kernel_rfl) rfl (own_src (hW597.own 2 _ rfl) (bc_one _)) (own_cap (hW597.own 2 _ rfl)) (by have h_ := tagsB_le (l := (unknownT l u5)) (k + 1); rw [tagsB_succ he551] at h_; simp only [List.length_append] at h_ ⊢; omega) fun A599 c600 a601 w602 hF603 hW604 hE605 => ?_)
          clear hE596 hW597
          have er606 : (⟨A599, c600, 5, 1, (tagsK W l (Tree.mk n1 s2 b3 l4 u5) k2 ++ tagsB ((unknownT l u5).take k)).length + (uv k549.toNat).length, bc (tagsK W l (Tree.mk n1 s2 b3 l4 u5) k2 ++ tagsB ((unknownT l u5).take k)) ++ bc (uv k549.toNat)⟩ : Rw) = brow A599 c600 5 (tagsK W l (Tree.mk n1 s2 b3 l4 u5) k2 ++ tagsB ((unknownT l u5).take k) ++ (uv k549.toNat)) := brow_eq (rfl) rfl
          obtain ⟨hW607, hF609⟩ := hW604.rowEq 1 [brow A_ c_ 5 (bodyB W l v (Tree.mk n1 s2 b3 l4 u5) 0), brow A599 c600 5 (tagsK W l (Tree.mk n1 s2 b3 l4 u5) k2 ++ tagsB ((unknownT l u5).take k) ++ (uv k549.toNat)), brow A592 c593 5 (uv k549.toNat)] er606
          clear hW604
          have hE610 := EnvOk.pick hE605 (ks := [9, 11, 20, 100, 101, 102, 109, 112, 113, 114]) (env' := [(9, .v (.slice A_ ((bodyB W l v (Tree.mk n1 s2 b3 l4 u5) 0).length) c_)), (11, .v (.int .i64 ((tagsN W l (Tree.mk n1 s2 b3 l4 u5) k2 + k : Nat) : Int))), (20, .v (.slice A552 ((whole s550).length) c553)), (100, .v (.slice A514 ((unknownT l u5).length) c515)), (101, .v (.int .i64 (((unknownT l u5).length : Nat) : Int))), (102, .v (.int .i64 ((k : Nat) : Int))), (109, .v (.slice A4_ ((tagsK W l (Tree.mk n1 s2 b3 l4 u5) k2 ++ tagsB ((unknownT l u5).take k)).length) c4_)), (112, .v (.int .u64 ((k549.toNat : Nat) : Int))), (113, .v (.slice A592 ((uv k549.toNat).length) c593)), (114, .v (.slice A599 ((tagsK W l (Tree.mk n1 s2 b3 l4 u5) k2 ++ tagsB ((unknownT l u5).take k)).length + (uv k549.toNat).length) c600))]) (by kernel_rfl)
          have hE608 := hE610.cast (env' := [(9, .v (.slice A_ ((bodyB W l v (Tree.mk n1 s2 b3 l4 u5) 0).length) c_)), (11, .v (.int .i64 ((tagsN W l (Tree.mk n1 s2 b3 l4 u5) k2 + k : Nat) : Int))), (20, .v (.slice A552 ((whole s550).length) c553)), (100, .v (.slice A514 ((unknownT l u5).length) c515)), (101, .v (.int .i64 (((unknownT l u5).length : Nat) : Int))), (102, .v (.int .i64 ((k : Nat) : Int))), (109, .v (.slice A4_ ((tagsK W l (Tree.mk n1 s2 b3 l4 u5) k2 ++ tagsB ((unknownT l u5).take k)).length) c4_)), (112, .v (.int .u64 ((k549.toNat : Nat) : Int))), (113, .v (.slice A592 ((uv k549.toNat).length) c593)), (114, .v (.slice A599 ((tagsK W l (Tree.mk n1 s2 b3 l4 u5) k2 ++ tagsB ((unknownT l u5).take k) ++ (uv k549.toNat)).length) c600))]) (by simp only [List.length_append, List.length_cons, List.length_nil, Nat.zero_add])
          clear hE605
          clear hE610
          refine go_rn [6, 7, 8] [9, 10, 11, 12, 13] [(9, .v (.slice A_ ((bodyB W l v (Tree.mk n1 s2 b3 l4 u5) 0).length) c_)), (11, .v (.int .i64 ((tagsN W l (Tree.mk n1 s2 b3 l4 u5) k2 + k : Nat) : Int))), (20, .v (.slice A552 ((whole s550).length) c553)), (100, .v (.slice A514 ((unknownT l u5).length) c515)), (101, .v (.int .i64 (((unknownT l u5).length : Nat) : Int))), (102, .v (.int .i64 ((k : Nat) : Int))), (114, .v (.slice A599 ((tagsK W l (Tree.mk n1 s2 b3 l4 u5) k2 ++ tagsB ((unknownT l u5).take k) ++ (uv k549.toNat)).length) c600)), (117, .v (.int .u64 (IntKind.u64.wrap (((whole s550).length : Nat) : Int))))] hW607 hE608 fun a611 hE612 => ?_
          clear hE608
          have he613 : IntKind.u64.wrap (((whole s550).length : Nat) : Int) = (((whole s550).length : Nat) : Int) := by simp only [wrap_u64, wrap_u32, wrap_u16, IntKind.wrap_i64, IntKind.wrap_i32]; omega
          have hE615 := EnvOk.pick hE612 (ks := [9, 11, 20, 100, 101, 102, 114, 117]) (env' := [(9, .v (.slice A_ ((bodyB W l v (Tree.mk n1 s2 b3 l4 u5) 0).length) c_)), (11, .v (.int .i64 ((tagsN W l (Tree.mk n1 s2 b3 l4 u5) k2 + k : Nat) : Int))), (20, .v (.slice A552 ((whole s550).length) c553)), (100, .v (.slice A514 ((unknownT l u5).length) c515)), (101, .v (.int .i64 (((unknownT l u5).length : Nat) : Int))), (102, .v (.int .i64 ((k : Nat) : Int))), (114, .v (.slice A599 ((tagsK W l (Tree.mk n1 s2 b3 l4 u5) k2 ++ tagsB ((unknownT l u5).take k) ++ (uv k549.toNat)).length) c600)), (117, .v (.int .u64 (IntKind.u64.wrap (((whole s550).length : Nat) : Int))))]) (by kernel_rfl)
          have hE614 := hE615.cast (env' := [(9, .v (.slice A_ ((bodyB W l v (Tree.mk n1 s2 b3 l4 u5) 0).length) c_)), (11, .v (.int .i64 ((tagsN W l (Tree.mk n1 s2 b3 l4 u5) k2 + k : Nat) : Int))), (20, .v (.slice A552 ((whole s550).length) c553)), (100, .v (.slice A514 ((unknownT l u5).length) c515)), (101, .v (.int .i64 (((unknownT l u5).length : Nat) : Int))), (102, .v (.int .i64 ((k : Nat) : Int))), (114, .v (.slice A599 ((tagsK W l (Tree.mk n1 s2 b3 l4 u5) k2 ++ tagsB ((unknownT l u5).take k) ++ (uv k549.toNat)).length) c600)), (117, .v (.int .u64 (((whole s550).length : Nat) : Int)))]) (by rw [he613])
          clear hE612 hE615
          refine of_op (wpOp_call hE614 (f := 94) (vs := [.int .u64 (((whole s550).length : Nat) : Int)]) (d := 118) (by kernel_rfl) Tryz.call94 (sUvarint ((whole s550).length) (by omega) _) ?_)
          rintro e_ w620 ⟨A618, c619, rfl, ho617, hs616⟩
          refine ⟨_, rfl, fun a621 hE622 => ?_⟩
          obtain ⟨hW623, hF624⟩ := hW607.frFresh hs616 (brow A618 c619 5 (uv ((whole s550).length))) (Nat.le_refl _) ho617
          clear hE614 hW607
          refine of_op (wpOp_append hW623 hE622 (k := 1) (d := 119) (t := 22) (e := 5) (size := 1) (bytes := 1) (A := A599) (As := A618) (m0 := ((tagsK W l (Tree.mk n1 s2 b3 l4 u5) k2 ++ tagsB ((unknownT l u5).take k) ++ (uv k549.toNat)).length)) (c := c600) (m := ((uv ((whole s550).length)).length)) (cs := c619) (xs := (bc (tagsK W l (Tree.mk n1 s2 b3 l4 u5) k2 ++ tagsB ((unknownT l u5).take k) ++ (uv k549.toNat)))) (news := bc (uv ((whole s550).length))) (by kernel_rfl) (by kernel_rfl) rfl (own_src (hW623.own 3 _ rfl) (bc_one _)) (own_cap (hW623.own 3 _ rfl)) (by have h_ := tagsB_le (l := (unknownT l u5)) (k + 1); rw [tagsB_succ he551] at h_; simp only [List.length_append] at h_ ⊢; omega) fun A625 c626 a627 w628 hF629 hW630 hE631 => ?_)
          clear hE622 hW623
          have er632 : (⟨A625, c626, 5, 1, (tagsK W l (Tree.mk n1 s2 b3 l4 u5) k2 ++ tagsB ((unknownT l u5).take k) ++ (uv k549.toNat)).length + (uv ((whole s550).length)).length, bc (tagsK W l (Tree.mk n1 s2 b3 l4 u5) k2 ++ tagsB ((unknownT l u5).take k) ++ (uv k549.toNat)) ++ bc (uv ((whole s550).length))⟩ : Rw) = brow A625 c626 5 (tagsK W l (Tree.mk n1 s2 b3 l4 u5) k2 ++ tagsB ((unknownT l u5).take k) ++ (uv k549.toNat) ++ (uv ((whole s550).length))) := brow_eq (rfl) rfl
          obtain ⟨hW633, hF635⟩ := hW630.rowEq 1 [brow A_ c_ 5 (bodyB W l v (Tree.mk n1 s2 b3 l4 u5) 0), brow A625 c626 5 (tagsK W l (Tree.mk n1 s2 b3 l4 u5) k2 ++ tagsB ((unknownT l u5).take k) ++ (uv k549.toNat) ++ (uv ((whole s550).length))), brow A592 c593 5 (uv k549.toNat), brow A618 c619 5 (uv ((whole s550).length))] er632
          clear hW630
          have hE636 := EnvOk.pick hE631 (ks := [9, 11, 20, 100, 101, 102, 114, 117, 118, 119]) (env' := [(9, .v (.slice A_ ((bodyB W l v (Tree.mk n1 s2 b3 l4 u5) 0).length) c_)), (11, .v (.int .i64 ((tagsN W l (Tree.mk n1 s2 b3 l4 u5) k2 + k : Nat) : Int))), (20, .v (.slice A552 ((whole s550).length) c553)), (100, .v (.slice A514 ((unknownT l u5).length) c515)), (101, .v (.int .i64 (((unknownT l u5).length : Nat) : Int))), (102, .v (.int .i64 ((k : Nat) : Int))), (114, .v (.slice A599 ((tagsK W l (Tree.mk n1 s2 b3 l4 u5) k2 ++ tagsB ((unknownT l u5).take k) ++ (uv k549.toNat)).length) c600)), (117, .v (.int .u64 (((whole s550).length : Nat) : Int))), (118, .v (.slice A618 ((uv ((whole s550).length)).length) c619)), (119, .v (.slice A625 ((tagsK W l (Tree.mk n1 s2 b3 l4 u5) k2 ++ tagsB ((unknownT l u5).take k) ++ (uv k549.toNat)).length + (uv ((whole s550).length)).length) c626))]) (by kernel_rfl)
          have hE634 := hE636.cast (env' := [(9, .v (.slice A_ ((bodyB W l v (Tree.mk n1 s2 b3 l4 u5) 0).length) c_)), (11, .v (.int .i64 ((tagsN W l (Tree.mk n1 s2 b3 l4 u5) k2 + k : Nat) : Int))), (20, .v (.slice A552 ((whole s550).length) c553)), (100, .v (.slice A514 ((unknownT l u5).length) c515)), (101, .v (.int .i64 (((unknownT l u5).length : Nat) : Int))), (102, .v (.int .i64 ((k : Nat) : Int))), (114, .v (.slice A599 ((tagsK W l (Tree.mk n1 s2 b3 l4 u5) k2 ++ tagsB ((unknownT l u5).take k) ++ (uv k549.toNat)).length) c600)), (117, .v (.int .u64 (((whole s550).length : Nat) : Int))), (118, .v (.slice A618 ((uv ((whole s550).length)).length) c619)), (119, .v (.slice A625 ((tagsK W l (Tree.mk n1 s2 b3 l4 u5) k2 ++ tagsB ((unknownT l u5).take k) ++ (uv k549.toNat) ++ (uv ((whole s550).length))).length) c626))]) (by simp only [List.length_append, List.length_cons, List.length_nil, Nat.zero_add])
          clear hE631
          clear hE636
          refine go_rn [11] [12, 13] [(9, .v (.slice A_ ((bodyB W l v (Tree.mk n1 s2 b3 l4 u5) 0).length) c_)), (11, .v (.int .i64 ((tagsN W l (Tree.mk n1 s2 b3 l4 u5) k2 + k : Nat) : Int))), (100, .v (.slice A514 ((unknownT l u5).length) c515)), (101, .v (.int .i64 (((unknownT l u5).length : Nat) : Int))), (102, .v (.int .i64 ((k : Nat) : Int))), (119, .v (.slice A625 ((tagsK W l (Tree.mk n1 s2 b3 l4 u5) k2 ++ tagsB ((unknownT l u5).take k) ++ (uv k549.toNat) ++ (uv ((whole s550).length))).length) c626)), (120, .v (.slice A552 ((whole s550).length) c553))] hW633 hE634 fun a637 hE638 => ?_
          clear hE634
          refine of_op (wpOp_append hW633 hE638 (k := 1) (d := 121) (t := 22) (e := 5) (size := 1) (bytes := 1) (A := A625) (As := A552) (m0 := ((tagsK W l (Tree.mk n1 s2 b3 l4 u5) k2 ++ tagsB ((unknownT l u5).take k) ++ (uv k549.toNat) ++ (uv ((whole s550).length))).length)) (c := c626) (m := ((whole s550).length)) (cs := c553) (xs := (bc (tagsK W l (Tree.mk n1 s2 b3 l4 u5) k2 ++ tagsB ((unknownT l u5).take k) ++ (uv k549.toNat) ++ (uv ((whole s550).length))))) (news := bc (whole s550)) (by kernel_rfl) (by kernel_rfl) rfl ((hb555.take 32767).move (Fr.trans (Fr.trans (Fr.trans (Fr.trans (Fr.trans (Fr.trans (Fr.trans (Fr.trans (Fr.trans (Fr.trans hF531 hF539) hF567) hF571) hF582) hF598) hF603) hF609) hF624) hF629) hF635).step immM (Fr.trans (Fr.trans (Fr.trans (Fr.trans (Fr.trans (Fr.trans (Fr.trans (Fr.trans (Fr.trans (Fr.trans hF531 hF539) hF567) hF571) hF582) hF598) hF603) hF609) hF624) hF629) hF635).to').src ((hb555.take 32767).move (Fr.trans (Fr.trans (Fr.trans (Fr.trans (Fr.trans (Fr.trans (Fr.trans (Fr.trans (Fr.trans (Fr.trans hF531 hF539) hF567) hF571) hF582) hF598) hF603) hF609) hF624) hF629) hF635).step immM (Fr.trans (Fr.trans (Fr.trans (Fr.trans (Fr.trans (Fr.trans (Fr.trans (Fr.trans (Fr.trans (Fr.trans hF531 hF539) hF567) hF571) hF582) hF598) hF603) hF609) hF624) hF629) hF635).to').cap (by have h_ := tagsB_le (l := (unknownT l u5)) (k + 1); rw [tagsB_succ he551] at h_; simp only [List.length_append] at h_ ⊢; omega) fun A639 c640 a641 w642 hF643 hW644 hE645 => ?_)
          clear hE638 hW633
          have er646 : (⟨A639, c640, 5, 1, (tagsK W l (Tree.mk n1 s2 b3 l4 u5) k2 ++ tagsB ((unknownT l u5).take k) ++ (uv k549.toNat) ++ (uv ((whole s550).length))).length + (whole s550).length, bc (tagsK W l (Tree.mk n1 s2 b3 l4 u5) k2 ++ tagsB ((unknownT l u5).take k) ++ (uv k549.toNat) ++ (uv ((whole s550).length))) ++ bc (whole s550)⟩ : Rw) = brow A639 c640 5 (tagsK W l (Tree.mk n1 s2 b3 l4 u5) k2 ++ tagsB ((unknownT l u5).take k) ++ (uv k549.toNat) ++ (uv ((whole s550).length)) ++ (whole s550)) := brow_eq (rfl) rfl
          obtain ⟨hW647, hF649⟩ := hW644.rowEq 1 [brow A_ c_ 5 (bodyB W l v (Tree.mk n1 s2 b3 l4 u5) 0), brow A639 c640 5 (tagsK W l (Tree.mk n1 s2 b3 l4 u5) k2 ++ tagsB ((unknownT l u5).take k) ++ (uv k549.toNat) ++ (uv ((whole s550).length)) ++ (whole s550)), brow A592 c593 5 (uv k549.toNat), brow A618 c619 5 (uv ((whole s550).length))] er646
          clear hW644
          have hE650 := EnvOk.pick hE645 (ks := [9, 11, 100, 101, 102, 119, 120, 121]) (env' := [(9, .v (.slice A_ ((bodyB W l v (Tree.mk n1 s2 b3 l4 u5) 0).length) c_)), (11, .v (.int .i64 ((tagsN W l (Tree.mk n1 s2 b3 l4 u5) k2 + k : Nat) : Int))), (100, .v (.slice A514 ((unknownT l u5).length) c515)), (101, .v (.int .i64 (((unknownT l u5).length : Nat) : Int))), (102, .v (.int .i64 ((k : Nat) : Int))), (119, .v (.slice A625 ((tagsK W l (Tree.mk n1 s2 b3 l4 u5) k2 ++ tagsB ((unknownT l u5).take k) ++ (uv k549.toNat) ++ (uv ((whole s550).length))).length) c626)), (120, .v (.slice A552 ((whole s550).length) c553)), (121, .v (.slice A639 ((tagsK W l (Tree.mk n1 s2 b3 l4 u5) k2 ++ tagsB ((unknownT l u5).take k) ++ (uv k549.toNat) ++ (uv ((whole s550).length))).length + (whole s550).length) c640))]) (by kernel_rfl)
          have hE648 := hE650.cast (env' := [(9, .v (.slice A_ ((bodyB W l v (Tree.mk n1 s2 b3 l4 u5) 0).length) c_)), (11, .v (.int .i64 ((tagsN W l (Tree.mk n1 s2 b3 l4 u5) k2 + k : Nat) : Int))), (100, .v (.slice A514 ((unknownT l u5).length) c515)), (101, .v (.int .i64 (((unknownT l u5).length : Nat) : Int))), (102, .v (.int .i64 ((k : Nat) : Int))), (119, .v (.slice A625 ((tagsK W l (Tree.mk n1 s2 b3 l4 u5) k2 ++ tagsB ((unknownT l u5).take k) ++ (uv k549.toNat) ++ (uv ((whole s550).length))).length) c626)), (120, .v (.slice A552 ((whole s550).length) c553)), (121, .v (.slice A639 ((tagsK W l (Tree.mk n1 s2 b3 l4 u5) k2 ++ tagsB ((unknownT l u5).take k) ++ (uv k549.toNat) ++ (uv ((whole s550).length)) ++ (whole s550)).length) c640))]) (by simp only [List.length_append, List.length_cons, List.length_nil, Nat.zero_add])
          clear hE645
          clear hE650
          refine go_rn [13] [] [(9, .v (.slice A_ ((bodyB W l v (Tree.mk n1 s2 b3 l4 u5) 0).length) c_)), (10, .v (.slice A639 ((tagsK W l (Tree.mk n1 s2 b3 l4 u5) k2 ++ tagsB ((unknownT l u5).take k) ++ (uv k549.toNat) ++ (uv ((whole s550).length)) ++ (whole s550)).length) c640)), (11, .v (.int .i64 ((tagsN W l (Tree.mk n1 s2 b3 l4 u5) k2 + k : Nat) : Int))), (100, .v (.slice A514 ((unknownT l u5).length) c515)), (101, .v (.int .i64 (((unknownT l u5).length : Nat) : Int))), (102, .v (.int .i64 ((k : Nat) : Int)))] hW647 hE648 fun a651 hE652 => ?_
          clear hE648
          refine wpOps_nil ?_
          refine then_normal ?_
          refine go_region [0, 1, 2] (by kernel_rfl) ?_
          refine go_rn [0, 1, 2] [] [(9, .v (.slice A_ ((bodyB W l v (Tree.mk n1 s2 b3 l4 u5) 0).length) c_)), (10, .v (.slice A639 ((tagsK W l (Tree.mk n1 s2 b3 l4 u5) k2 ++ tagsB ((unknownT l u5).take k) ++ (uv k549.toNat) ++ (uv ((whole s550).length)) ++ (whole s550)).length) c640)), (11, .v (.int .i64 (IntKind.i64.wrap (((tagsN W l (Tree.mk n1 s2 b3 l4 u5) k2 + k : Nat) : Int) + 1)))), (100, .v (.slice A514 ((unknownT l u5).length) c515)), (101, .v (.int .i64 (((unknownT l u5).length : Nat) : Int))), (102, .v (.int .i64 ((k : Nat) : Int)))] hW647 hE652 fun a653 hE654 => ?_
          clear hE652
          refine wpOps_nil ?_
          refine block_normal ?_
          refine then_normal ?_
          refine go_region [0, 1] (by kernel_rfl) ?_
          refine go_rn [0, 1] [] [(9, .v (.slice A_ ((bodyB W l v (Tree.mk n1 s2 b3 l4 u5) 0).length) c_)), (10, .v (.slice A639 ((tagsK W l (Tree.mk n1 s2 b3 l4 u5) k2 ++ tagsB ((unknownT l u5).take k) ++ (uv k549.toNat) ++ (uv ((whole s550).length)) ++ (whole s550)).length) c640)), (11, .v (.int .i64 (IntKind.i64.wrap (((tagsN W l (Tree.mk n1 s2 b3 l4 u5) k2 + k : Nat) : Int) + 1)))), (100, .v (.slice A514 ((unknownT l u5).length) c515)), (101, .v (.int .i64 (((unknownT l u5).length : Nat) : Int))), (102, .v (.int .i64 (IntKind.i64.wrap (((k : Nat) : Int) + 1))))] hW647 hE654 fun a655 hE656 => ?_
          clear hE654
          refine wpOps_nil ?_
          refine then_normal ?_
          obtain ⟨hE657, hW658, hF659⟩ := hW647.cutB hE656 1 [⟨b21, 0, [.int .i64 n1, .slice A6 s2.length c7, .bool b3, .slice A8 l4.length c9, .slice A10 u5.length c11], true⟩] [(9, .v (.slice A_ ((bodyB W l v (Tree.mk n1 s2 b3 l4 u5) 0).length) c_)), (10, .v (.slice A639 ((tagsK W l (Tree.mk n1 s2 b3 l4 u5) k2 ++ tagsB ((unknownT l u5).take k) ++ (uv k549.toNat) ++ (uv ((whole s550).length)) ++ (whole s550)).length) c640)), (11, .v (.int .i64 (IntKind.i64.wrap (((tagsN W l (Tree.mk n1 s2 b3 l4 u5) k2 + k : Nat) : Int) + 1)))), (100, .v (.slice A514 ((unknownT l u5).length) c515)), (101, .v (.int .i64 (((unknownT l u5).length : Nat) : Int))), (102, .v (.int .i64 (IntKind.i64.wrap (((k : Nat) : Int) + 1))))]
          obtain ⟨hW660, hF661⟩ := hW658.cutR 2 [brow A_ c_ 5 (bodyB W l v (Tree.mk n1 s2 b3 l4 u5) 0), brow A639 c640 5 (tagsK W l (Tree.mk n1 s2 b3 l4 u5) k2 ++ tagsB ((unknownT l u5).take k) ++ (uv k549.toNat) ++ (uv ((whole s550).length)) ++ (whole s550))]
          have er662 : (tagsK W l (Tree.mk n1 s2 b3 l4 u5) k2 ++ tagsB ((unknownT l u5).take k) ++ (uv k549.toNat) ++ (uv ((whole s550).length)) ++ (whole s550)) = (tagsK W l (Tree.mk n1 s2 b3 l4 u5) k2 ++ tagsB ((unknownT l u5).take (k + 1))) := by rw [tagsB_succ he551]; simp only [List.append_assoc]
          have er663 := congrArg (brow A639 c640 5) er662
          obtain ⟨hW664, hF665⟩ := hW660.rowEq 1 [brow A_ c_ 5 (bodyB W l v (Tree.mk n1 s2 b3 l4 u5) 0), brow A639 c640 5 (tagsK W l (Tree.mk n1 s2 b3 l4 u5) k2 ++ tagsB ((unknownT l u5).take (k + 1)))] er663
          clear hW660
          rw [er662] at hE657
          have he666 : IntKind.i64.wrap (((k : Nat) : Int) + 1) = ((k + 1 : Nat) : Int) := wrap_succ (by omega)
          rw [he666] at hE657
          have he667 : IntKind.i64.wrap (((tagsN W l (Tree.mk n1 s2 b3 l4 u5) k2 + k : Nat) : Int) + 1) = ((tagsN W l (Tree.mk n1 s2 b3 l4 u5) k2 + (k + 1) : Nat) : Int) := by rw [wrap_i64 (by omega) (by omega)]; omega
          rw [he667] at hE657
          exact ⟨(unknownT l u5).length - (k + 1), by omega, k + 1, A639, c640, rfl, by omega, hE657.pk, hW664, (Fr.trans (Fr.trans (Fr.trans (Fr.trans (Fr.trans (Fr.trans (Fr.trans (Fr.trans (Fr.trans (Fr.trans (Fr.trans (Fr.trans (Fr.trans (Fr.trans hF539 hF567) hF571) hF582) hF598) hF603) hF609) hF624) hF629) hF635) hF643) hF649) hF659) hF661) hF665)⟩
        ·
          have hf668 := of_decide_eq_false hc542
          refine wp_exit ?_
          refine then_exit ?_
          refine then_exit ?_
          refine block_exit ?_
          refine then_normal ?_
          refine go_seq_region [0, 1, 2, 3, 4, 5, 6, 7] (by kernel_rfl) ?_
          refine go_rn [0, 1, 2] [3, 4, 5, 6, 7] [(10, .v (.slice A4_ ((tagsK W l (Tree.mk n1 s2 b3 l4 u5) k2 ++ tagsB ((unknownT l u5).take k)).length) c4_)), (125, .v (.slice A_ ((bodyB W l v (Tree.mk n1 s2 b3 l4 u5) 0).length) c_)), (127, .v (.int .u64 (IntKind.u64.wrap ((tagsN W l (Tree.mk n1 s2 b3 l4 u5) k2 + k : Nat) : Int))))] hW536 hE541 fun a669 hE670 => ?_
          clear hE541
          have he671 : IntKind.u64.wrap ((tagsN W l (Tree.mk n1 s2 b3 l4 u5) k2 + k : Nat) : Int) = ((tagsN W l (Tree.mk n1 s2 b3 l4 u5) k2 + k : Nat) : Int) := by simp only [wrap_u64, wrap_u32, wrap_u16, IntKind.wrap_i64, IntKind.wrap_i32]; omega
          have hE673 := EnvOk.pick hE670 (ks := [10, 125, 127]) (env' := [(10, .v (.slice A4_ ((tagsK W l (Tree.mk n1 s2 b3 l4 u5) k2 ++ tagsB ((unknownT l u5).take k)).length) c4_)), (125, .v (.slice A_ ((bodyB W l v (Tree.mk n1 s2 b3 l4 u5) 0).length) c_)), (127, .v (.int .u64 (IntKind.u64.wrap ((tagsN W l (Tree.mk n1 s2 b3 l4 u5) k2 + k : Nat) : Int))))]) (by kernel_rfl)
          have hE672 := hE673.cast (env' := [(10, .v (.slice A4_ ((tagsK W l (Tree.mk n1 s2 b3 l4 u5) k2 ++ tagsB ((unknownT l u5).take k)).length) c4_)), (125, .v (.slice A_ ((bodyB W l v (Tree.mk n1 s2 b3 l4 u5) 0).length) c_)), (127, .v (.int .u64 ((tagsN W l (Tree.mk n1 s2 b3 l4 u5) k2 + k : Nat) : Int)))]) (by rw [he671])
          clear hE670 hE673
          refine of_op (wpOp_call hE672 (f := 94) (vs := [.int .u64 ((tagsN W l (Tree.mk n1 s2 b3 l4 u5) k2 + k : Nat) : Int)]) (d := 128) (by kernel_rfl) Tryz.call94 (sUvarint (tagsN W l (Tree.mk n1 s2 b3 l4 u5) k2 + k) (by omega) _) ?_)
          rintro e_ w678 ⟨A676, c677, rfl, ho675, hs674⟩
          refine ⟨_, rfl, fun a679 hE680 => ?_⟩
          obtain ⟨hW681, hF682⟩ := hW536.frFresh hs674 (brow A676 c677 5 (uv (tagsN W l (Tree.mk n1 s2 b3 l4 u5) k2 + k))) (Nat.le_refl _) ho675
          clear hE672 hW536
          refine of_op (wpOp_append hW681 hE680 (k := 0) (d := 129) (t := 22) (e := 5) (size := 1) (bytes := 1) (A := A_) (As := A676) (m0 := ((bodyB W l v (Tree.mk n1 s2 b3 l4 u5) 0).length)) (c := c_) (m := ((uv (tagsN W l (Tree.mk n1 s2 b3 l4 u5) k2 + k)).length)) (cs := c677) (xs := (bc (bodyB W l v (Tree.mk n1 s2 b3 l4 u5) 0))) (news := bc (uv (tagsN W l (Tree.mk n1 s2 b3 l4 u5) k2 + k))) (by kernel_rfl) (by kernel_rfl) rfl (own_src (hW681.own 2 _ rfl) (bc_one _)) (own_cap (hW681.own 2 _ rfl)) (by have hkk3 : k = (unknownT l u5).length := (by omega); subst hkk3; subst hkk2; simp only [List.length_append, List.take_length] at *; omega) fun A683 c684 a685 w686 hF687 hW688 hE689 => ?_)
          clear hE680 hW681
          have er690 : (⟨A683, c684, 5, 1, (bodyB W l v (Tree.mk n1 s2 b3 l4 u5) 0).length + (uv (tagsN W l (Tree.mk n1 s2 b3 l4 u5) k2 + k)).length, bc (bodyB W l v (Tree.mk n1 s2 b3 l4 u5) 0) ++ bc (uv (tagsN W l (Tree.mk n1 s2 b3 l4 u5) k2 + k))⟩ : Rw) = brow A683 c684 5 (bodyB W l v (Tree.mk n1 s2 b3 l4 u5) 0 ++ (uv (tagsN W l (Tree.mk n1 s2 b3 l4 u5) k2 + k))) := brow_eq (rfl) rfl
          obtain ⟨hW691, hF693⟩ := hW688.rowEq 0 [brow A683 c684 5 (bodyB W l v (Tree.mk n1 s2 b3 l4 u5) 0 ++ (uv (tagsN W l (Tree.mk n1 s2 b3 l4 u5) k2 + k))), brow A4_ c4_ 5 (tagsK W l (Tree.mk n1 s2 b3 l4 u5) k2 ++ tagsB ((unknownT l u5).take k)), brow A676 c677 5 (uv (tagsN W l (Tree.mk n1 s2 b3 l4 u5) k2 + k))] er690
          clear hW688
          have hE694 := EnvOk.pick hE689 (ks := [10, 125, 127, 128, 129]) (env' := [(10, .v (.slice A4_ ((tagsK W l (Tree.mk n1 s2 b3 l4 u5) k2 ++ tagsB ((unknownT l u5).take k)).length) c4_)), (125, .v (.slice A_ ((bodyB W l v (Tree.mk n1 s2 b3 l4 u5) 0).length) c_)), (127, .v (.int .u64 ((tagsN W l (Tree.mk n1 s2 b3 l4 u5) k2 + k : Nat) : Int))), (128, .v (.slice A676 ((uv (tagsN W l (Tree.mk n1 s2 b3 l4 u5) k2 + k)).length) c677)), (129, .v (.slice A683 ((bodyB W l v (Tree.mk n1 s2 b3 l4 u5) 0).length + (uv (tagsN W l (Tree.mk n1 s2 b3 l4 u5) k2 + k)).length) c684))]) (by kernel_rfl)
          have hE692 := hE694.cast (env' := [(10, .v (.slice A4_ ((tagsK W l (Tree.mk n1 s2 b3 l4 u5) k2 ++ tagsB ((unknownT l u5).take k)).length) c4_)), (125, .v (.slice A_ ((bodyB W l v (Tree.mk n1 s2 b3 l4 u5) 0).length) c_)), (127, .v (.int .u64 ((tagsN W l (Tree.mk n1 s2 b3 l4 u5) k2 + k : Nat) : Int))), (128, .v (.slice A676 ((uv (tagsN W l (Tree.mk n1 s2 b3 l4 u5) k2 + k)).length) c677)), (129, .v (.slice A683 ((bodyB W l v (Tree.mk n1 s2 b3 l4 u5) 0 ++ (uv (tagsN W l (Tree.mk n1 s2 b3 l4 u5) k2 + k))).length) c684))]) (by simp only [List.length_append, List.length_cons, List.length_nil, Nat.zero_add])
          clear hE689
          clear hE694
          refine go_rn [5] [6, 7] [(129, .v (.slice A683 ((bodyB W l v (Tree.mk n1 s2 b3 l4 u5) 0 ++ (uv (tagsN W l (Tree.mk n1 s2 b3 l4 u5) k2 + k))).length) c684)), (130, .v (.slice A4_ ((tagsK W l (Tree.mk n1 s2 b3 l4 u5) k2 ++ tagsB ((unknownT l u5).take k)).length) c4_))] hW691 hE692 fun a695 hE696 => ?_
          clear hE692
          refine of_op (wpOp_append hW691 hE696 (k := 0) (d := 131) (t := 22) (e := 5) (size := 1) (bytes := 1) (A := A683) (As := A4_) (m0 := ((bodyB W l v (Tree.mk n1 s2 b3 l4 u5) 0 ++ (uv (tagsN W l (Tree.mk n1 s2 b3 l4 u5) k2 + k))).length)) (c := c684) (m := ((tagsK W l (Tree.mk n1 s2 b3 l4 u5) k2 ++ tagsB ((unknownT l u5).take k)).length)) (cs := c4_) (xs := (bc (bodyB W l v (Tree.mk n1 s2 b3 l4 u5) 0 ++ (uv (tagsN W l (Tree.mk n1 s2 b3 l4 u5) k2 + k))))) (news := bc (tagsK W l (Tree.mk n1 s2 b3 l4 u5) k2 ++ tagsB ((unknownT l u5).take k))) (by kernel_rfl) (by kernel_rfl) rfl (own_src (hW691.own 1 _ rfl) (bc_one _)) (own_cap (hW691.own 1 _ rfl)) (by have hkk3 : k = (unknownT l u5).length := (by omega); subst hkk3; subst hkk2; simp only [List.length_append, List.take_length] at *; omega) fun A697 c698 a699 w700 hF701 hW702 hE703 => ?_)
          clear hE696 hW691
          have er704 : (⟨A697, c698, 5, 1, (bodyB W l v (Tree.mk n1 s2 b3 l4 u5) 0 ++ (uv (tagsN W l (Tree.mk n1 s2 b3 l4 u5) k2 + k))).length + (tagsK W l (Tree.mk n1 s2 b3 l4 u5) k2 ++ tagsB ((unknownT l u5).take k)).length, bc (bodyB W l v (Tree.mk n1 s2 b3 l4 u5) 0 ++ (uv (tagsN W l (Tree.mk n1 s2 b3 l4 u5) k2 + k))) ++ bc (tagsK W l (Tree.mk n1 s2 b3 l4 u5) k2 ++ tagsB ((unknownT l u5).take k))⟩ : Rw) = brow A697 c698 5 (bodyB W l v (Tree.mk n1 s2 b3 l4 u5) 0 ++ (uv (tagsN W l (Tree.mk n1 s2 b3 l4 u5) k2 + k)) ++ (tagsK W l (Tree.mk n1 s2 b3 l4 u5) k2 ++ tagsB ((unknownT l u5).take k))) := brow_eq (rfl) rfl
          obtain ⟨hW705, hF707⟩ := hW702.rowEq 0 [brow A697 c698 5 (bodyB W l v (Tree.mk n1 s2 b3 l4 u5) 0 ++ (uv (tagsN W l (Tree.mk n1 s2 b3 l4 u5) k2 + k)) ++ (tagsK W l (Tree.mk n1 s2 b3 l4 u5) k2 ++ tagsB ((unknownT l u5).take k))), brow A4_ c4_ 5 (tagsK W l (Tree.mk n1 s2 b3 l4 u5) k2 ++ tagsB ((unknownT l u5).take k)), brow A676 c677 5 (uv (tagsN W l (Tree.mk n1 s2 b3 l4 u5) k2 + k))] er704
          clear hW702
          have hE708 := EnvOk.pick hE703 (ks := [129, 130, 131]) (env' := [(129, .v (.slice A683 ((bodyB W l v (Tree.mk n1 s2 b3 l4 u5) 0 ++ (uv (tagsN W l (Tree.mk n1 s2 b3 l4 u5) k2 + k))).length) c684)), (130, .v (.slice A4_ ((tagsK W l (Tree.mk n1 s2 b3 l4 u5) k2 ++ tagsB ((unknownT l u5).take k)).length) c4_)), (131, .v (.slice A697 ((bodyB W l v (Tree.mk n1 s2 b3 l4 u5) 0 ++ (uv (tagsN W l (Tree.mk n1 s2 b3 l4 u5) k2 + k))).length + (tagsK W l (Tree.mk n1 s2 b3 l4 u5) k2 ++ tagsB ((unknownT l u5).take k)).length) c698))]) (by kernel_rfl)
          have hE706 := hE708.cast (env' := [(129, .v (.slice A683 ((bodyB W l v (Tree.mk n1 s2 b3 l4 u5) 0 ++ (uv (tagsN W l (Tree.mk n1 s2 b3 l4 u5) k2 + k))).length) c684)), (130, .v (.slice A4_ ((tagsK W l (Tree.mk n1 s2 b3 l4 u5) k2 ++ tagsB ((unknownT l u5).take k)).length) c4_)), (131, .v (.slice A697 ((bodyB W l v (Tree.mk n1 s2 b3 l4 u5) 0 ++ (uv (tagsN W l (Tree.mk n1 s2 b3 l4 u5) k2 + k)) ++ (tagsK W l (Tree.mk n1 s2 b3 l4 u5) k2 ++ tagsB ((unknownT l u5).take k))).length) c698))]) (by simp only [List.length_append, List.length_cons, List.length_nil, Nat.zero_add])
          clear hE703
          clear hE708
          refine go_rn [7] [] [(8, .v (.slice A697 ((bodyB W l v (Tree.mk n1 s2 b3 l4 u5) 0 ++ (uv (tagsN W l (Tree.mk n1 s2 b3 l4 u5) k2 + k)) ++ (tagsK W l (Tree.mk n1 s2 b3 l4 u5) k2 ++ tagsB ((unknownT l u5).take k))).length) c698))] hW705 hE706 fun a709 hE710 => ?_
          clear hE706
          refine wpOps_nil ?_
          refine then_normal ?_
          refine wp_ret ?_
          refine leave hE710 hW705.cells (v := .slice A697 ((bodyB W l v (Tree.mk n1 s2 b3 l4 u5) 0 ++ (uv (tagsN W l (Tree.mk n1 s2 b3 l4 u5) k2 + k)) ++ (tagsK W l (Tree.mk n1 s2 b3 l4 u5) k2 ++ tagsB ((unknownT l u5).take k))).length) c698) (by kernel_rfl) ?_
          have hkk3 : k = (unknownT l u5).length := by omega
          exact fresh_end hW705 (k := 0) rfl (by rw [show flex = true by simpa using hc201, partW_flex, hkk3, hkk2, List.take_length])

end Go.Proofs.YtnhgfbgdoelfoaaGreatDoor.ME

/- Contracts: printed by tools/sp.py. Own work. -/
namespace Go.Proofs.YtnhgfbgdoelfoaaGreatDoor.ME
open Go
set_option linter.unusedVariables false
set_option linter.unusedSimpArgs false
set_option maxRecDepth 20000

theorem sPartOK : ∀ d, PartOK d
  | 0 => fun A c l v flex ct t w F hl hd ht hr => sPart (fun _ _ => []) A c l v flex ct t w F (fun cf f ct t w F hm hf ht hr => by
      obtain ⟨i, hi⟩ := List.mem_iff_getElem?.1 hm
      have h := depths_get hi
      obtain ⟨k, x1, x2, x3, x4, x5, x6, l, A, c, xs, rfl, _⟩ := hf.open_
      rw [depth_mk] at h; omega) hl ht hr
  | d + 1 => fun A c l v flex ct t w F hl hd ht hr => sPart (fun f t => fieldD d f v flex t) A c l v flex ct t w F (fun cf f ct t w F hm hf ht hr => sField (sPartOK d) cf f v flex ct t w F hf (by
      obtain ⟨i, hi⟩ := List.mem_iff_getElem?.1 hm
      have h := depths_get hi
      obtain ⟨k, x1, x2, x3, x4, x5, x6, l, A, c, xs, rfl, _⟩ := hf.open_
      rw [depth_mk] at h
      show depths l ≤ d
      omega) ht hr) hl ht hr

theorem sWrite {d : Nat} (A : Option Addr) (c : Nat) (l : List Fld) (x v : Int) (ct : List Value) (t : Tree) (w : World) (F : Nat → Nat → Prop) (hl : FldsR w F A c l) (hd : depths l ≤ d) (ht : TreeR w F ct t) (hroom : (writeB d l x v t).length ≤ 1099511627776) :
    Calls Tryz.prog 14 #[.agg #[.slice A l.length c, .int .i64 x], .int .i64 v, .agg ct.toArray] w (FreshB w 5 (writeB d l x v t)) := by
  obtain ⟨xfs, h1, h2⟩ := hl.ex
  have hsm := h1.small
  obtain ⟨n1, s2, b3, l4, u5, A6, c7, A8, c9, A10, c11, xs12, rfl, rfl, h14, h15, h16, h17⟩ := ht.open_
  have hsm19 := h14.small
  have hsm20 := h15.small
  refine enter (n := 21) Tryz.func14 rfl Tryz.ntmps14 (by kernel_rfl) fun a hE => ?_
  have hW := WOk.start w Nil
  refine go_seq_region [0, 1, 2] (by kernel_rfl) ?_
  refine of_op (wpOp_box hW hE (d := 3) (cs := [.slice A l.length c, .int .i64 x]) (by kernel_rfl) fun b21 a22 w23 hb24 hz25 hF26 hW27 hE28 => ?_)
  clear hE hW
  refine of_op (wpOp_box hW27 hE28 (d := 5) (cs := [.int .i64 n1, .slice A6 s2.length c7, .bool b3, .slice A8 l4.length c9, .slice A10 u5.length c11]) (by kernel_rfl) fun b29 a30 w31 hb32 hz33 hF34 hW35 hE36 => ?_)
  clear hE28 hW27
  refine go_rn [2] [] [(1, .v (.int .i64 v)), (3, .p 0 0), (5, .p 1 0)] hW35 hE36 fun a37 hE38 => ?_
  clear hE36
  refine wpOps_nil ?_
  refine then_normal ?_
  refine go_seq_region [0, 1, 2, 3, 4, 5, 6, 7, 8, 9, 10, 11, 12, 13, 14] (by kernel_rfl) ?_
  refine go_rn [0, 1, 2, 3, 4, 5, 6] [7, 8, 9, 10, 11, 12, 13, 14] [(1, .v (.int .i64 v)), (3, .p 0 0), (5, .p 1 0), (8, .v (.slice A l.length c)), (9, .v (.int .i64 v)), (13, .v (.bool (decide (x ≥ 0))))] hW35 hE38 fun a39 hE40 => ?_
  clear hE38
  refine (Bool.eq_false_or_eq_true (decide (x ≥ 0))).elim (fun hc41 => ?_) (fun hc41 => ?_)
  ·
    have hf42 := of_decide_eq_true hc41
    have hE43 := hE40.cast (env' := [(1, .v (.int .i64 v)), (3, .p 0 0), (5, .p 1 0), (8, .v (.slice A l.length c)), (9, .v (.int .i64 v)), (13, .v (.bool true))]) (by rw [hc41])
    clear hE40
    refine go_rn [7, 8, 9, 10, 11, 12] [13, 14] [(8, .v (.slice A l.length c)), (9, .v (.int .i64 v)), (18, .v (.bool (decide (v ≥ x)))), (19, .v (.agg #[.int .i64 n1, .slice A6 s2.length c7, .bool b3, .slice A8 l4.length c9, .slice A10 u5.length c11]))] hW35 hE43 fun a44 hE45 => ?_
    clear hE43
    refine of_op (wpOp_call hE45 (f := 42) (vs := [.slice A l.length c, .int .i64 v, .bool (decide (v ≥ x)), .agg #[.int .i64 n1, .slice A6 s2.length c7, .bool b3, .slice A8 l4.length c9, .slice A10 u5.length c11]]) (d := 20) (by kernel_rfl) Tryz.call42 (sPartOK _ _ _ l v (decide (v ≥ x)) _ (Tree.mk n1 s2 b3 l4 u5) _ _ ⟨xfs, (h1.move hW35.step nilM hW35.imm), (fun i_ x_ h_ => ((h2 i_ x_ h_).move hW35.step nilM hW35.imm))⟩ hd (ht.move hW35.step nilM hW35.imm) (by simpa [writeB, hc41] using hroom)) ?_)
    rintro e_ w50 ⟨A48, c49, rfl, ho47, hs46⟩
    refine ⟨_, rfl, fun a51 hE52 => ?_⟩
    obtain ⟨hW53, hF54⟩ := hW35.frFresh hs46 (brow A48 c49 5 (partB d l v (decide (v ≥ x)) (Tree.mk n1 s2 b3 l4 u5))) (Nat.le_refl _) ho47
    clear hE45 hW35
    refine go_rn [14] [] [(6, .v (.slice A48 ((partB d l v (decide (v ≥ x)) (Tree.mk n1 s2 b3 l4 u5)).length) c49))] hW53 hE52 fun a55 hE56 => ?_
    clear hE52
    refine wpOps_nil ?_
    refine then_normal ?_
    refine wp_ret ?_
    refine leave hE56 hW53.cells (v := .slice A48 ((partB d l v (decide (v ≥ x)) (Tree.mk n1 s2 b3 l4 u5)).length) c49) (by kernel_rfl) ?_
    exact fresh_end hW53 (k := 0) rfl (by simp [writeB, hc41])
  ·
    have hf57 := of_decide_eq_false hc41
    have hE58 := hE40.cast (env' := [(1, .v (.int .i64 v)), (3, .p 0 0), (5, .p 1 0), (8, .v (.slice A l.length c)), (9, .v (.int .i64 v)), (13, .v (.bool false))]) (by rw [hc41])
    clear hE40
    refine go_rn [7, 8, 9, 10, 11, 12] [13, 14] [(8, .v (.slice A l.length c)), (9, .v (.int .i64 v)), (18, .v (.bool false)), (19, .v (.agg #[.int .i64 n1, .slice A6 s2.length c7, .bool b3, .slice A8 l4.length c9, .slice A10 u5.length c11]))] hW35 hE58 fun a59 hE60 => ?_
    clear hE58
    refine of_op (wpOp_call hE60 (f := 42) (vs := [.slice A l.length c, .int .i64 v, .bool false, .agg #[.int .i64 n1, .slice A6 s2.length c7, .bool b3, .slice A8 l4.length c9, .slice A10 u5.length c11]]) (d := 20) (by kernel_rfl) Tryz.call42 (sPartOK _ _ _ l v false _ (Tree.mk n1 s2 b3 l4 u5) _ _ ⟨xfs, (h1.move hW35.step nilM hW35.imm), (fun i_ x_ h_ => ((h2 i_ x_ h_).move hW35.step nilM hW35.imm))⟩ hd (ht.move hW35.step nilM hW35.imm) (by simpa [writeB, hc41] using hroom)) ?_)
    rintro e_ w65 ⟨A63, c64, rfl, ho62, hs61⟩
    refine ⟨_, rfl, fun a66 hE67 => ?_⟩
    obtain ⟨hW68, hF69⟩ := hW35.frFresh hs61 (brow A63 c64 5 (partB d l v false (Tree.mk n1 s2 b3 l4 u5))) (Nat.le_refl _) ho62
    clear hE60 hW35
    refine go_rn [14] [] [(6, .v (.slice A63 ((partB d l v false (Tree.mk n1 s2 b3 l4 u5)).length) c64))] hW68 hE67 fun a70 hE71 => ?_
    clear hE67
    refine wpOps_nil ?_
    refine then_normal ?_
    refine wp_ret ?_
    refine leave hE71 hW68.cells (v := .slice A63 ((partB d l v false (Tree.mk n1 s2 b3 l4 u5)).length) c64) (by kernel_rfl) ?_
    exact fresh_end hW68 (k := 0) rfl (by simp [writeB, hc41])

end Go.Proofs.YtnhgfbgdoelfoaaGreatDoor.ME

/- Contracts: printed by tools/sp.py. Own work. -/
namespace Go.Proofs.YtnhgfbgdoelfoaaGreatDoor.ME
open Go
set_option linter.unusedVariables false
set_option linter.unusedSimpArgs false
set_option maxRecDepth 20000

def sAlterShareGroupOffsetsResponseF : List Fld := [(Fld.mk 3 0 (-1) (-1) (-1) 0 0 []), (Fld.mk 2 0 (-1) (-1) (-1) 0 0 []), (Fld.mk 8 0 (-1) 0 (-1) 0 0 []), (Fld.mk 11 0 (-1) (-1) (-1) 0 10 [(Fld.mk 8 0 (-1) (-1) (-1) 0 0 []), (Fld.mk 7 0 (-1) (-1) (-1) 0 0 []), (Fld.mk 11 0 (-1) (-1) (-1) 0 10 [(Fld.mk 3 0 (-1) (-1) (-1) 0 0 []), (Fld.mk 2 0 (-1) (-1) (-1) 0 0 []), (Fld.mk 8 0 (-1) 0 (-1) 0 0 [])])])]
def sAlterShareGroupOffsetsResponseX : Int := 0
theorem sAlterShareGroupOffsetsResponse (w : World) (F : Nat → Nat → Prop) : Calls Tryz.prog 24 #[] w (GivesM w F sAlterShareGroupOffsetsResponseF sAlterShareGroupOffsetsResponseX) := by
  refine enter (n := 8) Tryz.func24 rfl Tryz.ntmps24 (by kernel_rfl) fun a hE => ?_
  have hW := WOk.start w Nil
  refine go_seq_region [0] (by kernel_rfl) ?_
  refine of_op (wpOp_alloc hW hE (d := 0) (cs := [.slice none 0 0, .int .i64 0]) (by kernel_rfl) fun b1 a2 w3 hb4 hz5 hF6 hW7 hE8 => ?_)
  clear hE hW
  refine wpOps_nil ?_
  refine then_normal ?_
  refine go_seq_region [0, 1, 2, 3, 4, 5, 6, 7] (by kernel_rfl) ?_
  refine go_rn [0, 1, 2] [3, 4, 5, 6, 7] [(0, .p 0 0), (1, .v (.agg #[.int .i64 3, .int .i64 0, .int .i64 (-1), .int .i64 (-1), .int .i64 (-1), .int .i64 0, .int .i64 0, .slice none 0 0])), (2, .v (.agg #[.int .i64 2, .int .i64 0, .int .i64 (-1), .int .i64 (-1), .int .i64 (-1), .int .i64 0, .int .i64 0, .slice none 0 0])), (3, .v (.agg #[.int .i64 8, .int .i64 0, .int .i64 (-1), .int .i64 0, .int .i64 (-1), .int .i64 0, .int .i64 0, .slice none 0 0]))] hW7 hE8 fun a9 hE10 => ?_
  clear hE8
  refine of_op (wpOp_inline hE10 (f := 60) (vs := []) (d := 4) (n' := 6) (by kernel_rfl) Tryz.call60 Tryz.func60 rfl Tryz.ntmps60 (by kernel_rfl) fun a11 hE12 => ?_)
  refine go_sp [] hW7 hE12 fun a13 hE14 => ?_
  clear hE12
  refine go_seq_region [0, 1, 2, 3, 4, 5] (by kernel_rfl) ?_
  refine go_rn [0, 1] [2, 3, 4, 5] [(1, .v (.agg #[.int .i64 8, .int .i64 0, .int .i64 (-1), .int .i64 (-1), .int .i64 (-1), .int .i64 0, .int .i64 0, .slice none 0 0])), (2, .v (.agg #[.int .i64 7, .int .i64 0, .int .i64 (-1), .int .i64 (-1), .int .i64 (-1), .int .i64 0, .int .i64 0, .slice none 0 0]))] hW7 hE14 fun a15 hE16 => ?_
  clear hE14
  refine of_op (wpOp_inline hE16 (f := 117) (vs := []) (d := 3) (n' := 5) (by kernel_rfl) Tryz.call117 Tryz.func117 rfl Tryz.ntmps117 (by kernel_rfl) fun a17 hE18 => ?_)
  refine go_sp [] hW7 hE18 fun a19 hE20 => ?_
  clear hE18
  refine go_seq_region [0, 1, 2, 3, 4] (by kernel_rfl) ?_
  refine go_rn [0, 1, 2] [3, 4] [(1, .v (.agg #[.int .i64 3, .int .i64 0, .int .i64 (-1), .int .i64 (-1), .int .i64 (-1), .int .i64 0, .int .i64 0, .slice none 0 0])), (2, .v (.agg #[.int .i64 2, .int .i64 0, .int .i64 (-1), .int .i64 (-1), .int .i64 (-1), .int .i64 0, .int .i64 0, .slice none 0 0])), (3, .v (.agg #[.int .i64 8, .int .i64 0, .int .i64 (-1), .int .i64 0, .int .i64 (-1), .int .i64 0, .int .i64 0, .slice none 0 0]))] hW7 hE20 fun a21 hE22 => ?_
  clear hE20
  refine of_op (wpOp_lit hW7 hE22 (e := 56) (size := 8) (len := 3) (cs := [.int .i64 3, .int .i64 0, .int .i64 (-1), .int .i64 (-1), .int .i64 (-1), .int .i64 0, .int .i64 0, .slice none 0 0, .int .i64 2, .int .i64 0, .int .i64 (-1), .int .i64 (-1), .int .i64 (-1), .int .i64 0, .int .i64 0, .slice none 0 0, .int .i64 8, .int .i64 0, .int .i64 (-1), .int .i64 0, .int .i64 (-1), .int .i64 0, .int .i64 0, .slice none 0 0]) (d := 4) (by kernel_rfl) (by kernel_rfl) fun b23 a24 w25 hb26 hz27 hF28 hW29 hE30 => ?_)
  clear hE22 hW7
  refine go_rn [4] [] [(0, .v (.slice (some ⟨b23, 0, none⟩) 3 3))] hW29 hE30 fun a31 hE32 => ?_
  clear hE30
  refine wpOps_nil ?_
  refine then_normal ?_
  refine wp_ret ?_
  refine leave hE32 hW29.cells (v := .slice (some ⟨b23, 0, none⟩) 3 3) (by kernel_rfl) ?_
  refine ⟨_, rfl, fun a33 hE34 => ?_⟩
  have hE35 : EnvOk 6 [⟨b1, 0, [.slice none 0 0, .int .i64 0], true⟩] [(3, .v (.slice (some ⟨b23, 0, none⟩) 3 3)), (1, .v (.agg #[.int .i64 8, .int .i64 0, .int .i64 (-1), .int .i64 (-1), .int .i64 (-1), .int .i64 0, .int .i64 0, .slice none 0 0])), (2, .v (.agg #[.int .i64 7, .int .i64 0, .int .i64 (-1), .int .i64 (-1), .int .i64 (-1), .int .i64 0, .int .i64 0, .slice none 0 0]))] _ := hE34.places (⟨rfl, rfl, trivial⟩)
  refine go_rn [3] [4, 5] [(1, .v (.agg #[.int .i64 8, .int .i64 0, .int .i64 (-1), .int .i64 (-1), .int .i64 (-1), .int .i64 0, .int .i64 0, .slice none 0 0])), (2, .v (.agg #[.int .i64 7, .int .i64 0, .int .i64 (-1), .int .i64 (-1), .int .i64 (-1), .int .i64 0, .int .i64 0, .slice none 0 0])), (4, .v (.agg #[.int .i64 11, .int .i64 0, .int .i64 (-1), .int .i64 (-1), .int .i64 (-1), .int .i64 0, .int .i64 10, .slice (some ⟨b23, 0, none⟩) 3 3]))] hW29 hE35 fun a36 hE37 => ?_
  clear hE35
  refine of_op (wpOp_lit hW29 hE37 (e := 56) (size := 8) (len := 3) (cs := [.int .i64 8, .int .i64 0, .int .i64 (-1), .int .i64 (-1), .int .i64 (-1), .int .i64 0, .int .i64 0, .slice none 0 0, .int .i64 7, .int .i64 0, .int .i64 (-1), .int .i64 (-1), .int .i64 (-1), .int .i64 0, .int .i64 0, .slice none 0 0, .int .i64 11, .int .i64 0, .int .i64 (-1), .int .i64 (-1), .int .i64 (-1), .int .i64 0, .int .i64 10, .slice (some ⟨b23, 0, none⟩) 3 3]) (d := 5) (by kernel_rfl) (by kernel_rfl) fun b38 a39 w40 hb41 hz42 hF43 hW44 hE45 => ?_)
  clear hE37 hW29
  refine go_rn [5] [] [(0, .v (.slice (some ⟨b38, 0, none⟩) 3 3))] hW44 hE45 fun a46 hE47 => ?_
  clear hE45
  refine wpOps_nil ?_
  refine then_normal ?_
  refine wp_ret ?_
  refine leave hE47 hW44.cells (v := .slice (some ⟨b38, 0, none⟩) 3 3) (by kernel_rfl) ?_
  refine ⟨_, rfl, fun a48 hE49 => ?_⟩
  have hE50 : EnvOk 8 [⟨b1, 0, [.slice none 0 0, .int .i64 0], true⟩] [(4, .v (.slice (some ⟨b38, 0, none⟩) 3 3)), (0, .p 0 0), (1, .v (.agg #[.int .i64 3, .int .i64 0, .int .i64 (-1), .int .i64 (-1), .int .i64 (-1), .int .i64 0, .int .i64 0, .slice none 0 0])), (2, .v (.agg #[.int .i64 2, .int .i64 0, .int .i64 (-1), .int .i64 (-1), .int .i64 (-1), .int .i64 0, .int .i64 0, .slice none 0 0])), (3, .v (.agg #[.int .i64 8, .int .i64 0, .int .i64 (-1), .int .i64 0, .int .i64 (-1), .int .i64 0, .int .i64 0, .slice none 0 0]))] _ := hE49.places (⟨rfl, rfl, trivial⟩)
  refine go_rn [4] [5, 6, 7] [(0, .p 0 0), (1, .v (.agg #[.int .i64 3, .int .i64 0, .int .i64 (-1), .int .i64 (-1), .int .i64 (-1), .int .i64 0, .int .i64 0, .slice none 0 0])), (2, .v (.agg #[.int .i64 2, .int .i64 0, .int .i64 (-1), .int .i64 (-1), .int .i64 (-1), .int .i64 0, .int .i64 0, .slice none 0 0])), (3, .v (.agg #[.int .i64 8, .int .i64 0, .int .i64 (-1), .int .i64 0, .int .i64 (-1), .int .i64 0, .int .i64 0, .slice none 0 0])), (5, .v (.agg #[.int .i64 11, .int .i64 0, .int .i64 (-1), .int .i64 (-1), .int .i64 (-1), .int .i64 0, .int .i64 10, .slice (some ⟨b38, 0, none⟩) 3 3]))] hW44 hE50 fun a51 hE52 => ?_
  clear hE50
  refine of_op (wpOp_lit hW44 hE52 (e := 56) (size := 8) (len := 4) (cs := [.int .i64 3, .int .i64 0, .int .i64 (-1), .int .i64 (-1), .int .i64 (-1), .int .i64 0, .int .i64 0, .slice none 0 0, .int .i64 2, .int .i64 0, .int .i64 (-1), .int .i64 (-1), .int .i64 (-1), .int .i64 0, .int .i64 0, .slice none 0 0, .int .i64 8, .int .i64 0, .int .i64 (-1), .int .i64 0, .int .i64 (-1), .int .i64 0, .int .i64 0, .slice none 0 0, .int .i64 11, .int .i64 0, .int .i64 (-1), .int .i64 (-1), .int .i64 (-1), .int .i64 0, .int .i64 10, .slice (some ⟨b38, 0, none⟩) 3 3]) (d := 6) (by kernel_rfl) (by kernel_rfl) fun b53 a54 w55 hb56 hz57 hF58 hW59 hE60 => ?_)
  clear hE52 hW44
  refine go_rn [6] [7] [(0, .p 0 0), (7, .v (.agg #[.slice (some ⟨b53, 0, none⟩) 4 4, .int .i64 0]))] hW59 hE60 fun a61 hE62 => ?_
  clear hE60
  refine of_op (wpOp_store hW59 hE62 (oi := 0) (cs := [.slice (some ⟨b53, 0, none⟩) 4 4, .int .i64 0]) (by kernel_rfl) fun w63 hF64 hW65 hE66 => ?_)
  clear hE62 hW59
  refine wpOps_nil ?_
  refine then_normal ?_
  refine wp_ret ?_
  refine leave hE66 hW65.cells (v := .agg #[.slice (some ⟨b53, 0, none⟩) 4 4, .int .i64 0]) (by kernel_rfl) ?_
  have hfl67 := Flds.slots (F := F) hW65 (k := 0) (n := 3) (xs := [.int .i64 3, .int .i64 0, .int .i64 (-1), .int .i64 (-1), .int .i64 (-1), .int .i64 0, .int .i64 0, .slice none 0 0, .int .i64 2, .int .i64 0, .int .i64 (-1), .int .i64 (-1), .int .i64 (-1), .int .i64 0, .int .i64 0, .slice none 0 0, .int .i64 8, .int .i64 0, .int .i64 (-1), .int .i64 0, .int .i64 (-1), .int .i64 0, .int .i64 0, .slice none 0 0]) rfl (Flds.snoc (Flds.snoc (Flds.snoc (Flds.nil _ _) (c := [.int .i64 3, .int .i64 0, .int .i64 (-1), .int .i64 (-1), .int .i64 (-1), .int .i64 0, .int .i64 0, .slice none 0 0]) (x := (Fld.mk 3 0 (-1) (-1) (-1) 0 0 [])) (FldR.mk (l := []) _ (noFlds w63 (Fp F w)).1 (noFlds w63 (Fp F w)).2)) (c := [.int .i64 2, .int .i64 0, .int .i64 (-1), .int .i64 (-1), .int .i64 (-1), .int .i64 0, .int .i64 0, .slice none 0 0]) (x := (Fld.mk 2 0 (-1) (-1) (-1) 0 0 [])) (FldR.mk (l := []) _ (noFlds w63 (Fp F w)).1 (noFlds w63 (Fp F w)).2)) (c := [.int .i64 8, .int .i64 0, .int .i64 (-1), .int .i64 0, .int .i64 (-1), .int .i64 0, .int .i64 0, .slice none 0 0]) (x := (Fld.mk 8 0 (-1) 0 (-1) 0 0 [])) (FldR.mk (l := []) _ (noFlds w63 (Fp F w)).1 (noFlds w63 (Fp F w)).2)) rfl (by decide)
  have hfl68 := Flds.slots (F := F) hW65 (k := 1) (n := 3) (xs := [.int .i64 8, .int .i64 0, .int .i64 (-1), .int .i64 (-1), .int .i64 (-1), .int .i64 0, .int .i64 0, .slice none 0 0, .int .i64 7, .int .i64 0, .int .i64 (-1), .int .i64 (-1), .int .i64 (-1), .int .i64 0, .int .i64 0, .slice none 0 0, .int .i64 11, .int .i64 0, .int .i64 (-1), .int .i64 (-1), .int .i64 (-1), .int .i64 0, .int .i64 10, .slice (some ⟨b23, 0, none⟩) 3 3]) rfl (Flds.snoc (Flds.snoc (Flds.snoc (Flds.nil _ _) (c := [.int .i64 8, .int .i64 0, .int .i64 (-1), .int .i64 (-1), .int .i64 (-1), .int .i64 0, .int .i64 0, .slice none 0 0]) (x := (Fld.mk 8 0 (-1) (-1) (-1) 0 0 [])) (FldR.mk (l := []) _ (noFlds w63 (Fp F w)).1 (noFlds w63 (Fp F w)).2)) (c := [.int .i64 7, .int .i64 0, .int .i64 (-1), .int .i64 (-1), .int .i64 (-1), .int .i64 0, .int .i64 0, .slice none 0 0]) (x := (Fld.mk 7 0 (-1) (-1) (-1) 0 0 [])) (FldR.mk (l := []) _ (noFlds w63 (Fp F w)).1 (noFlds w63 (Fp F w)).2)) (c := [.int .i64 11, .int .i64 0, .int .i64 (-1), .int .i64 (-1), .int .i64 (-1), .int .i64 0, .int .i64 10, .slice (some ⟨b23, 0, none⟩) 3 3]) (x := (Fld.mk 11 0 (-1) (-1) (-1) 0 10 [(Fld.mk 3 0 (-1) (-1) (-1) 0 0 []), (Fld.mk 2 0 (-1) (-1) (-1) 0 0 []), (Fld.mk 8 0 (-1) 0 (-1) 0 0 [])])) (FldR.mk (l := [(Fld.mk 3 0 (-1) (-1) (-1) 0 0 []), (Fld.mk 2 0 (-1) (-1) (-1) 0 0 []), (Fld.mk 8 0 (-1) 0 (-1) 0 0 [])]) _ hfl67.1 hfl67.2)) rfl (by decide)
  have hfl69 := Flds.slots (F := F) hW65 (k := 2) (n := 4) (xs := [.int .i64 3, .int .i64 0, .int .i64 (-1), .int .i64 (-1), .int .i64 (-1), .int .i64 0, .int .i64 0, .slice none 0 0, .int .i64 2, .int .i64 0, .int .i64 (-1), .int .i64 (-1), .int .i64 (-1), .int .i64 0, .int .i64 0, .slice none 0 0, .int .i64 8, .int .i64 0, .int .i64 (-1), .int .i64 0, .int .i64 (-1), .int .i64 0, .int .i64 0, .slice none 0 0, .int .i64 11, .int .i64 0, .int .i64 (-1), .int .i64 (-1), .int .i64 (-1), .int .i64 0, .int .i64 10, .slice (some ⟨b38, 0, none⟩) 3 3]) rfl (Flds.snoc (Flds.snoc (Flds.snoc (Flds.snoc (Flds.nil _ _) (c := [.int .i64 3, .int .i64 0, .int .i64 (-1), .int .i64 (-1), .int .i64 (-1), .int .i64 0, .int .i64 0, .slice none 0 0]) (x := (Fld.mk 3 0 (-1) (-1) (-1) 0 0 [])) (FldR.mk (l := []) _ (noFlds w63 (Fp F w)).1 (noFlds w63 (Fp F w)).2)) (c := [.int .i64 2, .int .i64 0, .int .i64 (-1), .int .i64 (-1), .int .i64 (-1), .int .i64 0, .int .i64 0, .slice none 0 0]) (x := (Fld.mk 2 0 (-1) (-1) (-1) 0 0 [])) (FldR.mk (l := []) _ (noFlds w63 (Fp F w)).1 (noFlds w63 (Fp F w)).2)) (c := [.int .i64 8, .int .i64 0, .int .i64 (-1), .int .i64 0, .int .i64 (-1), .int .i64 0, .int .i64 0, .slice none 0 0]) (x := (Fld.mk 8 0 (-1) 0 (-1) 0 0 [])) (FldR.mk (l := []) _ (noFlds w63 (Fp F w)).1 (noFlds w63 (Fp F w)).2)) (c := [.int .i64 11, .int .i64 0, .int .i64 (-1), .int .i64 (-1), .int .i64 (-1), .int .i64 0, .int .i64 10, .slice (some ⟨b38, 0, none⟩) 3 3]) (x := (Fld.mk 11 0 (-1) (-1) (-1) 0 10 [(Fld.mk 8 0 (-1) (-1) (-1) 0 0 []), (Fld.mk 7 0 (-1) (-1) (-1) 0 0 []), (Fld.mk 11 0 (-1) (-1) (-1) 0 10 [(Fld.mk 3 0 (-1) (-1) (-1) 0 0 []), (Fld.mk 2 0 (-1) (-1) (-1) 0 0 []), (Fld.mk 8 0 (-1) 0 (-1) 0 0 [])])])) (FldR.mk (l := [(Fld.mk 8 0 (-1) (-1) (-1) 0 0 []), (Fld.mk 7 0 (-1) (-1) (-1) 0 0 []), (Fld.mk 11 0 (-1) (-1) (-1) 0 10 [(Fld.mk 3 0 (-1) (-1) (-1) 0 0 []), (Fld.mk 2 0 (-1) (-1) (-1) 0 0 []), (Fld.mk 8 0 (-1) 0 (-1) 0 0 [])])]) _ hfl68.1 hfl68.2)) rfl (by decide)
  exact ⟨_, _, rfl, ⟨_, hfl69.1, hfl69.2⟩, hW65.step⟩

end Go.Proofs.YtnhgfbgdoelfoaaGreatDoor.ME

/- Printed by tools/mk.py. Own work. -/
namespace Go.Proofs.YtnhgfbgdoelfoaaGreatDoor.ME
open Go
open Go.RowKit
set_option linter.unusedVariables false
set_option linter.unusedSimpArgs false
set_option maxRecDepth 20000

def canAlterShareGroupOffsetsResponseTopicPartition (T : Tree) : Prop := (True) ∧ (True) ∧ ((octOf (T.at_ 2)).length ≤ 32767) ∧ canU T.U ∧ True
def canAlterShareGroupOffsetsResponseTopic (T : Tree) : Prop := ((T.at_ 0).S.length ≤ 32767) ∧ (True) ∧ ((lst (T.at_ 2)).length ≤ 32767 ∧ ∀ x ∈ lst (T.at_ 2), canAlterShareGroupOffsetsResponseTopicPartition x) ∧ canU T.U ∧ True
def canAlterShareGroupOffsetsResponse (T : Tree) : Prop := (True) ∧ (True) ∧ ((octOf (T.at_ 2)).length ≤ 32767) ∧ ((lst (T.at_ 3)).length ≤ 32767 ∧ ∀ x ∈ lst (T.at_ 3), canAlterShareGroupOffsetsResponseTopic x) ∧ canU T.U ∧ True
theorem canfitAlterShareGroupOffsetsResponse (v : Int) (t : Tree) : canAlterShareGroupOffsetsResponse (fitT v 8 sAlterShareGroupOffsetsResponseF t) := by
  unfold canAlterShareGroupOffsetsResponse
  exact ⟨(trivial), (trivial), (octs_le2 (d := 7) (show sAlterShareGroupOffsetsResponseF[2]? = _ from rfl) (by decide)), (⟨lst_le2 (d := 7) (show sAlterShareGroupOffsetsResponseF[3]? = _ from rfl), lst_mem (d := 7) (Q := canAlterShareGroupOffsetsResponseTopic) (show sAlterShareGroupOffsetsResponseF[3]? = _ from rfl) fun y => by
      have h := fit_10 (v := v) (d := 7) (x1 := 0) (x2 := -1) (x5 := 0) (x6 := 10) (s := [(Fld.mk 8 0 (-1) (-1) (-1) 0 0 []), (Fld.mk 7 0 (-1) (-1) (-1) 0 0 []), (Fld.mk 11 0 (-1) (-1) (-1) 0 10 [(Fld.mk 3 0 (-1) (-1) (-1) 0 0 []), (Fld.mk 2 0 (-1) (-1) (-1) 0 0 []), (Fld.mk 8 0 (-1) 0 (-1) 0 0 [])])]) (b := Fld.nul (Fld.mk 10 0 (-1) (-1) (-1) 0 10 [(Fld.mk 8 0 (-1) (-1) (-1) 0 0 []), (Fld.mk 7 0 (-1) (-1) (-1) 0 0 []), (Fld.mk 11 0 (-1) (-1) (-1) 0 10 [(Fld.mk 3 0 (-1) (-1) (-1) 0 0 []), (Fld.mk 2 0 (-1) (-1) (-1) 0 0 []), (Fld.mk 8 0 (-1) 0 (-1) 0 0 [])])]) v y) (x := y)
      unfold canAlterShareGroupOffsetsResponseTopic
      simp only [h.1, h.2]
      exact ⟨(by rw [fit_t (d := 6) (show [(Fld.mk 8 0 (-1) (-1) (-1) 0 0 []), (Fld.mk 7 0 (-1) (-1) (-1) 0 0 []), (Fld.mk 11 0 (-1) (-1) (-1) 0 10 [(Fld.mk 3 0 (-1) (-1) (-1) 0 0 []), (Fld.mk 2 0 (-1) (-1) (-1) 0 0 []), (Fld.mk 8 0 (-1) 0 (-1) 0 0 [])])][0]? = _ from rfl) (by decide)]; exact Nat.le_trans (whole_le _) (by decide)), (trivial), (⟨lst_le2 (d := 6) (show [(Fld.mk 8 0 (-1) (-1) (-1) 0 0 []), (Fld.mk 7 0 (-1) (-1) (-1) 0 0 []), (Fld.mk 11 0 (-1) (-1) (-1) 0 10 [(Fld.mk 3 0 (-1) (-1) (-1) 0 0 []), (Fld.mk 2 0 (-1) (-1) (-1) 0 0 []), (Fld.mk 8 0 (-1) 0 (-1) 0 0 [])])][2]? = _ from rfl), lst_mem (d := 6) (Q := canAlterShareGroupOffsetsResponseTopicPartition) (show [(Fld.mk 8 0 (-1) (-1) (-1) 0 0 []), (Fld.mk 7 0 (-1) (-1) (-1) 0 0 []), (Fld.mk 11 0 (-1) (-1) (-1) 0 10 [(Fld.mk 3 0 (-1) (-1) (-1) 0 0 []), (Fld.mk 2 0 (-1) (-1) (-1) 0 0 []), (Fld.mk 8 0 (-1) 0 (-1) 0 0 [])])][2]? = _ from rfl) fun y => by
          have h := fit_10 (v := v) (d := 6) (x1 := 0) (x2 := -1) (x5 := 0) (x6 := 10) (s := [(Fld.mk 3 0 (-1) (-1) (-1) 0 0 []), (Fld.mk 2 0 (-1) (-1) (-1) 0 0 []), (Fld.mk 8 0 (-1) 0 (-1) 0 0 [])]) (b := Fld.nul (Fld.mk 10 0 (-1) (-1) (-1) 0 10 [(Fld.mk 3 0 (-1) (-1) (-1) 0 0 []), (Fld.mk 2 0 (-1) (-1) (-1) 0 0 []), (Fld.mk 8 0 (-1) 0 (-1) 0 0 [])]) v y) (x := y)
          unfold canAlterShareGroupOffsetsResponseTopicPartition
          simp only [h.1, h.2]
          exact ⟨(trivial), (trivial), (octs_le2 (d := 5) (show [(Fld.mk 3 0 (-1) (-1) (-1) 0 0 []), (Fld.mk 2 0 (-1) (-1) (-1) 0 0 []), (Fld.mk 8 0 (-1) 0 (-1) 0 0 [])][2]? = _ from rfl) (by decide)), (canU_fit), (trivial)⟩⟩), (canU_fit), (trivial)⟩⟩), (canU_fit), (trivial)⟩

set_option maxHeartbeats 4000000 in
theorem pureAlterShareGroupOffsetsResponse (v : Int) (h0 : 0 ≤ v) (h1 : v < 32768) (t : Tree) : tAlterShareGroupOffsetsResponse v (fitT v 8 sAlterShareGroupOffsetsResponseF t) = writeB 8 sAlterShareGroupOffsetsResponseF sAlterShareGroupOffsetsResponseX v t := by
  have f175 : ((fitT v 8 sAlterShareGroupOffsetsResponseF t).at_ 0).N = (t.at_ 0).N := fit_N (d := 7) (show sAlterShareGroupOffsetsResponseF[0]? = _ from rfl) (by decide)
  have f176 : ((fitT v 8 sAlterShareGroupOffsetsResponseF t).at_ 1).N = (t.at_ 1).N := fit_N (d := 7) (show sAlterShareGroupOffsetsResponseF[1]? = _ from rfl) (by decide)
  have f177 := fit_o (v := v) (d := 7) (t := t) (l := sAlterShareGroupOffsetsResponseF) (i := 2) (show sAlterShareGroupOffsetsResponseF[2]? = _ from rfl) (by decide)
  obtain ⟨f178n, f178⟩ := fit_11 (v := v) (d := 7) (t := t) (l := sAlterShareGroupOffsetsResponseF) (i := 3) (show sAlterShareGroupOffsetsResponseF[3]? = _ from rfl)
  have el180 : ∀ y179 : Tree, (fun Ek34 : Tree => (if (decide (v ≥ 0)) = true then (uv ((Ek34.at_ 0).S.length + 1) ++ (Ek34.at_ 0).S) else (be 2 (Ek34.at_ 0).S.length ++ (Ek34.at_ 0).S)) ++ (((sixteenB (Ek34.at_ 1).S)) ++ (((if (decide (v ≥ 0)) = true then (uv ((lst (Ek34.at_ 2)).length + 1)) else (be 4 (lst (Ek34.at_ 2)).length)) ++ ((lst (Ek34.at_ 2)).flatMap fun Ek40 => (be 4 ((IntKind.i32.wrap (Ek40.at_ 0).N))) ++ ((be 2 ((IntKind.i16.wrap (Ek40.at_ 1).N))) ++ ((if (decide (v ≥ 0)) = true then (if (Ek40.at_ 2).null = true then uv 0 else uv ((octOf (Ek40.at_ 2)).length + 1) ++ (octOf (Ek40.at_ 2))) else (if (Ek40.at_ 2).null = true then be 2 (-1) else be 2 (octOf (Ek40.at_ 2)).length ++ (octOf (Ek40.at_ 2)))) ++ (if (decide (v ≥ 0)) = true then (uv Ek40.U.length) ++ (tagsR Ek40.U) else []))))) ++ (if (decide (v ≥ 0)) = true then (uv Ek34.U.length) ++ (tagsR Ek34.U) else [])))) (fitted0 (fitT v 7) (Fld.mk 10 0 (-1) (-1) (-1) 0 10 [(Fld.mk 8 0 (-1) (-1) (-1) 0 0 []), (Fld.mk 7 0 (-1) (-1) (-1) 0 0 []), (Fld.mk 11 0 (-1) (-1) (-1) 0 10 [(Fld.mk 3 0 (-1) (-1) (-1) 0 0 []), (Fld.mk 2 0 (-1) (-1) (-1) 0 0 []), (Fld.mk 8 0 (-1) 0 (-1) 0 0 [])])]) (Fld.nul (Fld.mk 10 0 (-1) (-1) (-1) 0 10 [(Fld.mk 8 0 (-1) (-1) (-1) 0 0 []), (Fld.mk 7 0 (-1) (-1) (-1) 0 0 []), (Fld.mk 11 0 (-1) (-1) (-1) 0 10 [(Fld.mk 3 0 (-1) (-1) (-1) 0 0 []), (Fld.mk 2 0 (-1) (-1) (-1) 0 0 []), (Fld.mk 8 0 (-1) 0 (-1) 0 0 [])])]) v y179) y179) = partB 7 [(Fld.mk 8 0 (-1) (-1) (-1) 0 0 []), (Fld.mk 7 0 (-1) (-1) (-1) 0 0 []), (Fld.mk 11 0 (-1) (-1) (-1) 0 10 [(Fld.mk 3 0 (-1) (-1) (-1) 0 0 []), (Fld.mk 2 0 (-1) (-1) (-1) 0 0 []), (Fld.mk 8 0 (-1) 0 (-1) 0 0 [])])] v (decide (v ≥ 0)) y179 := by
    intro y179
    dsimp only
    obtain ⟨g1811, g1812⟩ := fit_10 (v := v) (d := 7) (x1 := 0) (x2 := -1) (x5 := 0) (x6 := 10) (s := [(Fld.mk 8 0 (-1) (-1) (-1) 0 0 []), (Fld.mk 7 0 (-1) (-1) (-1) 0 0 []), (Fld.mk 11 0 (-1) (-1) (-1) 0 10 [(Fld.mk 3 0 (-1) (-1) (-1) 0 0 []), (Fld.mk 2 0 (-1) (-1) (-1) 0 0 []), (Fld.mk 8 0 (-1) 0 (-1) 0 0 [])])]) (b := Fld.nul (Fld.mk 10 0 (-1) (-1) (-1) 0 10 [(Fld.mk 8 0 (-1) (-1) (-1) 0 0 []), (Fld.mk 7 0 (-1) (-1) (-1) 0 0 []), (Fld.mk 11 0 (-1) (-1) (-1) 0 10 [(Fld.mk 3 0 (-1) (-1) (-1) 0 0 []), (Fld.mk 2 0 (-1) (-1) (-1) 0 0 []), (Fld.mk 8 0 (-1) 0 (-1) 0 0 [])])]) v y179) (x := y179)
    simp only [g1811, g1812]
    have f182 := fit_t (v := v) (d := 6) (t := y179) (l := [(Fld.mk 8 0 (-1) (-1) (-1) 0 0 []), (Fld.mk 7 0 (-1) (-1) (-1) 0 0 []), (Fld.mk 11 0 (-1) (-1) (-1) 0 10 [(Fld.mk 3 0 (-1) (-1) (-1) 0 0 []), (Fld.mk 2 0 (-1) (-1) (-1) 0 0 []), (Fld.mk 8 0 (-1) 0 (-1) 0 0 [])])]) (i := 0) (show [(Fld.mk 8 0 (-1) (-1) (-1) 0 0 []), (Fld.mk 7 0 (-1) (-1) (-1) 0 0 []), (Fld.mk 11 0 (-1) (-1) (-1) 0 10 [(Fld.mk 3 0 (-1) (-1) (-1) 0 0 []), (Fld.mk 2 0 (-1) (-1) (-1) 0 0 []), (Fld.mk 8 0 (-1) 0 (-1) 0 0 [])])][0]? = _ from rfl) (by decide)
    have f183 : ((fitT v 7 [(Fld.mk 8 0 (-1) (-1) (-1) 0 0 []), (Fld.mk 7 0 (-1) (-1) (-1) 0 0 []), (Fld.mk 11 0 (-1) (-1) (-1) 0 10 [(Fld.mk 3 0 (-1) (-1) (-1) 0 0 []), (Fld.mk 2 0 (-1) (-1) (-1) 0 0 []), (Fld.mk 8 0 (-1) 0 (-1) 0 0 [])])] y179).at_ 1).S = (y179.at_ 1).S := fit_S7 (d := 6) (show [(Fld.mk 8 0 (-1) (-1) (-1) 0 0 []), (Fld.mk 7 0 (-1) (-1) (-1) 0 0 []), (Fld.mk 11 0 (-1) (-1) (-1) 0 10 [(Fld.mk 3 0 (-1) (-1) (-1) 0 0 []), (Fld.mk 2 0 (-1) (-1) (-1) 0 0 []), (Fld.mk 8 0 (-1) 0 (-1) 0 0 [])])][1]? = _ from rfl) (by decide)
    obtain ⟨f184n, f184⟩ := fit_11 (v := v) (d := 6) (t := y179) (l := [(Fld.mk 8 0 (-1) (-1) (-1) 0 0 []), (Fld.mk 7 0 (-1) (-1) (-1) 0 0 []), (Fld.mk 11 0 (-1) (-1) (-1) 0 10 [(Fld.mk 3 0 (-1) (-1) (-1) 0 0 []), (Fld.mk 2 0 (-1) (-1) (-1) 0 0 []), (Fld.mk 8 0 (-1) 0 (-1) 0 0 [])])]) (i := 2) (show [(Fld.mk 8 0 (-1) (-1) (-1) 0 0 []), (Fld.mk 7 0 (-1) (-1) (-1) 0 0 []), (Fld.mk 11 0 (-1) (-1) (-1) 0 10 [(Fld.mk 3 0 (-1) (-1) (-1) 0 0 []), (Fld.mk 2 0 (-1) (-1) (-1) 0 0 []), (Fld.mk 8 0 (-1) 0 (-1) 0 0 [])])][2]? = _ from rfl)
    have el186 : ∀ y185 : Tree, (fun Ek40 : Tree => (be 4 ((IntKind.i32.wrap (Ek40.at_ 0).N))) ++ ((be 2 ((IntKind.i16.wrap (Ek40.at_ 1).N))) ++ ((if (decide (v ≥ 0)) = true then (if (Ek40.at_ 2).null = true then uv 0 else uv ((octOf (Ek40.at_ 2)).length + 1) ++ (octOf (Ek40.at_ 2))) else (if (Ek40.at_ 2).null = true then be 2 (-1) else be 2 (octOf (Ek40.at_ 2)).length ++ (octOf (Ek40.at_ 2)))) ++ (if (decide (v ≥ 0)) = true then (uv Ek40.U.length) ++ (tagsR Ek40.U) else [])))) (fitted0 (fitT v 6) (Fld.mk 10 0 (-1) (-1) (-1) 0 10 [(Fld.mk 3 0 (-1) (-1) (-1) 0 0 []), (Fld.mk 2 0 (-1) (-1) (-1) 0 0 []), (Fld.mk 8 0 (-1) 0 (-1) 0 0 [])]) (Fld.nul (Fld.mk 10 0 (-1) (-1) (-1) 0 10 [(Fld.mk 3 0 (-1) (-1) (-1) 0 0 []), (Fld.mk 2 0 (-1) (-1) (-1) 0 0 []), (Fld.mk 8 0 (-1) 0 (-1) 0 0 [])]) v y185) y185) = partB 6 [(Fld.mk 3 0 (-1) (-1) (-1) 0 0 []), (Fld.mk 2 0 (-1) (-1) (-1) 0 0 []), (Fld.mk 8 0 (-1) 0 (-1) 0 0 [])] v (decide (v ≥ 0)) y185 := by
      intro y185
      dsimp only
      obtain ⟨g1871, g1872⟩ := fit_10 (v := v) (d := 6) (x1 := 0) (x2 := -1) (x5 := 0) (x6 := 10) (s := [(Fld.mk 3 0 (-1) (-1) (-1) 0 0 []), (Fld.mk 2 0 (-1) (-1) (-1) 0 0 []), (Fld.mk 8 0 (-1) 0 (-1) 0 0 [])]) (b := Fld.nul (Fld.mk 10 0 (-1) (-1) (-1) 0 10 [(Fld.mk 3 0 (-1) (-1) (-1) 0 0 []), (Fld.mk 2 0 (-1) (-1) (-1) 0 0 []), (Fld.mk 8 0 (-1) 0 (-1) 0 0 [])]) v y185) (x := y185)
      simp only [g1871, g1872]
      have f188 : ((fitT v 6 [(Fld.mk 3 0 (-1) (-1) (-1) 0 0 []), (Fld.mk 2 0 (-1) (-1) (-1) 0 0 []), (Fld.mk 8 0 (-1) 0 (-1) 0 0 [])] y185).at_ 0).N = (y185.at_ 0).N := fit_N (d := 5) (show [(Fld.mk 3 0 (-1) (-1) (-1) 0 0 []), (Fld.mk 2 0 (-1) (-1) (-1) 0 0 []), (Fld.mk 8 0 (-1) 0 (-1) 0 0 [])][0]? = _ from rfl) (by decide)
      have f189 : ((fitT v 6 [(Fld.mk 3 0 (-1) (-1) (-1) 0 0 []), (Fld.mk 2 0 (-1) (-1) (-1) 0 0 []), (Fld.mk 8 0 (-1) 0 (-1) 0 0 [])] y185).at_ 1).N = (y185.at_ 1).N := fit_N (d := 5) (show [(Fld.mk 3 0 (-1) (-1) (-1) 0 0 []), (Fld.mk 2 0 (-1) (-1) (-1) 0 0 []), (Fld.mk 8 0 (-1) 0 (-1) 0 0 [])][1]? = _ from rfl) (by decide)
      have f190 := fit_o (v := v) (d := 5) (t := y185) (l := [(Fld.mk 3 0 (-1) (-1) (-1) 0 0 []), (Fld.mk 2 0 (-1) (-1) (-1) 0 0 []), (Fld.mk 8 0 (-1) 0 (-1) 0 0 [])]) (i := 2) (show [(Fld.mk 3 0 (-1) (-1) (-1) 0 0 []), (Fld.mk 2 0 (-1) (-1) (-1) 0 0 []), (Fld.mk 8 0 (-1) 0 (-1) 0 0 [])][2]? = _ from rfl) (by decide)
      simp only [fit_U, tagsR_whole, wholeU_len, List.flatMap_map, List.length_map, f188, f189, f190.1, f190.2]
      try simp only [be4_i32', be2_i16, be8_i64, be1_i8, be2_wrap, sixteenB_uuid, bool8, be8_f64]
      by_cases n0 : Fld.nul (Fld.mk 8 0 (-1) 0 (-1) 0 0 []) v (y185.at_ 2) = true <;> (try have m0 := nul_ge n0) <;> first | (exfalso; omega) | simp [partB, partW, bodyB, Fld.tag, Fld.has, fieldB, Fld.kind, Fld.null, Fld.of, Fld.sub, valueB, widthI, tagsN, tagsK, knownI, countedB, uv0, nul_no, n0, h0]
    simp only [fit_U, tagsR_whole, wholeU_len, List.flatMap_map, List.length_map, f182, f183, f184n, f184]
    simp only [el186]
    try simp only [be4_i32', be2_i16, be8_i64, be1_i8, be2_wrap, sixteenB_uuid, bool8, be8_f64]
    first | (exfalso; omega) | simp [partB, partW, bodyB, Fld.tag, Fld.has, fieldB, Fld.kind, Fld.null, Fld.of, Fld.sub, valueB, widthI, tagsN, tagsK, knownI, countedB, uv0, nul_no, h0]
  unfold tAlterShareGroupOffsetsResponse
  simp only [fit_U, tagsR_whole, wholeU_len, List.flatMap_map, List.length_map, f175, f176, f177.1, f177.2, f178n, f178]
  simp only [el180]
  try simp only [be4_i32', be2_i16, be8_i64, be1_i8, be2_wrap, sixteenB_uuid, bool8, be8_f64]
  by_cases n0 : Fld.nul (Fld.mk 8 0 (-1) 0 (-1) 0 0 []) v (t.at_ 2) = true <;> (try have m0 := nul_ge n0) <;> first | (exfalso; omega) | simp [writeB, sAlterShareGroupOffsetsResponseX, sAlterShareGroupOffsetsResponseF, partB, partW, bodyB, Fld.tag, Fld.has, fieldB, Fld.kind, Fld.null, Fld.of, Fld.sub, valueB, widthI, tagsN, tagsK, knownI, countedB, uv0, nul_no, n0, h0]

end Go.Proofs.YtnhgfbgdoelfoaaGreatDoor.ME

/- Things of a message in a row that is being laid. Own work. -/
namespace Go.Proofs.YtnhgfbgdoelfoaaGreatDoor.ME
open Go
set_option linter.unusedVariables false
set_option linter.unusedSimpArgs false

def dv0 : DV := .leaf
end Go.Proofs.YtnhgfbgdoelfoaaGreatDoor.ME

/- Lists of a message, laid anew: data against trees. Own work. -/
namespace Go.Proofs.YtnhgfbgdoelfoaaGreatDoor.ME
open Go
open Go.RowKit
set_option linter.unusedVariables false
set_option linter.unusedSimpArgs false

/-- what is known of data stays known where nothing of it is written -/
def Moves (ok : World → (Nat → Nat → Prop) → DV → Prop) : Prop := ∀ {w w' : World} {F F' M : Nat → Nat → Prop} (d : DV), Step w w' M → (∀ b o, F b o → b < w.heap.size → ¬ M b o) → (∀ b o, F b o → b < w.heap.size → F' b o) → ok w F d → ok w' F' d
section
variable {w w' w0 : World} {F F' M : Nat → Nat → Prop} {size : Nat} {cells : DV → List Value} {ok : World → (Nat → Nat → Prop) → DV → Prop} {rel : DV → Tree → Prop} {xs : List Value} {ds : List DV} {ts : List Tree} {A : Option Addr} {c : Nat} {f : Nat → DV} {tb : Tb} {rs rs' : List Rw}
end
/-- two ways that come together again -/
theorem wp_join {P : Program} {c : Code} {Mid N : Act → World → Prop} {Q : Exit → Act → World → Prop} {a : Act} {w : World} (h1 : c.wp P (Exit.then Mid Q) a w) (h2 : ∀ a' w', Mid a' w' → N a' w') : c.wp P (Exit.then N Q) a w :=
  wp_mono h1 fun e a' w' h => by
    cases e <;> first | exact h2 a' w' h | exact h
/-- a number as a datum -/
def dvN (n : Int) : DV := .mk n false ByteArray.empty [] none 0 0 none [] (fun _ => .leaf)
def dvS (s : ByteArray) : DV := .mk 0 false s [] none 0 0 none [] (fun _ => .leaf)
def dvT (A : Option Addr) (s : ByteArray) : DV := .mk 0 false s [] A 0 0 none [] (fun _ => .leaf)
def dvO (A : Option Addr) (o : Bs) (c : Nat) : DV := .mk 0 false ByteArray.empty o A 0 c none [] (fun _ => .leaf)
def dvL (A : Option Addr) (l c : Nat) (f : Nat → DV) : DV := .mk 0 false ByteArray.empty [] A l c none [] f
def dvP (m : Option Nat) (u : List (Int × Bs)) (fs : List DV) : DV := .mk 0 false ByteArray.empty [] none 0 0 m u (fun i => fs.getD i .leaf)

/-- slots that hold addresses, in a table -/
theorem EnvOk.retable {n : Nat} {env : Env} {a : Act} (tb : Tb) (h : EnvOk n [] env a) : EnvOk n tb env a := h.table fun i hi => absurd hi (Nat.not_lt_zero i)

end Go.Proofs.YtnhgfbgdoelfoaaGreatDoor.ME

/- Reading: parts of octets, and the reader's state. Own work. -/
namespace Go.Proofs.YtnhgfbgdoelfoaaGreatDoor.ME
open Go
open Go.RowKit
set_option linter.unusedVariables false
set_option linter.unusedSimpArgs false

/-- the address behind the first j octets -/
def cutA (A : Option Addr) (cp j : Nat) : Option Addr := if cp = j then A else A.map (·.add j)
theorem getD_drop (s : Bs) (j i : Nat) : (s.drop j).getD i 0 = s.getD (j + i) 0 := by
  rw [List.getD_eq_getElem?_getD, List.getD_eq_getElem?_getD, List.getElem?_drop]
theorem Octs.drop {w : World} {F : Nat → Nat → Prop} {A : Option Addr} {c : Nat} {s : Bs} (h : Octs w F A c s) {j : Nat} (hj : j ≤ s.length) : Octs w F (cutA A c j) (c - j) (s.drop j) := by
  have hle := h.le
  have hsm := h.small
  unfold Octs
  rw [List.length_drop]
  refine ⟨by omega, by omega, fun hA => ?_, fun ad hA hn => ?_⟩
  · have hn : A = none := by
      unfold cutA at hA
      split at hA
      · exact hA
      · cases A with
        | none => rfl
        | some _ => cases hA
    have := h.none_ hn
    omega
  · have hA' : A.map (·.add j) = some ad := by
      unfold cutA at hA
      rwa [if_neg (by omega)] at hA
    cases hq : A with
    | none => rw [hq] at hA'; cases hA'
    | some ad0 =>
      rw [hq] at hA'
      obtain ⟨b, o, rfl, h2⟩ := h.some_ ad0 hq (by omega)
      simp only [Option.map_some, Option.some.injEq, add_none] at hA'
      subst hA'
      refine ⟨b, o + j, rfl, fun i hi => ?_⟩
      rw [getD_drop, show o + j + i * 1 = o + (j + i) * 1 by omega]
      exact h2 (j + i) (by omega)
theorem Octs.cutS {w : World} {F : Nat → Nat → Prop} {A : Option Addr} {c : Nat} {s : Bs} (h : Octs w F A c s) {j : Nat} (hj : j ≤ s.length) : Octs w F A j (s.take j) := by
  have h1 := h.take j
  refine ⟨by rw [List.length_take]; omega, h1.small, fun hA => ?_, h1.some_⟩
  have := h.none_ hA
  rw [List.length_take]; omega

section
variable {P : Program} {ops : Array Oper} {Q : Exit → Act → World → Prop} {n : Nat} {tb : Tb} {env : Env} {rs : List Rw} {w0 : World} {M : Nat → Nat → Prop} {a : Act} {w : World}
theorem run_cut_lo {t e : TypeId} {bytes : Nat} (ht : rowTy P t = some (e, 1, bytes)) {A : Option Addr} {m cp : Nat} {k : IntKind} {q : Int} (h0 : 0 ≤ q) (h1 : q ≤ m) :
    (Instr.sliceAt t (.slice A m cp) (some (.int k q)) none none).run P w = .ok (.slice (cutA A cp q.toNat) (m - q.toNat) (cp - q.toNat)) w := by
  obtain ⟨ht', inf, z, hi, hz, hzs, hs1, rfl, hsz, hbp⟩ := rowTy_ok ht
  unfold Instr.sliceAt
  simp only [Sem.run_bind, run_underlying ht', Result.andThen_ok]
  unfold Instr.slice
  have hb : (0 ≤ q ∧ q ≤ (m : Int)) := ⟨h0, h1⟩
  simp only [Sem.run_bind, run_underlying ht', Result.andThen_ok, Instr.sliceBounds, Instr.sliceBound, asIntOf, Sem.run_pure, if_pos hb, run_sizeOf' hi, hs1, Nat.mul_one]
  rfl
theorem run_cut_hm {t e : TypeId} {bytes : Nat} (ht : rowTy P t = some (e, 1, bytes)) {A : Option Addr} {m cp : Nat} {k : IntKind} {q : Int} (h0 : 0 ≤ q) (h1 : q ≤ cp) :
    (Instr.sliceAt t (.slice A m cp) none (some (.int k q)) (some (.int k q))).run P w = .ok (.slice A q.toNat q.toNat) w := by
  obtain ⟨ht', inf, z, hi, hz, hzs, hs1, rfl, hsz, hbp⟩ := rowTy_ok ht
  unfold Instr.sliceAt
  simp only [Sem.run_bind, run_underlying ht', Result.andThen_ok]
  unfold Instr.slice
  have hb : (0 ≤ q ∧ q ≤ (cp : Int)) := ⟨h0, h1⟩
  have hb2 : (0 ≤ q ∧ q ≤ ((q.toNat : Nat) : Int)) := ⟨h0, by omega⟩
  simp only [Sem.run_bind, run_underlying ht', Result.andThen_ok, Instr.sliceBounds, Instr.sliceBound, asIntOf, Sem.run_pure, if_pos hb, if_pos hb2, run_sizeOf' hi]
  cases A with
  | none => simp
  | some ad => simp [Addr.add]
theorem wpOp_cut_lo {i d j : Nat} {N : Act → World → Prop} {t e : TypeId} {bytes m cp : Nat} {A : Option Addr} {q : Int} (hE : EnvOk n tb env a) (h : cutE tb env ops n i = some (t, .slice A m cp, some q, none, d)) (ht : rowTy P t = some (e, 1, bytes)) (hq : q = (j : Int)) (hj : j ≤ m)
    (K : ∀ a', EnvOk n tb ((d, .v (.slice (cutA A cp j) (m - j) (cp - j))) :: env) a' → N a' w) : wpOp P ops Q i N a w := by
  have h0 : 0 ≤ q := by omega
  have h1 : q ≤ m := by omega
  obtain rfl : j = q.toNat := by omega
  unfold cutE at h
  split at h
  · rename_i t' x lo hi d' ho
    have hd : d' < n := (opAt_ok hE ho).choose_spec.2.2.2.1
    split at h
    · simp at h
    · rename_i s l hs
      split at h
      · rename_i k q' hs2
        simp only [Option.some.injEq, Prod.mk.injEq, true_and] at h
        obtain ⟨rfl, hsv, rfl, rfl⟩ := h
        have e1 := (opd_ok hE hs).1
        have e2 := (opd_ok hE hs2).1
        refine wpOp_value hE ho (v := .slice (cutA A cp q'.toNat) (m - q'.toNat) (cp - q'.toNat)) (w' := w) (fun o' hop => ?_) (K _ (hE.put hd (.v _) trivial))
        unfold execOp
        rw [hop]
        rw [hsv] at e1
        simp only [SV.val] at e2
        simp only [e1, e2, Option.map_none, Option.map_some, Sem.run_bind, run_cut_lo ht h0 h1, Result.andThen_ok, Sem.run_pure]
      · cases h
    · split at h <;> simp at h
    · split at h <;> simp at h
    · cases h
  · cases h
/-- 'x[:q:q]' -/
def cutmE (tb : Tb) (env : Env) (ops : Array Oper) (n i : Nat) : Option (TypeId × Value × IntKind × Int × IntKind × Int × Nat) :=
  match opAt env ops n i with
  | some (.slice t x none (some h) (some m), d) => match opd env x, opd env h, opd env m with
    | some s, some (.v (.int k p)), some (.v (.int k' q)) => some (t, s.val tb, k, p, k', q, d)
    | _, _, _ => none
  | _ => none
theorem wpOp_cutm {i d j : Nat} {N : Act → World → Prop} {t e : TypeId} {bytes m cp : Nat} {A : Option Addr} {k : IntKind} {q : Int} (hE : EnvOk n tb env a) (h : cutmE tb env ops n i = some (t, .slice A m cp, k, q, k, q, d)) (ht : rowTy P t = some (e, 1, bytes)) (hq : q = (j : Int)) (hj : j ≤ cp)
    (K : ∀ a', EnvOk n tb ((d, .v (.slice A j j)) :: env) a' → N a' w) : wpOp P ops Q i N a w := by
  have h0 : 0 ≤ q := by omega
  have h1 : q ≤ cp := by omega
  obtain rfl : j = q.toNat := by omega
  unfold cutmE at h
  split at h
  · rename_i t' x hh mm d' ho
    have hd : d' < n := (opAt_ok hE ho).choose_spec.2.2.2.1
    split at h
    · rename_i s k1 p1 k2 q2 g1 g2 g3
      simp only [Option.some.injEq, Prod.mk.injEq] at h
      obtain ⟨rfl, hsv, rfl, rfl, rfl, rfl, rfl⟩ := h
      have f1 := (opd_ok hE g1).1
      have f2 := (opd_ok hE g2).1
      have f3 := (opd_ok hE g3).1
      rw [hsv] at f1
      simp only [SV.val] at f2 f3
      refine wpOp_value hE ho (v := .slice A q2.toNat q2.toNat) (w' := w) (fun o' hop => ?_) (K _ (hE.put hd (.v _) trivial))
      unfold execOp
      rw [hop]
      simp only [f1, f2, f3, Option.map_none, Option.map_some, Sem.run_bind, run_cut_hm ht h0 h1, Result.andThen_ok, Sem.run_pure]
    · cases h
  · cases h
end

/-- the octets that a reader has before it -/
structure RdS (w : World) (F : Nat → Nat → Prop) (A : Option Addr) (n c : Nat) (s : Bs) : Prop where
  len : n = s.length
  oct : Octs w F A c s
theorem RdS.move {w w' : World} {F F' M : Nat → Nat → Prop} {A : Option Addr} {n c : Nat} {s : Bs} (h : RdS w F A n c s) (hs : Step w w' M) (hM : ∀ b o, F b o → b < w.heap.size → ¬ M b o) (hF : ∀ b o, F b o → b < w.heap.size → F' b o) : RdS w' F' A n c s := ⟨h.len, Octs.move h.oct hs hM hF⟩
theorem RdS.cast {w : World} {F : Nat → Nat → Prop} {A : Option Addr} {n c : Nat} {s t : Bs} (h : RdS w F A n c s) (e : s = t) : RdS w F A n c t := e ▸ h
theorem RdS.drop {w : World} {F : Nat → Nat → Prop} {A : Option Addr} {n c j : Nat} {s t : Bs} (h : RdS w F A n c (s ++ t)) (hj : j = s.length) : RdS w F (cutA A c j) (n - j) (c - j) t := by
  subst hj
  have h1 := h.oct.drop (j := s.length) (by rw [List.length_append]; omega)
  rw [List.drop_left] at h1
  exact ⟨by rw [h.len, List.length_append]; omega, h1⟩
theorem RdS.front {w : World} {F : Nat → Nat → Prop} {A : Option Addr} {n c j : Nat} {s t : Bs} (h : RdS w F A n c (s ++ t)) (hj : j = s.length) : Octs w F A j s := by
  subst hj
  have h1 := h.oct.cutS (j := s.length) (by rw [List.length_append]; omega)
  rwa [List.take_left] at h1
/-- the reader's two cells, and nothing else of what was there, may be written -/
def RdM (br : Nat) : Nat → Nat → Prop := fun b o => b = br ∧ o < 2
def RdPost (w : World) (br : Nat) (F : Nat → Nat → Prop) (rest : Bs) (Q : Value → World → Prop) : Ending → World → Prop := fun e w' =>
  ∃ v A' n' c', e = .returned v ∧ Str w' br [.slice A' n' c', .bool false] ∧ RdS w' F A' n' c' rest ∧ Step w w' (RdM br) ∧ Q v w'
theorem WOk.startStr {w : World} {p : Nat} {cs : List Value} (h : Str w p cs) (hn : Nat.blt 0 cs.length = true := by kernel_rfl) : WOk w (fun b o => b = p ∧ o < cs.length) w [⟨p, 0, cs, true⟩] [] := by
  have hn' : 0 < cs.length := by simpa [Nat.blt_eq] using hn
  exact (WOk.start w _).add ⟨p, 0, cs, true⟩ (World.lt_of_cell (h.at_ 0 _ (List.getElem?_eq_getElem hn'))) (fun j v hj => by rw [Nat.zero_add]; exact h.at_ j v hj) (fun _ j hj => ⟨.inr ⟨rfl, by rw [Nat.zero_add]; exact hj⟩, by rw [Nat.zero_add]; exact h.frz j hj⟩) (fun i o hi => by simp at hi) (fun i r hi => by simp at hi)
/-- a call has written one of the known places anew -/
theorem WOk.wrote {w0 w w' : World} {M : Nat → Nat → Prop} {tb : Tb} {rs : List Rw} {p : Nat} {cs cs' : List Value} (hW : WOk w0 M w tb rs) (i : Nat) (tb' : Tb) (hi : tb[i]? = some ⟨p, 0, cs, true⟩) (hst : Step w w' (fun b o => b = p ∧ o < cs.length)) (hs : Str w' p cs') (ht : tb.set i ⟨p, 0, cs', true⟩ = tb' := by rfl) (hl : cs'.length = cs.length := by rfl) :
    WOk w0 M w' tb' rs ∧ Fr w tb rs w' tb' rs ∧ ∀ {G : Nat → Nat → Prop} (b o : Nat), Fp (Imm G w0 w tb rs) w b o → b < w'.heap.size → Imm G w0 w' tb' rs b o := by
  subst ht
  have key : ∀ (j : Nat) (o : Ob), (tb.set i ⟨p, 0, cs', true⟩)[j]? = some o → (j = i ∧ o = ⟨p, 0, cs', true⟩) ∨ (j ≠ i ∧ tb[j]? = some o) := fun j o hj => by
    rcases set_get hj with ⟨h1, h2, _⟩ | ⟨h1, h2⟩
    · exact .inl ⟨h1, h2⟩
    · exact .inr ⟨h1, h2⟩
  have far : ∀ (j : Nat) (o : Ob), j ≠ i → tb[j]? = some o → ∀ q, q < o.cells.length → ¬ (o.blk = p ∧ o.off + q < cs.length) := fun j o hne hj q hq e => by
    rcases hW.apart j i o _ hne hj hi (.inr rfl) with h1 | h1 | h1
    · exact h1 e.1
    · simp only [Nat.le_zero] at h1; omega
    · simp only [Nat.zero_add] at h1; omega
  have act : ∀ b o, Act_ (tb.set i ⟨p, 0, cs', true⟩) rs b o → Act_ tb rs b o := fun b o ha => by
    rcases ha with ⟨j, ob, hj, h1, h2, h3, h4⟩ | ha
    · rcases key j ob hj with ⟨rfl, rfl⟩ | ⟨_, hj⟩
      · exact .inl ⟨j, _, hi, rfl, h2, h3, by simpa [hl] using h4⟩
      · exact .inl ⟨j, ob, hj, h1, h2, h3, h4⟩
    · exact .inr ha
  refine ⟨⟨hW.step.trans hst fun b o hb e => ?_, ?_, ?_, ?_, ?_, ?_, hW.ownM, ?_, hW.rr⟩, ⟨fun b o _ hn ha => hn (act b o ha), hst.mono fun b o _ e => .inl ⟨i, _, hi, rfl, e.1.symm, Nat.zero_le _, by simpa using e.2⟩⟩, fun b o hf hb => ?_⟩
  rotate_right
  · rcases hf with hf | hf
    · exact ⟨hf.1, hb, fun ha => hf.2.2 (act b o ha)⟩
    · exact ⟨.inr (Nat.le_trans hW.step.size hf), hb, fun ha => by have := hW.act_live (act b o ha); omega⟩
  · have h1 := (hW.rw_ i _ hi rfl o e.2).1
    simp only [Nat.zero_add] at h1
    rcases h1 with h1 | h1
    · have := e.1; omega
    · rw [e.1]; exact h1
  · intro j o hj q v hv
    rcases key j o hj with ⟨rfl, rfl⟩ | ⟨hne, hj⟩
    · dsimp only
      rw [Nat.zero_add]
      exact hs.at_ q v hv
    · exact hst.cell (far j o hne hj q (List.getElem?_eq_some_iff.1 hv).1) (hW.cells j o hj q v hv)
  · intro j o hj
    rcases key j o hj with ⟨rfl, rfl⟩ | ⟨_, hj⟩
    · have h1 := hW.live j _ hi
      exact Nat.lt_of_lt_of_le h1 hst.size
    · exact Nat.lt_of_lt_of_le (hW.live j o hj) hst.size
  · intro j o hj hr q hq
    rcases key j o hj with ⟨rfl, rfl⟩ | ⟨hne, hj⟩
    · dsimp only at hq ⊢
      refine ⟨(hW.rw_ j _ hi rfl q (by simpa [hl] using hq)).1, ?_⟩
      rw [Nat.zero_add]
      exact hs.frz q hq
    · obtain ⟨h1, h2⟩ := hW.rw_ j o hj hr q hq
      exact ⟨h1, hst.frozen (far j o hne hj q hq) (hW.cells j o hj q _ (List.getElem?_eq_getElem hq)) h2⟩
  · intro j k o o' hjk hj hk hw
    rcases key j o hj with ⟨rfl, rfl⟩ | ⟨hne, hj'⟩
    · rcases key k o' hk with ⟨rfl, rfl⟩ | ⟨hne', hk'⟩
      · exact absurd rfl hjk
      · have := hW.apart j k _ o' hjk hi hk' (.inl rfl)
        simpa [hl] using this
    · rcases key k o' hk with ⟨rfl, rfl⟩ | ⟨hne', hk'⟩
      · have := hW.apart j k o _ hjk hj' hi (.inr rfl)
        simpa [hl] using this
      · exact hW.apart j k o o' hjk hj' hk' hw
  · intro j r hj
    refine own_keep (hW.own j r hj) fun g hg => (hst.keeps g (own_live (hW.own j r hj) hg)).1 fun o e => ?_
    exact hW.rtb j r hj g hg i _ hi e.1.symm
  · intro j r hj g hg k o hk
    rcases key k o hk with ⟨rfl, rfl⟩ | ⟨_, hk⟩
    · have h1 := hW.rtb j r hj g hg k _ hi
      exact h1
    · exact hW.rtb j r hj g hg k o hk
/-- a row that is not written any more -/
theorem WOk.giveUp {G : Nat → Nat → Prop} {w0 w : World} {tb : Tb} {rs : List Rw} {A : Option Addr} {c e : Nat} {s : Bs} (hW : WOk w0 Nil w tb rs) (k : Nat) (rs' : List Rw) (hk : rs[k]? = some (brow A c e s)) (hsm : s.length ≤ 1099511627776) (hr : rs.take k = rs' := by rfl) : Octs w (Imm G w0 w tb rs') A c s := by
  subst hr
  refine octs_own (hW.own k _ hk) hsm fun g hg o => ?_
  have hb := own_live (hW.own k _ hk) (r := brow A c e s) hg
  refine ⟨?_, hb, fun ha => ?_⟩
  · rcases hW.ownM k _ hk g hg with h2 | h2
    · exact .inr h2
    · exact (h2 0).elim
  · rcases ha with ⟨i, ob, h2, _, h3, _⟩ | ⟨i, r, h2, h3⟩
    · exact hW.rtb k _ hk g hg i ob h2 h3
    · rw [List.getElem?_take] at h2
      split at h2
      · rename_i hlt
        exact hW.rr k i _ r (by omega) hk h2 g hg h3
      · cases h2
theorem imm_blk {G : Nat → Nat → Prop} {w0 w : World} {tb : Tb} {rs : List Rw} {r : Rw} {A : Option Addr} (k : Nat) (hk : rs[k]? = some r) (hA : r.A = A := by rfl) : ∀ b o, Imm G w0 w tb rs b o → ¬ Blk A b o := fun b o h hB => by
  subst hA
  exact h.2.2 (.inr ⟨k, r, hk, hB⟩)
/-- a struct that is not written any more -/
theorem WOk.strImm {G : Nat → Nat → Prop} {w0 w : World} {tb : Tb} {rs : List Rw} {p : Nat} {cs : List Value} (hW : WOk w0 Nil w tb rs) (i : Nat) (hi : tb[i]? = some ⟨p, 0, cs, true⟩) : AtF w (Imm G w0 w [] rs) p 0 cs := fun j v hj => by
  have h1 := hW.cells i _ hi j v hj
  have hlt : j < cs.length := (List.getElem?_eq_some_iff.1 hj).1
  refine ⟨⟨?_, hW.live i _ hi, fun ha => ?_⟩, h1⟩
  · rcases (hW.rw_ i _ hi rfl j hlt).1 with h2 | h2
    · exact .inr h2
    · exact h2.elim
  · rcases ha with ⟨k, ob, h2, _⟩ | ⟨k, r, h2, h3⟩
    · simp at h2
    · exact hW.rtb k r h2 p h3 i _ hi rfl
theorem imm_not {G : Nat → Nat → Prop} {w0 w : World} {tb : Tb} {rs : List Rw} {p : Nat} {cs : List Value} (i : Nat) (hi : tb[i]? = some ⟨p, 0, cs, true⟩) : ∀ b o, Imm G w0 w tb rs b o → ¬ (b = p ∧ o < cs.length) := fun b o h e => by
  obtain ⟨rfl, h2⟩ := e
  exact h.2.2 (.inl ⟨i, _, hi, rfl, rfl, Nat.zero_le _, by simpa using h2⟩)

end Go.Proofs.YtnhgfbgdoelfoaaGreatDoor.ME

/- Reading: numbers out of octets. Plain facts. Own work. -/
namespace Go.Proofs.YtnhgfbgdoelfoaaGreatDoor.ME
open Go
set_option linter.unusedVariables false
set_option linter.unusedSimpArgs false

theorem scope_ret {Q : Exit → Act → World → Prop} {a : Act} {w : World} (h : Q .ret a w) : Exit.noGoto Q .ret a w := h
theorem or_join (k : IntKind) (n : Nat) (hn : n = k.bits) (hk : ∀ z : Int, 0 ≤ z → z < 2 ^ n → k.wrap z = z) (i : Nat) (y x : Int) (h0 : 0 ≤ y) (h1 : y < 2 ^ i) (h2 : y < 2 ^ n) (h3 : 0 ≤ x) (h4 : x % 2 ^ i = 0) (h5 : x < 2 ^ n) :
    k.wrap (BitVec.ofInt n y ||| BitVec.ofInt n x).toNat = y + x := by
  subst hn
  exact bits_join_low k k.bits (Nat.le_refl _) hk i y x h0 h1 h2 h3 h4 h5
theorem or16 (i : Nat) (y x : Int) (h0 : 0 ≤ y) (h1 : y < 2 ^ i) (h2 : y < 2 ^ 16) (h3 : 0 ≤ x) (h4 : x % 2 ^ i = 0) (h5 : x < 2 ^ 16) : IntKind.u16.wrap (BitVec.ofInt 16 y ||| BitVec.ofInt 16 x).toNat = y + x :=
  or_join .u16 16 rfl (fun z a b => by rw [wrap_u16]; omega) i y x h0 h1 h2 h3 h4 h5
theorem or32 (i : Nat) (y x : Int) (h0 : 0 ≤ y) (h1 : y < 2 ^ i) (h2 : y < 2 ^ 32) (h3 : 0 ≤ x) (h4 : x % 2 ^ i = 0) (h5 : x < 2 ^ 32) : IntKind.u32.wrap (BitVec.ofInt 32 y ||| BitVec.ofInt 32 x).toNat = y + x :=
  or_join .u32 32 rfl (fun z a b => by rw [wrap_u32]; omega) i y x h0 h1 h2 h3 h4 h5
theorem and128 (n : Nat) (h : n < 256) : (IntKind.u8.wrap (BitVec.ofInt 8 ((n : Nat) : Int) &&& BitVec.ofInt 8 128).toNat == 0) = decide (n < 128) := by
  have : ∀ m : Fin 256, (IntKind.u8.wrap (BitVec.ofInt 8 ((m.val : Nat) : Int) &&& BitVec.ofInt 8 128).toNat == 0) = decide (m.val < 128) := by decide +kernel
  exact this ⟨n, h⟩
theorem and127b (n : Nat) (h : n < 256) : IntKind.u8.wrap (BitVec.ofInt 8 ((n : Nat) : Int) &&& BitVec.ofInt 8 127).toNat = ((n % 128 : Nat) : Int) := by
  have : ∀ m : Fin 256, IntKind.u8.wrap (BitVec.ofInt 8 ((m.val : Nat) : Int) &&& BitVec.ofInt 8 127).toNat = ((m.val % 128 : Nat) : Int) := by decide +kernel
  exact this ⟨n, h⟩
/-- one octet of some -/
def oc (s : Bs) (i : Nat) : Nat := (s.getD i 0).toNat
theorem oc_lt (s : Bs) (i : Nat) : oc s i < 256 := (s.getD i 0).toNat_lt
theorem oc_cons (b : UInt8) (s : Bs) (i : Nat) : oc (b :: s) (i + 1) = oc s i := rfl
theorem oc_zero (b : UInt8) (s : Bs) : oc (b :: s) 0 = b.toNat := rfl
theorem oc_by8 (x : Int) (s : Bs) : ((oc (by8 x :: s) 0 : Nat) : Int) = x % 256 := by rw [oc_zero, by8_toNat]
def be16 (s : Bs) : Int := ((oc s 0 : Nat) : Int) * 256 + oc s 1
def be32 (s : Bs) : Int := ((oc s 0 : Nat) : Int) * 16777216 + oc s 1 * 65536 + oc s 2 * 256 + oc s 3
theorem be16_be (x : Int) (s : Bs) : be16 (be 2 x ++ s) = IntKind.u16.wrap x := by
  rw [wrap_u16]
  simp only [be, List.cons_append, List.nil_append, be16, oc_cons, oc_by8, Int.reducePow]
  omega
theorem be32_be (x : Int) (s : Bs) : be32 (be 4 x ++ s) = IntKind.u32.wrap x := by
  rw [wrap_u32]
  simp only [be, List.cons_append, List.nil_append, be32, oc_cons, oc_by8, Int.reducePow]
  omega
theorem i16w (x : Int) : IntKind.i16.wrap x = (x + 32768) % 65536 - 32768 := by simp [IntKind.wrap, IntKind.signed, IntKind.bits]; omega
theorem i32w (x : Int) : IntKind.i32.wrap x = (x + 2147483648) % 4294967296 - 2147483648 := by simp [IntKind.wrap, IntKind.signed, IntKind.bits]; omega
theorem i64w (x : Int) : IntKind.i64.wrap x = (x + 9223372036854775808) % 18446744073709551616 - 9223372036854775808 := by simp [IntKind.wrap, IntKind.signed, IntKind.bits]; omega
theorem i16_u16 (x : Int) : IntKind.i16.wrap (IntKind.u16.wrap x) = IntKind.i16.wrap x := by rw [i16w, i16w, wrap_u16]; omega
theorem i32_u32 (x : Int) : IntKind.i32.wrap (IntKind.u32.wrap x) = IntKind.i32.wrap x := by rw [i32w, i32w, wrap_u32]; omega
theorem ww16 (x : Int) : IntKind.i16.wrap (IntKind.i16.wrap x) = IntKind.i16.wrap x := by rw [i16w, i16w]; omega
theorem ww32 (x : Int) : IntKind.i32.wrap (IntKind.i32.wrap x) = IntKind.i32.wrap x := by rw [i32w, i32w]; omega
/-- the octets of a number in groups of seven bits, one by one -/
theorem uv_oc {x : Nat} (s : Bs) : oc (uv x ++ s) 0 = if x < 128 then x else x % 128 + 128 := by
  by_cases h : x < 128
  · rw [uv_small h, if_pos h]
    show (UInt8.ofNat x).toNat = x
    rw [UInt8.toNat_ofNat']; omega
  · rw [uv_big (by omega), if_neg h]
    show (UInt8.ofNat (x % 128 + 128)).toNat = _
    rw [UInt8.toNat_ofNat']; omega
theorem uv_oc1 {x : Nat} (h : 128 ≤ x) (s : Bs) (i : Nat) : oc (uv x ++ s) (i + 1) = oc (uv (x / 128) ++ s) i := by
  rw [uv_big h]; rfl

theorem u16_le (b0 b1 : Nat) (h0 : b0 < 256) (h1 : b1 < 256) : IntKind.u16.wrap (BitVec.ofInt 16 (IntKind.u16.wrap (((b1 : Nat) : Int))) ||| BitVec.ofInt 16 (IntKind.u16.wrap (IntKind.u16.wrap (((b0 : Nat) : Int)) * 256))).toNat = ((b0 : Nat) : Int) * 256 + ((b1 : Nat) : Int) := by
  have e1 : IntKind.u16.wrap (BitVec.ofInt 16 (IntKind.u16.wrap (((b1 : Nat) : Int))) ||| BitVec.ofInt 16 (IntKind.u16.wrap (IntKind.u16.wrap (((b0 : Nat) : Int)) * 256))).toNat = ((b1 : Nat) : Int) + ((b0 : Nat) : Int) * 256 := by
    rw [or16 8 _ _ (by first | omega | (simp only [wrap_u16]; omega)) (by first | omega | (simp only [wrap_u16]; omega)) (by first | omega | (simp only [wrap_u16]; omega)) (by first | omega | (simp only [wrap_u16]; omega)) (by first | omega | (simp only [wrap_u16]; omega)) (by first | omega | (simp only [wrap_u16]; omega))]; first | omega | (simp only [wrap_u16]; omega)
  rw [e1]
  omega
theorem u32_le (b0 b1 b2 b3 : Nat) (h0 : b0 < 256) (h1 : b1 < 256) (h2 : b2 < 256) (h3 : b3 < 256) : IntKind.u32.wrap (BitVec.ofInt 32 (IntKind.u32.wrap (BitVec.ofInt 32 (IntKind.u32.wrap (BitVec.ofInt 32 (IntKind.u32.wrap (((b3 : Nat) : Int))) ||| BitVec.ofInt 32 (IntKind.u32.wrap (IntKind.u32.wrap (((b2 : Nat) : Int)) * 256))).toNat) ||| BitVec.ofInt 32 (IntKind.u32.wrap (IntKind.u32.wrap (((b1 : Nat) : Int)) * 65536))).toNat) ||| BitVec.ofInt 32 (IntKind.u32.wrap (IntKind.u32.wrap (((b0 : Nat) : Int)) * 16777216))).toNat = ((b0 : Nat) : Int) * 16777216 + ((b1 : Nat) : Int) * 65536 + ((b2 : Nat) : Int) * 256 + ((b3 : Nat) : Int) := by
  have e1 : IntKind.u32.wrap (BitVec.ofInt 32 (IntKind.u32.wrap (((b3 : Nat) : Int))) ||| BitVec.ofInt 32 (IntKind.u32.wrap (IntKind.u32.wrap (((b2 : Nat) : Int)) * 256))).toNat = ((b3 : Nat) : Int) + ((b2 : Nat) : Int) * 256 := by
    rw [or32 8 _ _ (by first | omega | (simp only [wrap_u32]; omega)) (by first | omega | (simp only [wrap_u32]; omega)) (by first | omega | (simp only [wrap_u32]; omega)) (by first | omega | (simp only [wrap_u32]; omega)) (by first | omega | (simp only [wrap_u32]; omega)) (by first | omega | (simp only [wrap_u32]; omega))]; first | omega | (simp only [wrap_u32]; omega)
  have e2 : IntKind.u32.wrap (BitVec.ofInt 32 (((b3 : Nat) : Int) + ((b2 : Nat) : Int) * 256) ||| BitVec.ofInt 32 (IntKind.u32.wrap (IntKind.u32.wrap (((b1 : Nat) : Int)) * 65536))).toNat = ((b3 : Nat) : Int) + ((b2 : Nat) : Int) * 256 + ((b1 : Nat) : Int) * 65536 := by
    rw [or32 16 _ _ (by first | omega | (simp only [wrap_u32]; omega)) (by first | omega | (simp only [wrap_u32]; omega)) (by first | omega | (simp only [wrap_u32]; omega)) (by first | omega | (simp only [wrap_u32]; omega)) (by first | omega | (simp only [wrap_u32]; omega)) (by first | omega | (simp only [wrap_u32]; omega))]; first | omega | (simp only [wrap_u32]; omega)
  have e3 : IntKind.u32.wrap (BitVec.ofInt 32 (((b3 : Nat) : Int) + ((b2 : Nat) : Int) * 256 + ((b1 : Nat) : Int) * 65536) ||| BitVec.ofInt 32 (IntKind.u32.wrap (IntKind.u32.wrap (((b0 : Nat) : Int)) * 16777216))).toNat = ((b3 : Nat) : Int) + ((b2 : Nat) : Int) * 256 + ((b1 : Nat) : Int) * 65536 + ((b0 : Nat) : Int) * 16777216 := by
    rw [or32 24 _ _ (by first | omega | (simp only [wrap_u32]; omega)) (by first | omega | (simp only [wrap_u32]; omega)) (by first | omega | (simp only [wrap_u32]; omega)) (by first | omega | (simp only [wrap_u32]; omega)) (by first | omega | (simp only [wrap_u32]; omega)) (by first | omega | (simp only [wrap_u32]; omega))]; first | omega | (simp only [wrap_u32]; omega)
  rw [e1, e2, e3]
  omega
theorem uv_1 (b0 : Nat) (h0 : b0 < 256) : IntKind.u32.wrap (IntKind.u8.wrap (BitVec.ofInt 8 ((b0 : Nat) : Int) &&& BitVec.ofInt 8 127).toNat) = ((b0 % 128 : Nat) : Int) := by
  rw [and127b b0 h0, wrap_u32]; omega
theorem uv_2 (b0 b1 : Nat) (h0 : b0 < 256) (h1 : b1 < 256) : IntKind.u32.wrap (BitVec.ofInt 32 (IntKind.u32.wrap (IntKind.u8.wrap (BitVec.ofInt 8 ((b0 : Nat) : Int) &&& BitVec.ofInt 8 127).toNat)) ||| BitVec.ofInt 32 (IntKind.u32.wrap (IntKind.u32.wrap (IntKind.u8.wrap (BitVec.ofInt 8 ((b1 : Nat) : Int) &&& BitVec.ofInt 8 127).toNat) * 128))).toNat = ((b0 % 128 : Nat) : Int) + ((b1 % 128 : Nat) : Int) * 128 := by
  have e1 : IntKind.u32.wrap (BitVec.ofInt 32 (IntKind.u32.wrap (IntKind.u8.wrap (BitVec.ofInt 8 ((b0 : Nat) : Int) &&& BitVec.ofInt 8 127).toNat)) ||| BitVec.ofInt 32 (IntKind.u32.wrap (IntKind.u32.wrap (IntKind.u8.wrap (BitVec.ofInt 8 ((b1 : Nat) : Int) &&& BitVec.ofInt 8 127).toNat) * 128))).toNat = ((b0 % 128 : Nat) : Int) + ((b1 % 128 : Nat) : Int) * 128 := by
    rw [and127b b1 h1, and127b b0 h0]; rw [or32 7 _ _ (by first | omega | (simp only [wrap_u32]; omega)) (by first | omega | (simp only [wrap_u32]; omega)) (by first | omega | (simp only [wrap_u32]; omega)) (by first | omega | (simp only [wrap_u32]; omega)) (by first | omega | (simp only [wrap_u32]; omega)) (by first | omega | (simp only [wrap_u32]; omega))]; first | omega | (simp only [wrap_u32]; omega)
  rw [e1]
theorem uv_3 (b0 b1 b2 : Nat) (h0 : b0 < 256) (h1 : b1 < 256) (h2 : b2 < 256) : IntKind.u32.wrap (BitVec.ofInt 32 (IntKind.u32.wrap (BitVec.ofInt 32 (IntKind.u32.wrap (IntKind.u8.wrap (BitVec.ofInt 8 ((b0 : Nat) : Int) &&& BitVec.ofInt 8 127).toNat)) ||| BitVec.ofInt 32 (IntKind.u32.wrap (IntKind.u32.wrap (IntKind.u8.wrap (BitVec.ofInt 8 ((b1 : Nat) : Int) &&& BitVec.ofInt 8 127).toNat) * 128))).toNat) ||| BitVec.ofInt 32 (IntKind.u32.wrap (IntKind.u32.wrap (IntKind.u8.wrap (BitVec.ofInt 8 ((b2 : Nat) : Int) &&& BitVec.ofInt 8 127).toNat) * 16384))).toNat = ((b0 % 128 : Nat) : Int) + ((b1 % 128 : Nat) : Int) * 128 + ((b2 % 128 : Nat) : Int) * 16384 := by
  have e1 : IntKind.u32.wrap (BitVec.ofInt 32 (IntKind.u32.wrap (IntKind.u8.wrap (BitVec.ofInt 8 ((b0 : Nat) : Int) &&& BitVec.ofInt 8 127).toNat)) ||| BitVec.ofInt 32 (IntKind.u32.wrap (IntKind.u32.wrap (IntKind.u8.wrap (BitVec.ofInt 8 ((b1 : Nat) : Int) &&& BitVec.ofInt 8 127).toNat) * 128))).toNat = ((b0 % 128 : Nat) : Int) + ((b1 % 128 : Nat) : Int) * 128 := by
    rw [and127b b1 h1, and127b b0 h0]; rw [or32 7 _ _ (by first | omega | (simp only [wrap_u32]; omega)) (by first | omega | (simp only [wrap_u32]; omega)) (by first | omega | (simp only [wrap_u32]; omega)) (by first | omega | (simp only [wrap_u32]; omega)) (by first | omega | (simp only [wrap_u32]; omega)) (by first | omega | (simp only [wrap_u32]; omega))]; first | omega | (simp only [wrap_u32]; omega)
  have e2 : IntKind.u32.wrap (BitVec.ofInt 32 (((b0 % 128 : Nat) : Int) + ((b1 % 128 : Nat) : Int) * 128) ||| BitVec.ofInt 32 (IntKind.u32.wrap (IntKind.u32.wrap (IntKind.u8.wrap (BitVec.ofInt 8 ((b2 : Nat) : Int) &&& BitVec.ofInt 8 127).toNat) * 16384))).toNat = ((b0 % 128 : Nat) : Int) + ((b1 % 128 : Nat) : Int) * 128 + ((b2 % 128 : Nat) : Int) * 16384 := by
    rw [and127b b2 h2]; rw [or32 14 _ _ (by first | omega | (simp only [wrap_u32]; omega)) (by first | omega | (simp only [wrap_u32]; omega)) (by first | omega | (simp only [wrap_u32]; omega)) (by first | omega | (simp only [wrap_u32]; omega)) (by first | omega | (simp only [wrap_u32]; omega)) (by first | omega | (simp only [wrap_u32]; omega))]; first | omega | (simp only [wrap_u32]; omega)
  rw [e1, e2]
theorem uv_4 (b0 b1 b2 b3 : Nat) (h0 : b0 < 256) (h1 : b1 < 256) (h2 : b2 < 256) (h3 : b3 < 256) : IntKind.u32.wrap (BitVec.ofInt 32 (IntKind.u32.wrap (BitVec.ofInt 32 (IntKind.u32.wrap (BitVec.ofInt 32 (IntKind.u32.wrap (IntKind.u8.wrap (BitVec.ofInt 8 ((b0 : Nat) : Int) &&& BitVec.ofInt 8 127).toNat)) ||| BitVec.ofInt 32 (IntKind.u32.wrap (IntKind.u32.wrap (IntKind.u8.wrap (BitVec.ofInt 8 ((b1 : Nat) : Int) &&& BitVec.ofInt 8 127).toNat) * 128))).toNat) ||| BitVec.ofInt 32 (IntKind.u32.wrap (IntKind.u32.wrap (IntKind.u8.wrap (BitVec.ofInt 8 ((b2 : Nat) : Int) &&& BitVec.ofInt 8 127).toNat) * 16384))).toNat) ||| BitVec.ofInt 32 (IntKind.u32.wrap (IntKind.u32.wrap (IntKind.u8.wrap (BitVec.ofInt 8 ((b3 : Nat) : Int) &&& BitVec.ofInt 8 127).toNat) * 2097152))).toNat = ((b0 % 128 : Nat) : Int) + ((b1 % 128 : Nat) : Int) * 128 + ((b2 % 128 : Nat) : Int) * 16384 + ((b3 % 128 : Nat) : Int) * 2097152 := by
  have e1 : IntKind.u32.wrap (BitVec.ofInt 32 (IntKind.u32.wrap (IntKind.u8.wrap (BitVec.ofInt 8 ((b0 : Nat) : Int) &&& BitVec.ofInt 8 127).toNat)) ||| BitVec.ofInt 32 (IntKind.u32.wrap (IntKind.u32.wrap (IntKind.u8.wrap (BitVec.ofInt 8 ((b1 : Nat) : Int) &&& BitVec.ofInt 8 127).toNat) * 128))).toNat = ((b0 % 128 : Nat) : Int) + ((b1 % 128 : Nat) : Int) * 128 := by
    rw [and127b b1 h1, and127b b0 h0]; rw [or32 7 _ _ (by first | omega | (simp only [wrap_u32]; omega)) (by first | omega | (simp only [wrap_u32]; omega)) (by first | omega | (simp only [wrap_u32]; omega)) (by first | omega | (simp only [wrap_u32]; omega)) (by first | omega | (simp only [wrap_u32]; omega)) (by first | omega | (simp only [wrap_u32]; omega))]; first | omega | (simp only [wrap_u32]; omega)
  have e2 : IntKind.u32.wrap (BitVec.ofInt 32 (((b0 % 128 : Nat) : Int) + ((b1 % 128 : Nat) : Int) * 128) ||| BitVec.ofInt 32 (IntKind.u32.wrap (IntKind.u32.wrap (IntKind.u8.wrap (BitVec.ofInt 8 ((b2 : Nat) : Int) &&& BitVec.ofInt 8 127).toNat) * 16384))).toNat = ((b0 % 128 : Nat) : Int) + ((b1 % 128 : Nat) : Int) * 128 + ((b2 % 128 : Nat) : Int) * 16384 := by
    rw [and127b b2 h2]; rw [or32 14 _ _ (by first | omega | (simp only [wrap_u32]; omega)) (by first | omega | (simp only [wrap_u32]; omega)) (by first | omega | (simp only [wrap_u32]; omega)) (by first | omega | (simp only [wrap_u32]; omega)) (by first | omega | (simp only [wrap_u32]; omega)) (by first | omega | (simp only [wrap_u32]; omega))]; first | omega | (simp only [wrap_u32]; omega)
  have e3 : IntKind.u32.wrap (BitVec.ofInt 32 (((b0 % 128 : Nat) : Int) + ((b1 % 128 : Nat) : Int) * 128 + ((b2 % 128 : Nat) : Int) * 16384) ||| BitVec.ofInt 32 (IntKind.u32.wrap (IntKind.u32.wrap (IntKind.u8.wrap (BitVec.ofInt 8 ((b3 : Nat) : Int) &&& BitVec.ofInt 8 127).toNat) * 2097152))).toNat = ((b0 % 128 : Nat) : Int) + ((b1 % 128 : Nat) : Int) * 128 + ((b2 % 128 : Nat) : Int) * 16384 + ((b3 % 128 : Nat) : Int) * 2097152 := by
    rw [and127b b3 h3]; rw [or32 21 _ _ (by first | omega | (simp only [wrap_u32]; omega)) (by first | omega | (simp only [wrap_u32]; omega)) (by first | omega | (simp only [wrap_u32]; omega)) (by first | omega | (simp only [wrap_u32]; omega)) (by first | omega | (simp only [wrap_u32]; omega)) (by first | omega | (simp only [wrap_u32]; omega))]; first | omega | (simp only [wrap_u32]; omega)
  rw [e1, e2, e3]
theorem uv_5 (b0 b1 b2 b3 b4 : Nat) (h0 : b0 < 256) (h1 : b1 < 256) (h2 : b2 < 256) (h3 : b3 < 256) (h4 : b4 < 16) : IntKind.u32.wrap (BitVec.ofInt 32 (IntKind.u32.wrap (BitVec.ofInt 32 (IntKind.u32.wrap (BitVec.ofInt 32 (IntKind.u32.wrap (BitVec.ofInt 32 (IntKind.u32.wrap (IntKind.u8.wrap (BitVec.ofInt 8 ((b0 : Nat) : Int) &&& BitVec.ofInt 8 127).toNat)) ||| BitVec.ofInt 32 (IntKind.u32.wrap (IntKind.u32.wrap (IntKind.u8.wrap (BitVec.ofInt 8 ((b1 : Nat) : Int) &&& BitVec.ofInt 8 127).toNat) * 128))).toNat) ||| BitVec.ofInt 32 (IntKind.u32.wrap (IntKind.u32.wrap (IntKind.u8.wrap (BitVec.ofInt 8 ((b2 : Nat) : Int) &&& BitVec.ofInt 8 127).toNat) * 16384))).toNat) ||| BitVec.ofInt 32 (IntKind.u32.wrap (IntKind.u32.wrap (IntKind.u8.wrap (BitVec.ofInt 8 ((b3 : Nat) : Int) &&& BitVec.ofInt 8 127).toNat) * 2097152))).toNat) ||| BitVec.ofInt 32 (IntKind.u32.wrap (IntKind.u32.wrap (((b4 : Nat) : Int)) * 268435456))).toNat = ((b0 % 128 : Nat) : Int) + ((b1 % 128 : Nat) : Int) * 128 + ((b2 % 128 : Nat) : Int) * 16384 + ((b3 % 128 : Nat) : Int) * 2097152 + ((b4 : Nat) : Int) * 268435456 := by
  have e1 : IntKind.u32.wrap (BitVec.ofInt 32 (IntKind.u32.wrap (IntKind.u8.wrap (BitVec.ofInt 8 ((b0 : Nat) : Int) &&& BitVec.ofInt 8 127).toNat)) ||| BitVec.ofInt 32 (IntKind.u32.wrap (IntKind.u32.wrap (IntKind.u8.wrap (BitVec.ofInt 8 ((b1 : Nat) : Int) &&& BitVec.ofInt 8 127).toNat) * 128))).toNat = ((b0 % 128 : Nat) : Int) + ((b1 % 128 : Nat) : Int) * 128 := by
    rw [and127b b1 h1, and127b b0 h0]; rw [or32 7 _ _ (by first | omega | (simp only [wrap_u32]; omega)) (by first | omega | (simp only [wrap_u32]; omega)) (by first | omega | (simp only [wrap_u32]; omega)) (by first | omega | (simp only [wrap_u32]; omega)) (by first | omega | (simp only [wrap_u32]; omega)) (by first | omega | (simp only [wrap_u32]; omega))]; first | omega | (simp only [wrap_u32]; omega)
  have e2 : IntKind.u32.wrap (BitVec.ofInt 32 (((b0 % 128 : Nat) : Int) + ((b1 % 128 : Nat) : Int) * 128) ||| BitVec.ofInt 32 (IntKind.u32.wrap (IntKind.u32.wrap (IntKind.u8.wrap (BitVec.ofInt 8 ((b2 : Nat) : Int) &&& BitVec.ofInt 8 127).toNat) * 16384))).toNat = ((b0 % 128 : Nat) : Int) + ((b1 % 128 : Nat) : Int) * 128 + ((b2 % 128 : Nat) : Int) * 16384 := by
    rw [and127b b2 h2]; rw [or32 14 _ _ (by first | omega | (simp only [wrap_u32]; omega)) (by first | omega | (simp only [wrap_u32]; omega)) (by first | omega | (simp only [wrap_u32]; omega)) (by first | omega | (simp only [wrap_u32]; omega)) (by first | omega | (simp only [wrap_u32]; omega)) (by first | omega | (simp only [wrap_u32]; omega))]; first | omega | (simp only [wrap_u32]; omega)
  have e3 : IntKind.u32.wrap (BitVec.ofInt 32 (((b0 % 128 : Nat) : Int) + ((b1 % 128 : Nat) : Int) * 128 + ((b2 % 128 : Nat) : Int) * 16384) ||| BitVec.ofInt 32 (IntKind.u32.wrap (IntKind.u32.wrap (IntKind.u8.wrap (BitVec.ofInt 8 ((b3 : Nat) : Int) &&& BitVec.ofInt 8 127).toNat) * 2097152))).toNat = ((b0 % 128 : Nat) : Int) + ((b1 % 128 : Nat) : Int) * 128 + ((b2 % 128 : Nat) : Int) * 16384 + ((b3 % 128 : Nat) : Int) * 2097152 := by
    rw [and127b b3 h3]; rw [or32 21 _ _ (by first | omega | (simp only [wrap_u32]; omega)) (by first | omega | (simp only [wrap_u32]; omega)) (by first | omega | (simp only [wrap_u32]; omega)) (by first | omega | (simp only [wrap_u32]; omega)) (by first | omega | (simp only [wrap_u32]; omega)) (by first | omega | (simp only [wrap_u32]; omega))]; first | omega | (simp only [wrap_u32]; omega)
  have e4 : IntKind.u32.wrap (BitVec.ofInt 32 (((b0 % 128 : Nat) : Int) + ((b1 % 128 : Nat) : Int) * 128 + ((b2 % 128 : Nat) : Int) * 16384 + ((b3 % 128 : Nat) : Int) * 2097152) ||| BitVec.ofInt 32 (IntKind.u32.wrap (IntKind.u32.wrap (((b4 : Nat) : Int)) * 268435456))).toNat = ((b0 % 128 : Nat) : Int) + ((b1 % 128 : Nat) : Int) * 128 + ((b2 % 128 : Nat) : Int) * 16384 + ((b3 % 128 : Nat) : Int) * 2097152 + ((b4 : Nat) : Int) * 268435456 := by
    rw [or32 28 _ _ (by first | omega | (simp only [wrap_u32]; omega)) (by first | omega | (simp only [wrap_u32]; omega)) (by first | omega | (simp only [wrap_u32]; omega)) (by first | omega | (simp only [wrap_u32]; omega)) (by first | omega | (simp only [wrap_u32]; omega)) (by first | omega | (simp only [wrap_u32]; omega))]; first | omega | (simp only [wrap_u32]; omega)
  rw [e1, e2, e3, e4]

theorem imm_n {G : Nat → Nat → Prop} {w0 w : World} {tb : Tb} {rs : List Rw} {p n : Nat} {cs : List Value} (i : Nat) (hi : tb[i]? = some ⟨p, 0, cs, true⟩) (hn : cs.length = n := by rfl) : ∀ b o, Imm G w0 w tb rs b o → ¬ (b = p ∧ o < n) := by
  subst hn
  exact imm_not i hi
theorem imm_rd {G : Nat → Nat → Prop} {w0 w : World} {tb : Tb} {rs : List Rw} {p : Nat} {x y : Value} (i : Nat) (hi : tb[i]? = some ⟨p, 0, [x, y], true⟩) : ∀ b o, Imm G w0 w tb rs b o → ¬ RdM p b o := imm_not i hi
theorem imm_cut {G : Nat → Nat → Prop} {w0 w : World} {tb : Tb} {rs : List Rw} {b o : Nat} (h : Imm G w0 w tb rs b o) : Imm G w0 w [] rs b o := by
  refine ⟨h.1, h.2.1, fun ha => h.2.2 ?_⟩
  rcases ha with ⟨i, ob, hi, _⟩ | ha
  · simp at hi
  · exact .inr ha
theorem WOk.immM {G : Nat → Nat → Prop} {w0 w : World} {M : Nat → Nat → Prop} {tb : Tb} {rs : List Rw} (h : WOk w0 M w tb rs) (hd : ∀ b o, G b o → ¬ M b o) : ∀ b o, G b o → b < w0.heap.size → Imm G w0 w tb rs b o := by
  refine fun b o hg hb => ⟨.inl hg, Nat.lt_of_lt_of_le hb h.step.size, fun ha => hd b o hg ?_⟩
  rcases ha with ⟨i, ob, hi, hr, rfl, h1, h2⟩ | ⟨i, r, hi, hr⟩
  · have := (h.rw_ i ob hi hr (o - ob.off) (by omega)).1
    rw [show ob.off + (o - ob.off) = o by omega] at this
    rcases this with h3 | h3
    · omega
    · exact h3
  · rcases h.ownM i r hi b hr with h3 | h3
    · omega
    · exact h3 o

end Go.Proofs.YtnhgfbgdoelfoaaGreatDoor.ME

/- Reading lists: what is being filled lies in the table, thing by thing. Own work. -/
namespace Go.Proofs.YtnhgfbgdoelfoaaGreatDoor.ME
open Go
open Go.RowKit
set_option linter.unusedVariables false
set_option linter.unusedSimpArgs false

section
variable {w0 w : World} {M : Nat → Nat → Prop} {tb : Tb} {rs : List Rw}
/-- the last row, as a place of the table -/
theorem WOk.layRowM {g c e size n k : Nat} {xs : List Value} (hW : WOk w0 M w tb rs) (hk : rs[k]? = some ⟨some ⟨g, 0, none⟩, c, e, size, n, xs⟩) (hl : k + 1 = rs.length) (hm : w0.heap.size ≤ g) (rs' : List Rw) (tb' : Tb) (hr : rs.take k = rs' := by rfl) (ht : tb ++ [⟨g, 0, xs, true⟩] = tb' := by rfl) : WOk w0 M w tb' rs' ∧ Fr w tb rs w tb' rs' := by
  subst hr ht
  have ho := hW.own k _ hk
  have hlive := own_live ho (g := g) rfl
  have hfz : ∀ j, w.frozen? ⟨g, j, none⟩ = false := fun j => by
    rcases ho.2 with ⟨hv, _⟩ | ⟨g', cap, cur, hv, _, hg, _⟩
    · cases hv
    · simp only [Rw.v, Value.slice.injEq, Option.some.injEq, Addr.mk.injEq, and_true] at hv
      obtain ⟨rfl, _⟩ := hv
      unfold World.frozen?
      rw [hg]
      simp
  have hlt : ∀ (j : Nat) (r : Rw), (rs.take k)[j]? = some r → j ≠ k ∧ rs[j]? = some r := fun j r hj => by
    rw [List.getElem?_take] at hj
    split at hj
    · exact ⟨by omega, hj⟩
    · cases hj
  refine ⟨(hW.rows k).add ⟨g, 0, xs, true⟩ hlive (fun j v hj => ?_) (fun _ j _ => ⟨.inl hm, by dsimp only; rw [Nat.zero_add]; exact hfz j⟩) (fun i q hi _ => .inl (hW.rtb k _ hk g rfl i q hi)) (fun i r hi he => ?_), ⟨fun x y _ hn ha => hn ?_, Step.refl _ _⟩⟩
  · have := ho.cells (g := g) rfl j v hj
    rw [add_none] at this
    dsimp only
    exact this
  · obtain ⟨h1, h2⟩ := hlt i r hi
    exact hW.rr k i _ r (fun e => h1 e.symm) hk h2 g rfl he
  · rcases ha with ⟨j, q, hj, h1, h2, h3, h4⟩ | ⟨j, r, hj, h1⟩
    · by_cases hjt : j < tb.length
      · rw [List.getElem?_append_left hjt] at hj
        exact .inl ⟨j, q, hj, h1, h2, h3, h4⟩
      · rw [List.getElem?_append_right (Nat.not_lt.1 hjt)] at hj
        have hq : q = ⟨g, 0, xs, true⟩ := by
          rcases Nat.eq_zero_or_pos (j - tb.length) with h | h
          · rw [h] at hj; exact (Option.some.inj hj).symm
          · rw [List.getElem?_eq_none (by simp only [List.length_cons, List.length_nil]; omega)] at hj; cases hj
        subst hq
        exact .inr ⟨k, _, hk, by rw [← h2]; rfl⟩
    · exact .inr ⟨j, r, (hlt j r hj).2, h1⟩
/-- the cells of j things that are as they begin -/
def zerosL (z : Value) (j : Nat) : List Value := (Builtin.zeroCells z.cells j).toList
variable {P : Program} {ops : Array Oper} {Q : Exit → Act → World → Prop} {n : Nat} {env : Env} {a : Act}
/-- 'append(nil, make([]T, j)...)', j at least one: a new row of things that are as they begin -/
theorem wpOp_appendZ {i d j : Nat} {t tn e : TypeId} {size bytes : Nat} {k kn : IntKind} {q : Int} {z : Value} {N : Act → World → Prop} (hW : WOk w0 M w tb rs) (hE : EnvOk n tb env a)
    (h : appE tb env ops n i = some (t, tn, .slice none 0 0, .int k q, d)) (ht : rowTy P t = some (e, size, bytes)) (htn : P.underlying tn = some (.int kn)) (hz : (P.info? e).bind (·.zero) = some z)
    (hq : q = (j : Int)) (hj : 0 < j) (hb : j * bytes ≤ 140737488355328)
    (K : ∀ b c a' w', b = w.heap.size → w0.heap.size ≤ b → Fr w tb rs w' tb (rs ++ [⟨some ⟨b, 0, none⟩, c, e, size, j, zerosL z j⟩]) → WOk w0 M w' tb (rs ++ [⟨some ⟨b, 0, none⟩, c, e, size, j, zerosL z j⟩]) →
      EnvOk n tb ((d, .v (.slice (some ⟨b, 0, none⟩) j c)) :: env) a' → N a' w') : wpOp P ops Q i N a w := by
  subst hq
  obtain ⟨ht', inf, z', hi, hz', hzs, hs1, rfl, hsz, hbp⟩ := rowTy_ok ht
  have hzz : z' = z := by rw [hi] at hz; simpa [hz'] using hz
  subst hzz
  obtain ⟨op, ho, hd, hrun⟩ := appE_ok (P := P) (w := w) hE h
  obtain ⟨o, h1, h2, h3, h4, h5⟩ := opAt_ok hE ho
  have hjm : j ≤ maxLen := by
    have := Nat.le_mul_of_pos_right j hbp
    simp only [maxLen]; omega
  have hr := Lib.run_append_nil_zeros (P := P) w t tn o.type e inf z' k kn ht' htn hi hz' j hj (by omega) (by simp only [maxLen] at hjm; omega) (by omega)
  have hge := grownCap_ge w j 0 e
  have hcm := grownCap_le_maxLen w j 0 e hjm
  have hst : Step w (w.drew.alloc (.cells (Builtin.zeroCells z'.cells j ++ Builtin.zeroCells z'.cells (grownCap w j 0 e - j)) e)) Nil := (Step.drew w).trans (Step.alloc _ _) fun _ _ _ h => h
  have hown : (w.drew.alloc (.cells (Builtin.zeroCells z'.cells j ++ Builtin.zeroCells z'.cells (grownCap w j 0 e - j)) e)).ownsRow w.heap.size e size (.slice (some ⟨w.heap.size, 0, none⟩) j (grownCap w j 0 e)) j (zerosL z' j) := by
    refine ⟨by unfold zerosL; rw [Array.length_toList, size_zeroCells, hzs, hs1], .inr ⟨w.heap.size, grownCap w j 0 e, _, rfl, Nat.le_refl _, heap_new w.drew _, hge, hcm, ?_, ?_⟩⟩
    · rw [Array.size_append, size_zeroCells, size_zeroCells, hzs, hs1, ← Nat.add_mul]
      congr 1
      omega
    · unfold zerosL
      rw [Array.toList_append]
      exact List.take_left' (by rw [Array.length_toList, size_zeroCells, hzs, hs1])
  simp only [wpOp, h1]
  have : Region.wanted o (yielded ops a.tmps) = true := by first | exact h2 | simp [Region.wanted, h2]
  rw [this]
  simp only [if_true]
  refine .inl ?_
  unfold Oper.wp
  rw [hrun o _ _ h5 hr, Oper.upon, h3]
  exact K w.heap.size _ _ _ rfl hW.step.size (Fr.fresh tb rs hst ⟨some ⟨w.heap.size, 0, none⟩, grownCap w j 0 e, e, size, j, zerosL z' j⟩ (Nat.le_refl _) hown) (hW.fresh hst ⟨some ⟨w.heap.size, 0, none⟩, grownCap w j 0 e, e, size, j, zerosL z' j⟩ (Nat.le_refl _) hown) (hE.put hd (.v _) trivial)
theorem zerosL_succ (z : Value) (j : Nat) : zerosL z (j + 1) = z.cells.toList ++ zerosL z j := by
  refine List.ext_getElem? fun i => ?_
  unfold zerosL Builtin.zeroCells
  rw [List.getElem?_append]
  simp only [Array.toList_map, Array.toList_range, List.getElem?_map, Array.length_toList, Array.getElem?_toList]
  by_cases h : i < z.cells.size
  · have h2 : i < (j + 1) * z.cells.size := Nat.lt_of_lt_of_le h (Nat.le_mul_of_pos_left _ (Nat.succ_pos j))
    rw [if_pos h, List.getElem?_range h2, Option.map_some, Nat.mod_eq_of_lt h, getElem!_pos z.cells i h, Array.getElem?_eq_getElem h]
  · rw [if_neg h]
    by_cases h2 : i < (j + 1) * z.cells.size
    · have h3 : i - z.cells.size < j * z.cells.size := by rw [Nat.succ_mul] at h2; omega
      rw [List.getElem?_range h2, List.getElem?_range h3, Option.map_some, Option.map_some, Nat.mod_eq_sub_mod (Nat.not_lt.1 h)]
    · have h3 : ¬ i - z.cells.size < j * z.cells.size := by rw [Nat.succ_mul] at h2; omega
      rw [List.getElem?_eq_none (by simpa using h2), List.getElem?_eq_none (by simpa using h3)]
end

end Go.Proofs.YtnhgfbgdoelfoaaGreatDoor.ME

/- Reading in larger steps: the reader, what is filled, and what is known of what was read, as one state. Own work. -/
namespace Go.Proofs.YtnhgfbgdoelfoaaGreatDoor.ME
open Go
open Go.RowKit
set_option linter.unusedVariables false
set_option linter.unusedSimpArgs false

abbrev FactW := World → (Nat → Nat → Prop) → Prop
/-- a fact that stays where nothing of its footprint is written -/
structure MvF (P : FactW) : Prop where
  move : ∀ {w w' : World} {F F' M : Nat → Nat → Prop}, Step w w' M → (∀ b o, F b o → b < w.heap.size → ¬ M b o) → (∀ b o, F b o → b < w.heap.size → F' b o) → P w F → P w' F'
def noF : FactW := fun _ _ => True
def andF (P Q : FactW) : FactW := fun w F => P w F ∧ Q w F
def isF (p : Prop) : FactW := fun _ _ => p
theorem MvF.no : MvF noF := ⟨fun _ _ _ _ => trivial⟩
theorem MvF.and {P Q : FactW} (h : MvF P) (h' : MvF Q) : MvF (andF P Q) := ⟨fun hs hM hF g => ⟨h.move hs hM hF g.1, h'.move hs hM hF g.2⟩⟩
theorem MvF.is (p : Prop) : MvF (isF p) := ⟨fun _ _ _ g => g⟩
theorem MvF.mono {P : FactW} (h : MvF P) {w : World} {F F' : Nat → Nat → Prop} (hF : ∀ b o, F b o → b < w.heap.size → F' b o) (g : P w F) : P w F' := h.move (Step.refl w Nil) nilM hF g
/-- a text behind an address -/
def textF (A : Option Addr) (X : Bs) : FactW := fun w F => ∀ ad, A = some ad → ∃ b o, ad = ⟨b, o, none⟩ ∧ AtF w F b o [.string (bs X)]
theorem MvF.text (A : Option Addr) (X : Bs) : MvF (textF A X) := ⟨fun hs hM hF g ad hA => by
  obtain ⟨b, o, h1, h2⟩ := g ad hA
  exact ⟨b, o, h1, h2.move hs hM hF⟩⟩
def tagsF (m : Option Nat) (u : List (Int × Bs)) : FactW := fun w F => MapR w F m u
theorem MvF.tags (m : Option Nat) (u : List (Int × Bs)) : MvF (tagsF m u) := ⟨fun hs hM hF g => MapR.move g hs hM hF⟩
def atF (b o : Nat) (cs : List Value) : FactW := fun w F => AtF w F b o cs
theorem MvF.at_ (b o : Nat) (cs : List Value) : MvF (atF b o cs) := ⟨fun hs hM hF g => AtF.move g hs hM hF⟩

/-- the reader's two cells -/
abbrev rdo (br : Nat) (A : Option Addr) (m c : Nat) : Ob := ⟨br, 0, [.slice A m c, .bool false], true⟩
theorem act_rdo {br : Nat} {A A' : Option Addr} {m c m' c' : Nat} {tb : Tb} {rs : List Rw} {b o : Nat} (h : Act_ (rdo br A m c :: tb) rs b o) : Act_ (rdo br A' m' c' :: tb) rs b o := by
  rcases h with ⟨i, ob, hi, h1⟩ | h
  · cases i with
    | zero =>
      simp only [List.getElem?_cons_zero, Option.some.injEq] at hi
      subst hi
      exact .inl ⟨0, _, rfl, h1⟩
    | succ i => exact .inl ⟨i + 1, ob, hi, h1⟩
  · exact .inr h
theorem imm_rdo {G : Nat → Nat → Prop} {w0 w : World} {br : Nat} {A A' : Option Addr} {m c m' c' : Nat} {tb : Tb} {rs : List Rw} {b o : Nat} (h : Imm G w0 w (rdo br A m c :: tb) rs b o) : Imm G w0 w (rdo br A' m' c' :: tb) rs b o :=
  ⟨h.1, h.2.1, fun ha => h.2.2 (act_rdo ha)⟩
theorem EnvOk.rdo {n br : Nat} {A A' : Option Addr} {m c m' c' : Nat} {tb : Tb} {env : Env} {a : Act} (h : EnvOk n (rdo br A m c :: tb) env a) : EnvOk n (rdo br A' m' c' :: tb) env a := by
  refine h.table fun i hi => ?_
  cases i with
  | zero => exact ⟨by simp, rfl, rfl⟩
  | succ i => exact ⟨by simpa using hi, rfl, rfl⟩

/-- the state while a message is read -/
structure RS (w0 : World) (M F : Nat → Nat → Prop) (n br : Nat) (tb : Tb) (env : Env) (P : FactW) (s : Bs) (a : Act) (w : World) : Prop where
  mv : MvF P
  ex : ∃ A m c, WOk w0 M w (rdo br A m c :: tb) [] ∧ RdS w (Imm F w0 w (rdo br none 0 0 :: tb) []) A m c s
  env_ : EnvOk n (rdo br none 0 0 :: tb) env a
  fact : P w (Imm F w0 w (rdo br none 0 0 :: tb) [])
section
variable {Pr : Program} {ops opsA opsB opsC : Array Oper} {Q : Exit → Act → World → Prop} {w0 : World} {M F : Nat → Nat → Prop} {n br : Nat} {tb : Tb} {env : Env} {P : FactW} {s : Bs} {a : Act} {w : World}
theorem RS.mk' {A : Option Addr} {m c : Nat} (hW : WOk w0 M w (rdo br A m c :: tb) []) (hr : RdS w (Imm F w0 w (rdo br A m c :: tb) []) A m c s) (hE : EnvOk n (rdo br A m c :: tb) env a) (mv : MvF P) (hP : P w (Imm F w0 w (rdo br A m c :: tb) [])) : RS w0 M F n br tb env P s a w :=
  ⟨mv, ⟨A, m, c, hW, hr.move (Step.refl w Nil) nilM fun b o h _ => imm_rdo h⟩, hE.rdo, mv.mono (fun b o h _ => imm_rdo h) hP⟩
theorem RS.open_ (h : RS w0 M F n br tb env P s a w) : ∃ A m c, WOk w0 M w (rdo br A m c :: tb) [] ∧ RdS w (Imm F w0 w (rdo br A m c :: tb) []) A m c s ∧ EnvOk n (rdo br A m c :: tb) env a ∧ P w (Imm F w0 w (rdo br A m c :: tb) []) := by
  obtain ⟨A, m, c, hW, hr⟩ := h.ex
  exact ⟨A, m, c, hW, hr.move (Step.refl w Nil) nilM fun b o h _ => imm_rdo h, h.env_.rdo, h.mv.mono (fun b o h _ => imm_rdo h) h.fact⟩
theorem RS.cast {t : Bs} (h : RS w0 M F n br tb env P s a w) (e : s = t) : RS w0 M F n br tb env P t a w := e ▸ h
theorem RS.weak {P' : FactW} (h : RS w0 M F n br tb env P s a w) (mv : MvF P') (hP : ∀ w F, P w F → P' w F) : RS w0 M F n br tb env P' s a w := ⟨mv, h.ex, h.env_, hP _ _ h.fact⟩
theorem RS.pk {env' : Env} (h : RS w0 M F n br tb env P s a w) (e : ME.pick env (keysOf env') = some env' := by kernel_rfl) : RS w0 M F n br tb env' P s a w := ⟨h.mv, h.ex, h.env_.pk e, h.fact⟩
theorem RS.envEq {env' : Env} (h : RS w0 M F n br tb env P s a w) (e : env = env') : RS w0 M F n br tb env' P s a w := e ▸ h
theorem RS.tbEq {tb' : Tb} (h : RS w0 M F n br tb env P s a w) (e : tb = tb') : RS w0 M F n br tb' env P s a w := e ▸ h
theorem RS.recast (h : RS w0 M F n br tb env P s a w) (k : Nat) (x y : SV) (hx : lk env k = some x) (hy : y.val (rdo br none 0 0 :: tb) = x.val (rdo br none 0 0 :: tb)) (ho : y.ok (rdo br none 0 0 :: tb)) : RS w0 M F n br tb ((k, y) :: env) P s a w := ⟨h.mv, h.ex, h.env_.recast k x y hx hy ho, h.fact⟩
theorem rs_rn {L : List Nat} (idxs rest : List Nat) (env' : Env) (h : RS w0 M F n br tb env P s a w) (k : ∀ a', RS w0 M F n br tb env' P s a' w → wpOps Pr ops Q rest a' w) (e : ∀ A m c, runsP Pr ops n (rdo br A m c :: tb) idxs (keysOf env') env = some env' := by intro _ _ _; kernel_rfl) (hl : L = idxs ++ rest := by rfl) : wpOps Pr ops Q L a w := by
  obtain ⟨A, m, c, hW, hr, hE, hP⟩ := h.open_
  exact go_runs idxs rest (keysOf env') hW hE (e A m c) hl fun a' hE' => k a' (RS.mk' hW hr hE' h.mv hP)
/-- a region that writes nothing -/
theorem rs_sr {id : Nat} (env' : Env) (h : RS w0 M F n br tb env P s a w) (k : ∀ a', RS w0 M F n br tb env' P s a' w → Q .normal a' w) (e : ∀ A m c, runsP Pr ops n (rdo br A m c :: tb) (List.range ops.size) (keysOf env') env = some env' := by intro _ _ _; kernel_rfl) : (Code.region id ops false).wp Pr Q a w :=
  go_region (List.range ops.size) rfl (rs_rn (List.range ops.size) [] env' h (fun a' h' => wpOps_nil (k a' h')) e (List.append_nil _).symm)
theorem rs_sp {id : Nat} {y : Code} (env' : Env) (h : RS w0 M F n br tb env P s a w) (k : ∀ a', RS w0 M F n br tb env' P s a' w → y.wp Pr Q a' w) (e : ∀ A m c, runsP Pr ops n (rdo br A m c :: tb) (List.range ops.size) (keysOf env') env = some env' := by intro _ _ _; kernel_rfl) : (Code.seq (.region id ops false) y).wp Pr Q a w :=
  wp_seq (rs_sr env' h (fun a' h' => then_normal (k a' h')) e)

/-- a method of the reader: what it reads, and what it hands back -/
def RPrim (Pr : Program) (f : FuncId) {τ : Type} (X rest : Bs) (val : τ → Value) (fact : τ → FactW) : Prop :=
  ∀ {br : Nat} {A : Option Addr} {m c : Nat} {w : World} {F : Nat → Nat → Prop}, Str w br [.slice A m c, .bool false] → RdS w F A m c (X ++ rest) → (∀ b o, F b o → ¬ RdM br b o) →
    Calls Pr f #[.pointer (some ⟨br, 0, none⟩)] w (RdPost w br (Fp F w) rest fun v w' => ∃ x, v = val x ∧ fact x w' (Fp F w))
def RPrim0 (Pr : Program) (f : FuncId) (X rest : Bs) (v0 : Value) : Prop :=
  ∀ {br : Nat} {A : Option Addr} {m c : Nat} {w : World} {F : Nat → Nat → Prop}, Str w br [.slice A m c, .bool false] → RdS w F A m c (X ++ rest) → (∀ b o, F b o → ¬ RdM br b o) →
    Calls Pr f #[.pointer (some ⟨br, 0, none⟩)] w (RdPost w br (Fp F w) rest fun v w' => v = v0)
theorem RdPost.fp {w : World} {br : Nat} {F : Nat → Nat → Prop} {rest : Bs} {Q Q' : Value → World → Prop} {e : Ending} {w' : World} (hq : ∀ v w', Q v w' → Q' v w') (h : RdPost w br F rest Q e w') : RdPost w br (Fp F w) rest Q' e w' := by
  obtain ⟨v, A', n', c', h1, h2, h3, h4, h5⟩ := h
  exact ⟨v, A', n', c', h1, h2, h3.move (Step.refl _ Nil) nilM fun b o g _ => .inl g, h4, hq _ _ h5⟩
theorem RdPost.q {w : World} {br : Nat} {F : Nat → Nat → Prop} {rest : Bs} {Q Q' : Value → World → Prop} {e : Ending} {w' : World} (hq : ∀ v w', Q v w' → Q' v w') (h : RdPost w br F rest Q e w') : RdPost w br F rest Q' e w' := by
  obtain ⟨v, A', n', c', h1, h2, h3, h4, h5⟩ := h
  exact ⟨v, A', n', c', h1, h2, h3, h4, hq _ _ h5⟩
theorem rs_call {i d : Nat} {f : FuncId} {τ : Type} {X rest : Bs} {val : τ → Value} {fact : τ → FactW} {N : Act → World → Prop} (h : RS w0 M F n br tb env P (X ++ rest) a w) (hc : RPrim Pr f X rest val fact) (hm : ∀ x, MvF (fact x))
    (hf : ∀ args w, (callFunc f args).run Pr w = .ok (.enter f args) w) (K : ∀ x P' a' w', (∀ w F, P' w F → P w F ∧ fact x w F) → RS w0 M F n br tb ((d, .v (val x)) :: env) P' rest a' w' → N a' w')
    (he : ∀ A m c, callE (rdo br A m c :: tb) env ops n i = some (f, [.pointer (some ⟨br, 0, none⟩)], d) := by intro _ _ _; kernel_rfl) : wpOp Pr ops Q i N a w := by
  obtain ⟨A, m, c, hW, hr, hE, hP⟩ := h.open_
  refine wpOp_call hE (he A m c) hf (hc (Str.of hW 0 rfl) hr (imm_rd 0 rfl)) ?_
  rintro e_ w1 ⟨_, A1, n1, c1, rfl, hs, hr1, hst, x, rfl, hx⟩
  refine ⟨_, rfl, fun a1 hE1 => ?_⟩
  obtain ⟨hW2, hF2, hL⟩ := hW.wrote 0 (rdo br A1 n1 c1 :: tb) rfl hst hs
  exact K x (andF P (fact x)) a1 w1 (fun _ _ g => g) (RS.mk' hW2 (hr1.move (Step.refl _ Nil) nilM hL) hE1.rdo (h.mv.and (hm x)) ⟨h.mv.move hF2.step immM hF2.to' hP, (hm x).mono hL hx⟩)
theorem rs_call0 {i d : Nat} {f : FuncId} {X rest : Bs} {v0 : Value} {N : Act → World → Prop} (h : RS w0 M F n br tb env P (X ++ rest) a w) (hc : RPrim0 Pr f X rest v0)
    (hf : ∀ args w, (callFunc f args).run Pr w = .ok (.enter f args) w) (K : ∀ a' w', RS w0 M F n br tb ((d, .v v0) :: env) P rest a' w' → N a' w')
    (he : ∀ A m c, callE (rdo br A m c :: tb) env ops n i = some (f, [.pointer (some ⟨br, 0, none⟩)], d) := by intro _ _ _; kernel_rfl) : wpOp Pr ops Q i N a w := by
  obtain ⟨A, m, c, hW, hr, hE, hP⟩ := h.open_
  refine wpOp_call hE (he A m c) hf (hc (Str.of hW 0 rfl) hr (imm_rd 0 rfl)) ?_
  rintro e_ w1 ⟨_, A1, n1, c1, rfl, hs, hr1, hst, rfl⟩
  refine ⟨_, rfl, fun a1 hE1 => ?_⟩
  obtain ⟨hW2, hF2, hL⟩ := hW.wrote 0 (rdo br A1 n1 c1 :: tb) rfl hst hs
  exact K a1 w1 (RS.mk' hW2 (hr1.move (Step.refl _ Nil) nilM hL) hE1.rdo h.mv (h.mv.move hF2.step immM hF2.to' hP))
/-- the reader's end -/
theorem rs_complete {i d : Nat} {f : FuncId} {v0 : Value} {N : Act → World → Prop} (h : RS w0 M F n br tb env P s a w) (hc : ∀ {br : Nat} {A : Option Addr} {m c : Nat} {w : World}, Str w br [.slice A m c, .bool false] → Calls Pr f #[.pointer (some ⟨br, 0, none⟩)] w (fun e w' => e = .returned v0 ∧ w' = w))
    (hf : ∀ args w, (callFunc f args).run Pr w = .ok (.enter f args) w) (K : ∀ a', RS w0 M F n br tb ((d, .v v0) :: env) P s a' w → N a' w)
    (he : ∀ A m c, callE (rdo br A m c :: tb) env ops n i = some (f, [.pointer (some ⟨br, 0, none⟩)], d) := by intro _ _ _; kernel_rfl) : wpOp Pr ops Q i N a w := by
  obtain ⟨A, m, c, hW, hr, hE, hP⟩ := h.open_
  refine wpOp_call hE (he A m c) hf (hc (Str.of hW 0 rfl)) ?_
  rintro e_ _ ⟨rfl, rfl⟩
  exact ⟨_, rfl, fun a1 hE1 => K a1 (RS.mk' hW hr hE1 h.mv hP)⟩
theorem rs_store {i : Nat} (tb' : Tb) (j : Nat) {N : Act → World → Prop} (h : RS w0 M F n br tb env P s a w) (K : ∀ w', RS w0 M F n br tb' env P s a w' → N a w')
    (he : ∀ A m c, storeE Pr (rdo br A m c :: tb) env ops i = some (j + 1, (obAt tb' j).cells) := by intro _ _ _; kernel_rfl) (ht : Tb.put tb j (obAt tb' j).cells = tb' := by rfl) : wpOp Pr ops Q i N a w := by
  obtain ⟨A, m, c, hW, hr, hE, hP⟩ := h.open_
  refine wpOp_store hW hE (he A m c) fun w1 hF1 hW1 hE1 => K w1 ?_
  have e : Tb.put (rdo br A m c :: tb) (j + 1) (obAt tb' j).cells = rdo br A m c :: tb' := by
    show rdo br A m c :: Tb.put tb j (obAt tb' j).cells = _
    rw [ht]
  rw [e] at hF1 hW1 hE1
  exact RS.mk' hW1 (hr.move hF1.step immM hF1.to') hE1 h.mv (h.mv.move hF1.step immM hF1.to' hP)
theorem rs_alloc {i d : Nat} (cs : List Value) {N : Act → World → Prop} (h : RS w0 M F n br tb env P s a w)
    (K : ∀ b a' w', w0.heap.size ≤ b → RS w0 M F n br (tb ++ [⟨b, 0, cs, true⟩]) ((d, .p (tb.length + 1) 0) :: env) P s a' w' → N a' w')
    (he : allocE Pr env ops n i = some (d, cs) := by kernel_rfl) : wpOp Pr ops Q i N a w := by
  obtain ⟨A, m, c, hW, hr, hE, hP⟩ := h.open_
  refine wpOp_alloc hW hE he fun b a1 w1 hb hb0 hF1 hW1 hE1 => K b a1 w1 hb0 ?_
  exact RS.mk' hW1 (hr.move hF1.step immM hF1.to') hE1 h.mv (h.mv.move hF1.step immM hF1.to' hP)

/-! whole regions -/
theorem range_cons {k : Nat} (h : Nat.blt 0 k = true) : List.range k = [0] ++ (List.range k).drop 1 := by
  cases k with
  | zero => cases h
  | succ k => rw [List.range_succ_eq_map]; rfl
/-- a region: a method of the reader is called, and what it hands back is kept -/
theorem rs_ca {id d : Nat} {f : FuncId} {τ : Type} {X rest : Bs} {val : τ → Value} {fact : τ → FactW} (env' : τ → Env) (h : RS w0 M F n br tb env P (X ++ rest) a w) (hc : RPrim Pr f X rest val fact) (hm : ∀ x, MvF (fact x))
    (hf : ∀ args w, (callFunc f args).run Pr w = .ok (.enter f args) w) (K : ∀ x P' a' w', (∀ w F, P' w F → P w F ∧ fact x w F) → RS w0 M F n br tb (env' x) P' rest a' w' → Q .normal a' w')
    (he : ∀ A m c, callE (rdo br A m c :: tb) env ops n 0 = some (f, [.pointer (some ⟨br, 0, none⟩)], d) := by intro _ _ _; kernel_rfl)
    (e : ∀ x A m c, runsP Pr ops n (rdo br A m c :: tb) ((List.range ops.size).drop 1) (keysOf (env' x)) ((d, .v (val x)) :: env) = some (env' x) := by intro _ _ _ _; kernel_rfl) (hs : Nat.blt 0 ops.size = true := by kernel_rfl) : (Code.region id ops false).wp Pr Q a w := by
  refine go_region _ (range_cons hs) (of_op (rs_call h hc hm hf (fun x P' a' w' hP hS => ?_) he))
  exact rs_rn ((List.range ops.size).drop 1) [] (env' x) hS (fun a2 h2 => wpOps_nil (K x P' a2 w' hP h2)) (e x) (List.append_nil _).symm
theorem rs_ca0 {id d : Nat} {f : FuncId} {X rest : Bs} {v0 : Value} (env' : Env) (h : RS w0 M F n br tb env P (X ++ rest) a w) (hc : RPrim0 Pr f X rest v0)
    (hf : ∀ args w, (callFunc f args).run Pr w = .ok (.enter f args) w) (K : ∀ a' w', RS w0 M F n br tb env' P rest a' w' → Q .normal a' w')
    (he : ∀ A m c, callE (rdo br A m c :: tb) env ops n 0 = some (f, [.pointer (some ⟨br, 0, none⟩)], d) := by intro _ _ _; kernel_rfl)
    (e : ∀ A m c, runsP Pr ops n (rdo br A m c :: tb) ((List.range ops.size).drop 1) (keysOf env') ((d, .v v0) :: env) = some env' := by intro _ _ _; kernel_rfl) (hs : Nat.blt 0 ops.size = true := by kernel_rfl) : (Code.region id ops false).wp Pr Q a w := by
  refine go_region _ (range_cons hs) (of_op (rs_call0 h hc hf (fun a' w' hS => ?_) he))
  exact rs_rn ((List.range ops.size).drop 1) [] env' hS (fun a2 h2 => wpOps_nil (K a2 w' h2)) e (List.append_nil _).symm
/-- the same where nothing is laid -/
theorem rs_alt0 {idA idB idC d1 d2 : Nat} {o : Operand} {b : Bool} {f1 f2 : FuncId} {X1 X2 rest : Bs} {v0 : Value} (envA env' : Env) (h : RS w0 M F n br tb env P ((if b = true then X1 else X2) ++ rest) a w)
    (hc1 : RPrim0 Pr f1 X1 rest v0) (hf1 : ∀ args w, (callFunc f1 args).run Pr w = .ok (.enter f1 args) w) (hc2 : RPrim0 Pr f2 X2 rest v0) (hf2 : ∀ args w, (callFunc f2 args).run Pr w = .ok (.enter f2 args) w)
    (K : ∀ a' w', RS w0 M F n br tb env' P rest a' w' → Q .normal a' w')
    (eA : ∀ A m c, runsP Pr opsA n (rdo br A m c :: tb) (List.range opsA.size) (keysOf envA) env = some envA := by intro _ _ _; kernel_rfl) (ho : opd envA o = some (.v (.bool b)) := by kernel_rfl)
    (he1 : ∀ A m c, callE (rdo br A m c :: tb) envA opsB n 0 = some (f1, [.pointer (some ⟨br, 0, none⟩)], d1) := by intro _ _ _; kernel_rfl) (he2 : ∀ A m c, callE (rdo br A m c :: tb) envA opsC n 0 = some (f2, [.pointer (some ⟨br, 0, none⟩)], d2) := by intro _ _ _; kernel_rfl)
    (e1 : ∀ A m c, runsP Pr opsB n (rdo br A m c :: tb) ((List.range opsB.size).drop 1) (keysOf env') ((d1, .v v0) :: envA) = some env' := by intro _ _ _; kernel_rfl) (e2 : ∀ A m c, runsP Pr opsC n (rdo br A m c :: tb) ((List.range opsC.size).drop 1) (keysOf env') ((d2, .v v0) :: envA) = some env' := by intro _ _ _; kernel_rfl)
    (hs1 : Nat.blt 0 opsB.size = true := by kernel_rfl) (hs2 : Nat.blt 0 opsC.size = true := by kernel_rfl) : (Code.seq (.region idA opsA false) (.cond o (.region idB opsB false) (.region idC opsC false))).wp Pr Q a w :=
  rs_sp envA h (fun a1 h1 => cond_of h1.env_ ho (fun hb => rs_ca0 env' (h1.cast (by rw [if_pos hb])) hc1 hf1 K he1 e1 hs1) (fun hb => rs_ca0 env' (h1.cast (by rw [hb]; rfl)) hc2 hf2 K he2 e2 hs2)) eA
/-- a region that ends in a store -/
def stoE (P : Program) (ops : Array Oper) (n : Nat) (tb : Tb) (env : Env) (keys : List Nat) : Option (Nat × List Value × Env) :=
  match runs P ops n tb (List.range (ops.size - 1)) env with
  | some e => match storeE P tb e ops (ops.size - 1), pick e keys with
    | some (i, cs), some e' => some (i, cs, e')
    | _, _ => none
  | none => none
theorem rs_sto {id : Nat} (tb' : Tb) (j : Nat) (env' : Env) (h : RS w0 M F n br tb env P s a w) (K : ∀ a' w', RS w0 M F n br tb' env' P s a' w' → Q .normal a' w')
    (he : ∀ A m c, stoE Pr ops n (rdo br A m c :: tb) env (keysOf env') = some (j + 1, (obAt tb' j).cells, env') := by intro _ _ _; kernel_rfl) (ht : Tb.put tb j (obAt tb' j).cells = tb' := by rfl) (hs : Nat.blt 0 ops.size = true := by kernel_rfl) : (Code.region id ops false).wp Pr Q a w := by
  obtain ⟨A, m, c, hW, hr, hE, hP⟩ := h.open_
  have h1 := he A m c
  unfold stoE at h1
  split at h1
  · rename_i e he'
    split at h1
    · rename_i i cs e' g1 g2
      simp only [Option.some.injEq, Prod.mk.injEq] at h1
      obtain ⟨rfl, rfl, rfl⟩ := h1
      have hr0 : List.range ops.size = List.range (ops.size - 1) ++ [ops.size - 1] := by
        have : 0 < ops.size := by simpa [Nat.blt_eq] using hs
        rw [← List.range_succ]; congr 1; omega
      refine go_region _ hr0 (wpOps_runs hW.cells hE he' fun a1 hE1 => of_op (wpOp_store hW hE1 g1 fun w1 hF1 hW1 hE2 => wpOps_nil (K a1 w1 ?_)))
      have e : Tb.put (rdo br A m c :: tb) (j + 1) (obAt tb' j).cells = rdo br A m c :: tb' := by
        show rdo br A m c :: Tb.put tb j (obAt tb' j).cells = _
        rw [ht]
      rw [e] at hF1 hW1 hE2
      exact RS.mk' hW1 (hr.move hF1.step immM hF1.to') (hE2.pick g2) h.mv (h.mv.move hF1.step immM hF1.to' hP)
    · cases h1
  · cases h1
theorem rs_appendZ {i d j : Nat} {t tn e : TypeId} {size bytes : Nat} {k kn : IntKind} {q : Int} (z : Value) {N : Act → World → Prop} (h : RS w0 M F n br tb env P s a w)
    (K : ∀ g c a' w', w0.heap.size ≤ g → j ≤ c → RS w0 M F n br (tb ++ [⟨g, 0, zerosL z j, true⟩]) ((d, .v (.slice (some ⟨g, 0, none⟩) j c)) :: env) P s a' w' → N a' w')
    (hq : q = (j : Int)) (hj : 0 < j) (hb : j * bytes ≤ 140737488355328)
    (he : ∀ A m c, appE (rdo br A m c :: tb) env ops n i = some (t, tn, .slice none 0 0, .int k q, d) := by intro _ _ _; kernel_rfl) (ht : rowTy Pr t = some (e, size, bytes) := by kernel_rfl) (htn : Pr.underlying tn = some (.int kn) := by kernel_rfl) (hz : (Pr.info? e).bind (·.zero) = some z := by kernel_rfl) : wpOp Pr ops Q i N a w := by
  obtain ⟨A, m, c, hW, hr, hE, hP⟩ := h.open_
  refine wpOp_appendZ hW hE (he A m c) ht htn hz hq hj hb fun g c1 a1 w1 hg hg0 hF1 hW1 hE1 => ?_
  have hP1 := h.mv.move hF1.step immM hF1.to' hP
  have hr1 := hr.move hF1.step immM hF1.to'
  have hcap : j ≤ c1 := by
    obtain ⟨A', c', hv, _, _, h4⟩ := own_form (hW1.own 0 _ rfl)
    simp only [Rw.v, Value.slice.injEq, true_and] at hv
    rw [hv.2]; exact h4
  obtain ⟨hW2, hF2⟩ := hW1.layRowM (k := 0) rfl rfl hg0 [] (rdo br A m c :: (tb ++ [⟨g, 0, zerosL z j, true⟩])) rfl rfl
  exact K g c1 a1 w1 hg0 hcap (RS.mk' hW2 (hr1.move hF2.step immM hF2.to') (hE1.grow ⟨g, 0, zerosL z j, true⟩) h.mv (h.mv.move hF2.step immM hF2.to' hP1))
end
/-- the reader comes first -/
def swapE : Env → Env
  | [] => []
  | (k, .v x) :: r => (k, .v x) :: swapE r
  | (k, .p i j) :: r => (k, .p (match i with | 0 => 1 | 1 => 0 | i => i) j) :: swapE r
theorem swap_ok {n : Nat} {o1 o2 : Ob} {env : Env} {a : Act} (h : EnvOk n [o1, o2] env a) : EnvOk n [o2, o1] (swapE env) a := by
  have key : ∀ (env : Env) (k : Nat) (x : SV), lk (swapE env) k = some x → ∃ y, lk env k = some y ∧ (y.ok [o1, o2] → x.val [o2, o1] = y.val [o1, o2] ∧ x.ok [o2, o1]) := by
    intro env
    induction env with
    | nil => intro k x hx; cases hx
    | cons e r ih =>
      obtain ⟨k', sv⟩ := e
      intro k x hx
      cases sv with
      | v y =>
        simp only [swapE, lk] at hx ⊢
        split at hx
        · rename_i hb
          simp only [Option.some.injEq] at hx
          subst hx
          exact ⟨_, rfl, fun _ => ⟨rfl, trivial⟩⟩
        · exact ih k x hx
      | p i j =>
        simp only [swapE, lk] at hx ⊢
        split at hx
        · rename_i hb
          simp only [Option.some.injEq] at hx
          subst hx
          refine ⟨_, rfl, fun hok => ?_⟩
          have hok' : i < 2 := hok
          match i, hok' with
          | 0, _ => exact ⟨rfl, show 1 < 2 by omega⟩
          | 1, _ => exact ⟨rfl, show 0 < 2 by omega⟩
        · exact ih k x hx
  refine ⟨h.defers, h.size, fun k x hx => ?_⟩
  obtain ⟨y, hy, hv⟩ := key env k x hx
  obtain ⟨h1, h2⟩ := h.at_ k y hy
  obtain ⟨h3, h4⟩ := hv h2
  exact ⟨by rw [h3]; exact h1, h4⟩
theorem swap_get {α : Type} {x y o : α} {i : Nat} (h : [y, x][i]? = some o) : [x, y][1 - i]? = some o ∧ i < 2 := by
  match i, h with
  | 0, h => exact ⟨h, by omega⟩
  | 1, h => exact ⟨h, by omega⟩
  | i + 2, h => simp at h
theorem WOk.swap2 {w0 w : World} {M : Nat → Nat → Prop} {o1 o2 : Ob} (h : WOk w0 M w [o1, o2] []) : WOk w0 M w [o2, o1] [] :=
  ⟨h.step, fun i o hi => h.cells _ o (swap_get hi).1, fun i o hi => h.live _ o (swap_get hi).1, fun i o hi => h.rw_ _ o (swap_get hi).1, fun i j o o' hij hi hj hw => h.apart _ _ o o' (by have := (swap_get hi).2; have := (swap_get hj).2; omega) (swap_get hi).1 (swap_get hj).1 hw, h.own, h.ownM, fun i r hi => by simp at hi, h.rr⟩
theorem act_swap {o1 o2 : Ob} {b o : Nat} (h : Act_ [o2, o1] [] b o) : Act_ [o1, o2] [] b o := by
  rcases h with ⟨i, ob, hi, h1⟩ | ⟨i, r, hi, _⟩
  · exact .inl ⟨_, ob, (swap_get hi).1, h1⟩
  · simp at hi
theorem RS.start {w0 w : World} {M F : Nat → Nat → Prop} {n br c : Nat} {A : Option Addr} {o1 : Ob} {env : Env} {s : Bs} {a : Act} (hW : WOk w0 M w [o1, rdo br A s.length c] []) (hE : EnvOk n [o1, rdo br A s.length c] env a) (ho : Octs w (Imm F w0 w [o1, rdo br A s.length c] []) A c s) (env' : Env) (he : pick (swapE env) (keysOf env') = some env' := by kernel_rfl) : RS w0 M F n br [o1] env' noF s a w :=
  RS.mk' hW.swap2 ⟨rfl, ho.move (Step.refl w Nil) nilM fun b o h _ => ⟨h.1, h.2.1, fun ha => h.2.2 (act_swap ha)⟩⟩ ((swap_ok hE).pick he) MvF.no trivial
end Go.Proofs.YtnhgfbgdoelfoaaGreatDoor.ME

/- Reading lists in larger steps. Own work. -/
namespace Go.Proofs.YtnhgfbgdoelfoaaGreatDoor.ME
open Go
open Go.RowKit
set_option linter.unusedVariables false
set_option linter.unusedSimpArgs false

theorem get_two {α : Type} {l : List α} {x y o : α} {i : Nat} (h : (l ++ [x, y])[i]? = some o) : (i < l.length ∧ l[i]? = some o) ∨ (i = l.length ∧ o = x) ∨ (i = l.length + 1 ∧ o = y) := by
  rcases Nat.lt_or_ge i l.length with hl | hl
  · rw [List.getElem?_append_left hl] at h; exact .inl ⟨hl, h⟩
  · rw [List.getElem?_append_right hl] at h
    rcases hk : i - l.length with _ | _ | k
    · rw [hk] at h; exact .inr (.inl ⟨by omega, (Option.some.inj h).symm⟩)
    · rw [hk] at h; exact .inr (.inr ⟨by omega, (Option.some.inj h).symm⟩)
    · rw [hk] at h; simp at h
theorem get_last {α : Type} {l : List α} {x : α} : (l ++ [x])[l.length]? = some x := by simp
section
variable {w0 w : World} {M : Nat → Nat → Prop} {tb : Tb} {rs : List Rw}
/-- the last place in two: what is behind stays where it was, what is in front comes last -/
theorem WOk.splitL {b o o2 : Nat} {cs1 cs2 : List Value} (hW : WOk w0 M w (tb ++ [⟨b, o, cs1 ++ cs2, true⟩]) rs) (ho : o2 = o + cs1.length) :
    WOk w0 M w (tb ++ [⟨b, o2, cs2, true⟩, ⟨b, o, cs1, true⟩]) rs ∧ Fr w (tb ++ [⟨b, o, cs1 ++ cs2, true⟩]) rs w (tb ++ [⟨b, o2, cs2, true⟩, ⟨b, o, cs1, true⟩]) rs := by
  subst ho
  have hi : (tb ++ [(⟨b, o, cs1 ++ cs2, true⟩ : Ob)])[tb.length]? = some ⟨b, o, cs1 ++ cs2, true⟩ := get_last
  have old : ∀ {j : Nat} {q : Ob}, j < tb.length → tb[j]? = some q → (tb ++ [(⟨b, o, cs1 ++ cs2, true⟩ : Ob)])[j]? = some q := fun {j q} hj h => by rw [List.getElem?_append_left hj]; exact h
  have hlen : (cs1 ++ cs2).length = cs1.length + cs2.length := List.length_append
  have act : ∀ x y, Act_ (tb ++ [⟨b, o + cs1.length, cs2, true⟩, ⟨b, o, cs1, true⟩]) rs x y → Act_ (tb ++ [⟨b, o, cs1 ++ cs2, true⟩]) rs x y := fun x y ha => by
    rcases ha with ⟨j, q, hj, h1, h2, h3, h4⟩ | ha
    · rcases get_two hj with ⟨hlt, hj⟩ | ⟨rfl, rfl⟩ | ⟨rfl, rfl⟩
      · exact .inl ⟨j, q, old hlt hj, h1, h2, h3, h4⟩
      · exact .inl ⟨_, _, hi, rfl, h2, by dsimp only at h3 ⊢; omega, by dsimp only at h4 ⊢; omega⟩
      · exact .inl ⟨_, _, hi, rfl, h2, by dsimp only at h3 ⊢; omega, by dsimp only at h4 ⊢; omega⟩
    · exact .inr ha
  refine ⟨⟨hW.step, ?_, ?_, ?_, ?_, hW.own, hW.ownM, ?_, hW.rr⟩, ⟨fun x y _ hn ha => hn (act x y ha), Step.refl _ _⟩⟩
  · intro j q hj p v hv
    rcases get_two hj with ⟨hlt, hj⟩ | ⟨rfl, rfl⟩ | ⟨rfl, rfl⟩
    · exact hW.cells j q (old hlt hj) p v hv
    · have := hW.cells _ _ hi (cs1.length + p) v (by dsimp only at hv ⊢; rw [List.getElem?_append_right (by omega), Nat.add_sub_cancel_left]; exact hv)
      dsimp only at this ⊢
      rwa [Nat.add_assoc]
    · exact hW.cells _ _ hi p v (by dsimp only at hv ⊢; rw [List.getElem?_append_left (List.getElem?_eq_some_iff.1 hv).1]; exact hv)
  · intro j q hj
    rcases get_two hj with ⟨hlt, hj⟩ | ⟨rfl, rfl⟩ | ⟨rfl, rfl⟩
    · exact hW.live j q (old hlt hj)
    · have := hW.live _ _ hi; exact this
    · have := hW.live _ _ hi; exact this
  · intro j q hj hr p hp
    rcases get_two hj with ⟨hlt, hj⟩ | ⟨rfl, rfl⟩ | ⟨rfl, rfl⟩
    · exact hW.rw_ j q (old hlt hj) hr p hp
    · have := hW.rw_ _ _ hi rfl (cs1.length + p) (by dsimp only at hp ⊢; omega)
      dsimp only at this ⊢
      rwa [Nat.add_assoc]
    · exact hW.rw_ _ _ hi rfl p (by dsimp only at hp ⊢; omega)
  · intro j k q q' hjk hj hk hw
    rcases get_two hj with ⟨hlj, hj⟩ | ⟨rfl, rfl⟩ | ⟨rfl, rfl⟩ <;> rcases get_two hk with ⟨hlk, hk⟩ | ⟨rfl, rfl⟩ | ⟨rfl, rfl⟩
    · exact hW.apart j k q q' hjk (old hlj hj) (old hlk hk) hw
    · have := hW.apart j _ q _ (by omega) (old hlj hj) hi (.inr rfl)
      dsimp only at this ⊢; omega
    · have := hW.apart j _ q _ (by omega) (old hlj hj) hi (.inr rfl)
      dsimp only at this ⊢; omega
    · have := hW.apart _ k _ q' (by omega) hi (old hlk hk) (.inl rfl)
      dsimp only at this ⊢; omega
    · exact absurd rfl hjk
    · exact .inr (.inr (Nat.le_refl _))
    · have := hW.apart _ k _ q' (by omega) hi (old hlk hk) (.inl rfl)
      dsimp only at this ⊢; omega
    · exact .inr (.inl (Nat.le_refl _))
    · exact absurd rfl hjk
  · intro j r hj g hg k q hk
    rcases get_two hk with ⟨hlk, hk⟩ | ⟨rfl, rfl⟩ | ⟨rfl, rfl⟩
    · exact hW.rtb j r hj g hg k q (old hlk hk)
    · have := hW.rtb j r hj g hg _ _ hi; exact this
    · have := hW.rtb j r hj g hg _ _ hi; exact this
/-- the last place, let go: it is not written any more -/
theorem WOk.atLast {G : Nat → Nat → Prop} {b o : Nat} {cs : List Value} (hW : WOk w0 M w (tb ++ [⟨b, o, cs, true⟩]) []) (hb : w0.heap.size ≤ b) : AtF w (Imm G w0 w tb []) b o cs := fun j v hj => by
  have hlt : j < cs.length := (List.getElem?_eq_some_iff.1 hj).1
  refine ⟨⟨.inr hb, ?_, fun ha => ?_⟩, ?_⟩
  · have := hW.live _ _ get_last; exact this
  · rcases ha with ⟨i, q, hi, hr, h2, h3, h4⟩ | ⟨i, r, hi, _⟩
    · have hil : i < tb.length := (List.getElem?_eq_some_iff.1 hi).1
      have := hW.apart i _ q _ (by omega) (by rw [List.getElem?_append_left hil]; exact hi) get_last (.inr rfl)
      dsimp only at this; omega
    · simp at hi
  · have := hW.cells _ _ get_last j v hj; exact this
end
/-- the things that have been filled -/
def doneF (g size : Nat) (cl : DV → List Value) (ok : World → (Nat → Nat → Prop) → DV → Prop) (rel : DV → Tree → Prop) (L : List Tree) (k : Nat) : FactW := fun w F => ∃ ds : Nat → DV, ∀ i, i < k → (cl (ds i)).length = size ∧ AtF w F g (0 + i * size) (cl (ds i)) ∧ ok w F (ds i) ∧ rel (ds i) (L.getD i .zero)
theorem MvF.done {g size : Nat} {cl : DV → List Value} {ok : World → (Nat → Nat → Prop) → DV → Prop} {rel : DV → Tree → Prop} {L : List Tree} {k : Nat} (mv : Moves ok) : MvF (doneF g size cl ok rel L k) := ⟨fun hs hM hF h => by
  obtain ⟨ds, h⟩ := h
  refine ⟨ds, fun i hi => ?_⟩
  obtain ⟨h1, h2, h3, h4⟩ := h i hi
  exact ⟨h1, h2.move hs hM hF, mv _ hs hM hF h3, h4⟩⟩
/-- the things that are not yet filled -/
abbrev restO (g size : Nat) (z : Value) (l k : Nat) : Ob := ⟨g, k * size, zerosL z (l - k), true⟩
/-- a list that has been read -/
def lstF (size : Nat) (cl : DV → List Value) (ok : World → (Nat → Nat → Prop) → DV → Prop) (rel : DV → Tree → Prop) (A : Option Addr) (c : Nat) (L : List Tree) (f : Nat → DV) : FactW := fun w F => Slots w F size A c L.length (fun i => cl (f i)) ∧ (∀ i, i < L.length → ok w F (f i)) ∧ ∀ i, i < L.length → rel (f i) (L.getD i .zero)
theorem MvF.lst {size : Nat} {cl : DV → List Value} {ok : World → (Nat → Nat → Prop) → DV → Prop} {rel : DV → Tree → Prop} {A : Option Addr} {c : Nat} {L : List Tree} {f : Nat → DV} (mv : Moves ok) : MvF (lstF size cl ok rel A c L f) := ⟨fun hs hM hF h =>
  ⟨h.1.move hs hM hF, fun i hi => mv _ hs hM hF (h.2.1 i hi), h.2.2⟩⟩
section
variable {Pr : Program} {ops : Array Oper} {Q : Exit → Act → World → Prop} {w0 : World} {M F : Nat → Nat → Prop} {n br : Nat} {tb : Tb} {env : Env} {P : FactW} {s : Bs} {a : Act} {w : World}
  {g size : Nat} {cl : DV → List Value} {ok : World → (Nat → Nat → Prop) → DV → Prop} {rel : DV → Tree → Prop} {L : List Tree} {z : Value}
/-- a value told by a fact, taken out -/
theorem RS.pull {ι : Type} {Qf : ι → FactW} (h : RS w0 M F n br tb env (andF P (fun w F => ∃ x, Qf x w F)) s a w) (mP : MvF P) (mv : ∀ x, MvF (Qf x)) : ∃ x, RS w0 M F n br tb env (andF P (Qf x)) s a w := by
  obtain ⟨h1, x, hx⟩ := h.fact
  exact ⟨x, mP.and (mv x), h.ex, h.env_, h1, hx⟩
/-- the last place is let go -/
theorem RS.drop {b o : Nat} {cs : List Value} (h : RS w0 M F n br (tb ++ [⟨b, o, cs, true⟩]) env P s a w) (hb : w0.heap.size ≤ b) (hl : below (tb.length + 1) env = true) : RS w0 M F n br tb env (andF P (atF b o cs)) s a w := by
  obtain ⟨A, m, c, hW, hr, hE, hP⟩ := h.open_
  have hW' : WOk w0 M w ((rdo br A m c :: tb) ++ [⟨b, o, cs, true⟩]) [] := hW
  have h1 := hW'.cutTb (tb.length + 1)
  have hF := Fr.cutTb w ((rdo br A m c :: tb) ++ [⟨b, o, cs, true⟩]) [] (tb.length + 1)
  have e : ((rdo br A m c :: tb) ++ [(⟨b, o, cs, true⟩ : Ob)]).take (tb.length + 1) = rdo br A m c :: tb := by
    show List.take ((rdo br A m c :: tb).length) _ = _
    exact List.take_left
  have hE1 := hE.cutTb (tb.length + 1) hl
  have e2 : (rdo br A m c :: (tb ++ [(⟨b, o, cs, true⟩ : Ob)])).take (tb.length + 1) = rdo br A m c :: tb := e
  rw [e] at h1 hF
  rw [e2] at hE1
  exact RS.mk' h1 (hr.move hF.step immM hF.to') hE1 (h.mv.and (MvF.at_ _ _ _)) ⟨h.mv.move hF.step immM hF.to' hP, hW'.atLast hb⟩
/-- the same, and nothing is kept of it -/
theorem RS.dropT {b o : Nat} {cs : List Value} (h : RS w0 M F n br (tb ++ [⟨b, o, cs, true⟩]) env P s a w) (hb : w0.heap.size ≤ b) (hl : below (tb.length + 1) env = true) : RS w0 M F n br tb env P s a w :=
  (h.drop hb hl).weak h.mv fun _ _ g => g.1
/-- one more thing is to be filled -/
theorem RS.next {l k : Nat} (h : RS w0 M F n br (tb ++ [restO g size z l k]) env P s a w) (hk : k < l) (hz : z.cells.size = size) (hl : below (tb.length + 1) env = true) : RS w0 M F n br (tb ++ [restO g size z l (k + 1), ⟨g, k * size, z.cells.toList, true⟩]) env P s a w := by
  obtain ⟨A, m, c, hW, hr, hE, hP⟩ := h.open_
  have e : zerosL z (l - k) = z.cells.toList ++ zerosL z (l - (k + 1)) := by rw [show l - k = (l - (k + 1)) + 1 by omega, zerosL_succ]
  have hW' : WOk w0 M w ((rdo br A m c :: tb) ++ [⟨g, k * size, z.cells.toList ++ zerosL z (l - (k + 1)), true⟩]) [] := by rw [← e]; exact hW
  obtain ⟨h1, hF⟩ := hW'.splitL (o2 := (k + 1) * size) (by rw [Array.length_toList, hz, Nat.add_mul, Nat.one_mul])
  rw [← e] at hF
  have hE1 := hE.cutTb (tb.length + 1) hl
  have e2 : (rdo br A m c :: (tb ++ [restO g size z l k])).take (tb.length + 1) = rdo br A m c :: tb := by
    show List.take ((rdo br A m c :: tb).length) ((rdo br A m c :: tb) ++ _) = _
    exact List.take_left
  rw [e2] at hE1
  have hE2 := (hE1.grow (restO g size z l (k + 1))).grow ⟨g, k * size, z.cells.toList, true⟩
  have e3 : ((rdo br A m c :: tb) ++ [restO g size z l (k + 1)]) ++ [(⟨g, k * size, z.cells.toList, true⟩ : Ob)] = rdo br A m c :: (tb ++ [restO g size z l (k + 1), ⟨g, k * size, z.cells.toList, true⟩]) := by simp
  rw [e3] at hE2
  exact RS.mk' h1 (hr.move hF.step immM hF.to') hE2 h.mv (h.mv.move hF.step immM hF.to' hP)
/-- a thing has been filled -/
theorem RS.thing {k : Nat} {D : DV} {X : FactW} (h : RS w0 M F n br (tb ++ [restO g size z L.length (k + 1), ⟨g, k * size, cl D, true⟩]) env X s a w) (hg : w0.heap.size ≤ g) {t : Tree} (ht : L[k]? = some t) (mv : Moves ok) (mP : MvF P) (hcl : (cl D).length = size)
    (hx : ∀ w F, X w F → P w F ∧ doneF g size cl ok rel L k w F ∧ ok w F D ∧ rel D t) (hl : below (tb.length + 2) env = true) : RS w0 M F n br (tb ++ [restO g size z L.length (k + 1)]) env (andF P (doneF g size cl ok rel L (k + 1))) s a w := by
  have h' : RS w0 M F n br ((tb ++ [restO g size z L.length (k + 1)]) ++ [⟨g, k * size, cl D, true⟩]) env X s a w := by
    rw [List.append_assoc]; exact h
  refine (h'.drop hg (by simpa using hl)).weak (mP.and (MvF.done mv)) fun w F hf => ?_
  obtain ⟨hf, hat⟩ := hf
  obtain ⟨h1, ⟨ds, h2⟩, h3, h4⟩ := hx w F hf
  refine ⟨h1, fun i => if i = k then D else ds i, fun i hi => ?_⟩
  by_cases hik : i = k
  · subst hik
    simp only [if_true]
    exact ⟨hcl, by rw [Nat.zero_add]; exact hat, h3, by rw [List.getD_eq_getElem?_getD, ht]; exact h4⟩
  · simp only [if_neg hik]
    exact h2 i (by omega)
/-- all things have been filled -/
theorem RS.listEnd {c : Nat} (h : RS w0 M F n br (tb ++ [restO g size z L.length L.length]) env (andF P (doneF g size cl ok rel L L.length)) s a w) (hg : w0.heap.size ≤ g) (mv : Moves ok) (mP : MvF P) (hc : L.length ≤ c) (hsm : L.length ≤ 1099511627776) (h0 : 0 < L.length)
    (hl : below (tb.length + 1) env = true) : ∃ f : Nat → DV, RS w0 M F n br tb env (andF P (lstF size cl ok rel (some ⟨g, 0, none⟩) c L f)) s a w := by
  have mE : MvF (fun w F => ∃ f : Nat → DV, lstF size cl ok rel (some ⟨g, 0, none⟩) c L f w F) := ⟨fun hs hM hF hx => by
    obtain ⟨f, hx⟩ := hx
    exact ⟨f, (MvF.lst mv).move hs hM hF hx⟩⟩
  refine RS.pull (Qf := fun f => lstF size cl ok rel (some ⟨g, 0, none⟩) c L f) ((h.drop hg hl).weak (mP.and mE) fun w F hf => ?_) mP fun f => MvF.lst mv
  obtain ⟨⟨h1, ds, h2⟩, _⟩ := hf
  refine ⟨h1, ds, ⟨hc, hsm, fun h => by (cases h), fun ad hA _ => ?_⟩, fun i hi => (h2 i hi).2.2.1, fun i hi => (h2 i hi).2.2.2⟩
  obtain rfl := Option.some.inj hA
  exact ⟨g, 0, rfl, fun i hi => ⟨(h2 i hi).1, (h2 i hi).2.1⟩⟩
/-- the loop over the things of a list -/
theorem rs_loop {c : Code} (gf : Tree → Bs) (rest : Bs) (envk : Nat → Env) (h : RS w0 M F n br (tb ++ [⟨g, 0, zerosL z L.length, true⟩]) (envk 0) P (L.flatMap gf ++ rest) a w) (mv : Moves ok)
    (body : ∀ k t a w, L[k]? = some t → k < L.length → RS w0 M F n br (tb ++ [restO g size z L.length k]) (envk k) (andF P (doneF g size cl ok rel L k)) (gf t ++ ((L.drop (k + 1)).flatMap gf ++ rest)) a w →
      c.wp Pr (Exit.then (fun a' w' => RS w0 M F n br (tb ++ [restO g size z L.length (k + 1)]) (envk (k + 1)) (andF P (doneF g size cl ok rel L (k + 1))) ((L.drop (k + 1)).flatMap gf ++ rest) a' w') Q) a w)
    (fin : ∀ a w, RS w0 M F n br (tb ++ [restO g size z L.length L.length]) (envk L.length) (andF P (doneF g size cl ok rel L L.length)) rest a w → c.wp Pr (Exit.then (fun _ _ => False) Q) a w) : (Code.loop c).wp Pr Q a w := by
  refine wp_loop_ghost (fun q a_ w_ => ∃ k, q = L.length - k ∧ k ≤ L.length ∧ RS w0 M F n br (tb ++ [restO g size z L.length k]) (envk k) (andF P (doneF g size cl ok rel L k)) ((L.drop k).flatMap gf ++ rest) a_ w_) L.length
    ⟨0, by omega, Nat.zero_le _, ?_⟩ ?_
  · have e : restO g size z L.length 0 = ⟨g, 0, zerosL z L.length, true⟩ := by simp only [restO, Nat.zero_mul, Nat.sub_zero]
    rw [e, List.drop_zero]
    exact h.weak (h.mv.and (MvF.done mv)) fun w F hP => ⟨hP, fun _ => dv0, fun i hi => absurd hi (Nat.not_lt_zero i)⟩
  · rintro q aq wq ⟨k, rfl, hk, hS⟩
    rcases Nat.lt_or_ge k L.length with hlt | hge
    · obtain ⟨t, ht⟩ : ∃ t, L[k]? = some t := ⟨_, List.getElem?_eq_getElem hlt⟩
      have e : (L.drop k).flatMap gf ++ rest = gf t ++ ((L.drop (k + 1)).flatMap gf ++ rest) := by
        rw [drop_get ht, List.flatMap_cons, List.append_assoc]
      refine wp_mono (body k t aq wq ht hlt (hS.cast e)) fun e a' w' hq => ?_
      cases e <;> first | exact hq | exact ⟨L.length - (k + 1), by omega, k + 1, rfl, hlt, hq⟩
    · obtain rfl : k = L.length := by omega
      rw [List.drop_length] at hS
      refine wp_mono (fin aq wq hS) fun e a' w' hq => ?_
      cases e <;> first | exact hq | exact hq.elim
/-- a loop that is left at once -/
theorem loop_out {c : Code} (h : c.wp Pr (Exit.then (fun _ _ => False) Q) a w) : (Code.loop c).wp Pr Q a w := by
  refine wp_loop_ghost (fun _ a_ w_ => a_ = a ∧ w_ = w) 0 ⟨rfl, rfl⟩ ?_
  rintro q _ _ ⟨rfl, rfl⟩
  refine wp_mono h fun e a' w' hq => ?_
  cases e <;> first | exact hq | exact hq.elim
/-- two steps that come together again -/
theorem wp_join2 {x y z : Code} {Mid : Act → World → Prop} (h1 : x.wp Pr (Exit.then (fun a w => y.wp Pr (Exit.then Mid Q) a w) Q) a w) (h2 : ∀ a' w', Mid a' w' → z.wp Pr Q a' w') : (Code.seq x (.seq y z)).wp Pr Q a w :=
  wp_seq (wp_join h1 fun a' w' hy => wp_seq (wp_join hy h2))
end
end Go.Proofs.YtnhgfbgdoelfoaaGreatDoor.ME
