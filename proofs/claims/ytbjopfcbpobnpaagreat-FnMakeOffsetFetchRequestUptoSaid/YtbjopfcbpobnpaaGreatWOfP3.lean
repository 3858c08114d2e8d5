/- The texts of a claim, put together: the engine, the contracts, the law. Own work. -/
import Derived.Test.YtbjopfcbpobnpaaGreatWOfP2
/- Contracts: printed by tools/sp.py. Own work. -/
namespace Go.Proofs.YtbjopfcbpobnpaaGreat.ME
open Go
set_option linter.unusedVariables false
set_option linter.unusedSimpArgs false
set_option maxRecDepth 20000

theorem sUnknown (Af : Option Addr) (cf : Nat) (l : List Fld) (A : Option Addr) (c : Nat) (u : List (Int × Bs)) (w : World) (F : Nat → Nat → Prop) (hl : FldsR w F Af cf l) (hu : TagsR w F A c u) :
    Calls Tryz.prog 38 #[.slice Af l.length cf, .slice A u.length c] w (GivesU w F (unknownT l u)) := by
  obtain ⟨xf, hf1, hf2⟩ := hl.ex
  obtain ⟨xu, hu1, hu2⟩ := hu.ex
  have hsmu := hu1.small
  have hule : (u.take 32767).length ≤ 32767 := by rw [List.length_take]; omega
  refine enter (n := 85) Tryz.func38 rfl Tryz.ntmps38 (by kernel_rfl) fun a hE => ?_
  have hW := WOk.start w Nil
  refine go_sp [(0, .v (.slice Af l.length cf)), (1, .v (.slice A u.length c))] hW hE fun a1 hE2 => ?_
  clear hE
  refine go_seq_region [0, 1, 2] (by kernel_rfl) ?_
  refine go_rn [0] [1, 2] [(1, .v (.slice A u.length c)), (11, .v (.slice Af l.length cf))] hW hE2 fun a3 hE4 => ?_
  clear hE2
  refine of_op (wpOp_call hE4 (f := 89) (vs := [.slice Af l.length cf]) (d := 12) (by kernel_rfl) Tryz.call89 (sKnown _ _ l _ _ ⟨xf, (hf1.move hW.step nilM hW.imm), (fun i_ x_ h_ => ((hf2 i_ x_ h_).move hW.step nilM hW.imm))⟩) ?_)
  rintro e_ w6 ⟨rfl, hs5⟩
  refine ⟨_, rfl, fun a7 hE8 => ?_⟩
  have hW9 := hW.next_nil hs5
  have hF10 := hW.frN hs5
  clear hE4 hW
  refine go_rn [2] [] [(1, .v (.slice A u.length c)), (5, .v (.int .u32 (knownI l)))] hW9 hE8 fun a11 hE12 => ?_
  clear hE8
  refine wpOps_nil ?_
  refine then_normal ?_
  refine go_sp [(1, .v (.slice A u.length c)), (5, .v (.int .u32 (knownI l))), (6, .v (.slice none 0 0))] hW9 hE12 fun a13 hE14 => ?_
  clear hE12
  refine wp_seq ?_
  refine go_seq_region [0, 1, 2, 3, 4, 5, 6] (by kernel_rfl) ?_
  refine go_rn [0, 1, 2, 3] [4, 5, 6] [(5, .v (.int .u32 (knownI l))), (6, .v (.slice none 0 0)), (13, .v (.slice A u.length c)), (16, .v (.int .i64 (if 32767 < ((u.length : Nat) : Int) then 32767 else ((u.length : Nat) : Int))))] hW9 hE14 fun a15 hE16 => ?_
  clear hE14
  refine of_op (wpOp_cut_hi hE16 (t := 24) (A := A) (m := u.length) (cp := c) (q := (if 32767 < ((u.length : Nat) : Int) then 32767 else ((u.length : Nat) : Int))) (d := 17) (j := (u.take 32767).length) (by kernel_rfl) (e := 63) (size := 2) (bytes := 32) (by kernel_rfl) (by simpa using min_lit u.length) (by rw [List.length_take]; have := hu1.le; omega) fun a17 hE18 => ?_)
  clear hE16
  refine go_rn [5, 6] [] [(5, .v (.int .u32 (knownI l))), (6, .v (.slice none 0 0)), (17, .v (.slice A ((u.take 32767).length) c)), (18, .v (.int .i64 (((u.take 32767).length : Nat) : Int))), (19, .v (.int .i64 0))] hW9 hE18 fun a19 hE20 => ?_
  clear hE18
  refine wpOps_nil ?_
  refine then_normal ?_
  refine wp_block ?_
  have hW21 := hW9.addNil 63 2
  have hF22 := hW9.frNil 63 2
  clear hW9
  refine wp_loop_ghost (fun n_ a_ w_ => ∃ (k : Nat) (A_ : Option Addr) (c_ : Nat) (out : List (Int × Bs)) (css : List (List Value)), n_ = (u.take 32767).length - k ∧ k ≤ (u.take 32767).length ∧ (TagsE w_ (Imm F w w_ [] [⟨A_, c_, 63, 2, out.length, css.flatten⟩]) out css) ∧ (out = ((u.take 32767).take k).foldl (insTag (knownI l)) []) ∧ (out.length ≤ k) ∧ LInv hW21 85 [] [⟨A_, c_, 63, 2, out.length, css.flatten⟩] [(5, .v (.int .u32 (knownI l))), (6, .v (.slice A_ out.length c_)), (17, .v (.slice A ((u.take 32767).length) c)), (18, .v (.int .i64 (((u.take 32767).length : Nat) : Int))), (19, .v (.int .i64 ((k : Nat) : Int)))] a_ w_) ((u.take 32767).length) ⟨0, none, 0, [], [], by omega, by omega, TagsE.nil _ _, rfl, Nat.zero_le _, hE20.pk, hW21, Fr.refl _ _ _⟩ ?_
  clear hE20
  rintro n23 a24 w25 ⟨k, A_, c_, out, css, hn28, hk29, hT, hout, hlen, hE26, hW27, hF30⟩
  refine go_sp [(5, .v (.int .u32 (knownI l))), (6, .v (.slice A_ out.length c_)), (17, .v (.slice A ((u.take 32767).length) c)), (18, .v (.int .i64 (((u.take 32767).length : Nat) : Int))), (19, .v (.int .i64 ((k : Nat) : Int))), (20, .v (.bool (decide (((k : Nat) : Int) < (((u.take 32767).length : Nat) : Int)))))] hW27 hE26 fun a31 hE32 => ?_
  clear hE26
  refine wp_seq ?_
  refine cond_of hE32 (b := decide (((k : Nat) : Int) < (((u.take 32767).length : Nat) : Int))) (by kernel_rfl) (fun hc33 => ?_) (fun hc33 => ?_)
  ·
    have hf34 := of_decide_eq_true hc33
    refine wp_skip ?_
    refine then_normal ?_
    refine wp_seq ?_
    refine wp_block ?_
    refine go_seq_region [0, 1, 2, 3] (by kernel_rfl) ?_
    obtain ⟨b35, o36, hA37, hl38, hat39⟩ := Slots.get (tags_take_slots hu1 32767) (i := k) (by omega)
    obtain ⟨⟨k40, s41⟩, he42⟩ : ∃ x, (u.take 32767)[k]? = some x := ⟨_, List.getElem?_eq_getElem (by omega)⟩
    obtain ⟨⟨A43, c44, hcs45, hb46⟩, h47, h48⟩ := (tags_take_each hu2 32767) k k40 s41 he42
    rw [hcs45] at hat39
    refine of_op (wpOp_index hE32 (t := 24) (A := A) (m := (u.take 32767).length) (q := ((k : Nat) : Int)) (d := 21) (by kernel_rfl) (e := 63) (size := 2) (bytes := 32) (by kernel_rfl) hA37 rfl (by omega) fun a49 hE50 => ?_)
    clear hE32
    refine of_op (wpOp_load hE50 (t := 63) (b := b35) (o := o36 + k * 2) (d := 22) (by kernel_rfl) (cs := [.int .u32 k40, .slice A43 s41.length c44]) (v := .agg #[.int .u32 k40, .slice A43 s41.length c44]) (by kernel_rfl) (AtF.move hat39 hW27.step nilM keepF).at_ fun a51 hE52 => ?_)
    clear hE50
    refine of_op (wpOp_alloc hW27 hE52 (d := 8) (cs := [.int .u32 0, .slice none 0 0]) (by kernel_rfl) fun b53 a54 w55 hb56 hz57 hF58 hW59 hE60 => ?_)
    clear hE52 hW27
    refine of_op (wpOp_store hW59 hE60 (oi := 0) (cs := [.int .u32 k40, .slice A43 s41.length c44]) (by kernel_rfl) fun w61 hF62 hW63 hE64 => ?_)
    clear hE60 hW59
    refine wpOps_nil ?_
    refine then_normal ?_
    refine go_sp [(5, .v (.int .u32 (knownI l))), (6, .v (.slice A_ out.length c_)), (8, .p 0 0), (9, .v (.int .i64 0)), (17, .v (.slice A ((u.take 32767).length) c)), (18, .v (.int .i64 (((u.take 32767).length : Nat) : Int))), (19, .v (.int .i64 ((k : Nat) : Int)))] hW63 hE64 fun a65 hE66 => ?_
    clear hE64
    refine wp_seq ?_
    refine wp_block ?_
    refine wp_loop_ghost (fun n_ a_ w_ => ∃ (i : Nat), n_ = out.length - i ∧ (i ≤ out.length) ∧ (∀ q, q < i → (out.getD q (0, [])).1 < k40) ∧ LInv hW63 85 [⟨b53, 0, [.int .u32 k40, .slice A43 s41.length c44], true⟩] [⟨A_, c_, 63, 2, out.length, css.flatten⟩] [(5, .v (.int .u32 (knownI l))), (6, .v (.slice A_ out.length c_)), (8, .p 0 0), (9, .v (.int .i64 ((i : Nat) : Int))), (17, .v (.slice A ((u.take 32767).length) c)), (18, .v (.int .i64 (((u.take 32767).length : Nat) : Int))), (19, .v (.int .i64 ((k : Nat) : Int)))] a_ w_) (out.length - 0) ⟨0, rfl, Nat.zero_le _, fun q h_ => absurd h_ (Nat.not_lt_zero q), hE66.pk, hW63, Fr.refl _ _ _⟩ ?_
    clear hE66
    rintro n67 a68 w69 ⟨i, hn72, hi, hlt, hE70, hW71, hF73⟩
    refine wp_seq ?_
    refine go_seq_drawQ (by kernel_rfl) hW71 fun w74 hF75 hW76 => ?_
    clear hW71
    refine go_rnD [0, 1, 2, 3, 4] [(5, .v (.int .u32 (knownI l))), (6, .v (.slice A_ out.length c_)), (8, .p 0 0), (9, .v (.int .i64 ((i : Nat) : Int))), (17, .v (.slice A ((u.take 32767).length) c)), (18, .v (.int .i64 (((u.take 32767).length : Nat) : Int))), (19, .v (.int .i64 ((k : Nat) : Int))), (27, .v (.bool (decide (((i : Nat) : Int) < ((out.length : Nat) : Int)))))] 9 (panicFree_then (panicFree_then (panicFree_then (panicFree_block (panicFree_then (panicFree_block (panicFree_then (panicFree_then (panicFree_block (panicFree_then panicFree_body)))))))))) (fun _ h => h ▸ hW76.cells) rfl hE70 fun a77 hE78 => ?_
    clear hE70
    refine (Bool.eq_false_or_eq_true (decide (((i : Nat) : Int) < ((out.length : Nat) : Int)))).elim (fun hc79 => ?_) (fun hc79 => ?_)
    ·
      have hf80 := of_decide_eq_true hc79
      have hE81 := hE78.cast (env' := [(5, .v (.int .u32 (knownI l))), (6, .v (.slice A_ out.length c_)), (8, .p 0 0), (9, .v (.int .i64 ((i : Nat) : Int))), (17, .v (.slice A ((u.take 32767).length) c)), (18, .v (.int .i64 (((u.take 32767).length : Nat) : Int))), (19, .v (.int .i64 ((k : Nat) : Int))), (27, .v (.bool true))]) (by rw [hc79])
      clear hE78
      refine go_rnD [5, 6, 10, 11] [(5, .v (.int .u32 (knownI l))), (6, .v (.slice A_ out.length c_)), (8, .p 0 0), (9, .v (.int .i64 ((i : Nat) : Int))), (17, .v (.slice A ((u.take 32767).length) c)), (18, .v (.int .i64 (((u.take 32767).length : Nat) : Int))), (19, .v (.int .i64 ((k : Nat) : Int))), (27, .v (.bool true)), (28, .v (.slice A_ out.length c_)), (29, .v (.int .i64 ((i : Nat) : Int))), (34, .v (.int .u32 k40))] 5 (panicFree_then (panicFree_then (panicFree_then (panicFree_block (panicFree_then (panicFree_block (panicFree_then (panicFree_then (panicFree_block (panicFree_then panicFree_body)))))))))) (fun _ h => h ▸ hW76.cells) rfl hE81 fun a82 hE83 => ?_
      clear hE81
      obtain ⟨g84, hA85⟩ := own_addr (hW76.own 0 _ rfl) (show 0 < out.length by omega)
      obtain ⟨⟨k87, s88⟩, hx89⟩ : ∃ x, out[i]? = some x := ⟨_, List.getElem?_eq_getElem (by omega)⟩
      obtain ⟨A90, c91, hc92, hO93, h94, h95⟩ := TagsE.get2 (hT.move (Fr.trans (Fr.trans (Fr.trans hF58 hF62) hF73) hF75).step immM (Fr.trans (Fr.trans (Fr.trans hF58 hF62) hF73) hF75).to') hx89
      have hat86 := own_at (hW76.own 0 _ rfl) hA85 (flat_cells (hT.move (Fr.trans (Fr.trans (Fr.trans hF58 hF62) hF73) hF75).step immM (Fr.trans (Fr.trans (Fr.trans hF58 hF62) hF73) hF75).to').two hc92)
      refine takeC_index hE83 (i := 7) (t := 24) (A := A_) (m := out.length) (q := ((i : Nat) : Int)) (d := 30) (by kernel_rfl) (e := 63) (size := 2) (bytes := 32) (by kernel_rfl) (b := g84) (o := 0) (j := i) hA85 (rfl) (by omega) (by kernel_rfl) (by kernel_rfl) (panicFree_then (panicFree_then (panicFree_then (panicFree_block (panicFree_then (panicFree_block (panicFree_then (panicFree_then (panicFree_block (panicFree_then panicFree_body)))))))))) rfl fun a96 hE97 => ?_
      clear hE83
      refine go_rnD [8] [(5, .v (.int .u32 (knownI l))), (6, .v (.slice A_ out.length c_)), (8, .p 0 0), (9, .v (.int .i64 ((i : Nat) : Int))), (17, .v (.slice A ((u.take 32767).length) c)), (18, .v (.int .i64 (((u.take 32767).length : Nat) : Int))), (19, .v (.int .i64 ((k : Nat) : Int))), (27, .v (.bool true)), (31, .v (.pointer (some ⟨g84, 0 + i * 2, none⟩))), (34, .v (.int .u32 k40))] 3 (panicFree_then (panicFree_then (panicFree_then (panicFree_block (panicFree_then (panicFree_block (panicFree_then (panicFree_then (panicFree_block (panicFree_then panicFree_body)))))))))) (fun _ h => h ▸ hW76.cells) rfl hE97 fun a98 hE99 => ?_
      clear hE97
      refine takeC_load hE99 (i := 9) (t := 61) (b := g84) (o := 0 + i * 2) (d := 32) (by kernel_rfl) (cs := [.int .u32 k87]) (v := .int .u32 k87) (by kernel_rfl) (fun w' h' => h' ▸ (At.drop hat86 0 1)) (by kernel_rfl) (by kernel_rfl) (panicFree_then (panicFree_then (panicFree_then (panicFree_block (panicFree_then (panicFree_block (panicFree_then (panicFree_then (panicFree_block (panicFree_then panicFree_body)))))))))) rfl fun a100 hE101 => ?_
      clear hE99
      refine go_rnD [12, 13] [(5, .v (.int .u32 (knownI l))), (6, .v (.slice A_ out.length c_)), (8, .p 0 0), (9, .v (.int .i64 ((i : Nat) : Int))), (17, .v (.slice A ((u.take 32767).length) c)), (18, .v (.int .i64 (((u.take 32767).length : Nat) : Int))), (19, .v (.int .i64 ((k : Nat) : Int))), (36, .v (.bool (decide (k87 < k40))))] 0 (panicFree_then (panicFree_then (panicFree_then (panicFree_block (panicFree_then (panicFree_block (panicFree_then (panicFree_then (panicFree_block (panicFree_then panicFree_body)))))))))) (fun _ h => h ▸ hW76.cells) rfl hE101 fun a102 hE103 => ?_
      clear hE101
      refine anyC_done (by kernel_rfl) ?_ _
      refine then_normal ?_
      refine cond_of hE103 (b := decide (k87 < k40)) (by kernel_rfl) (fun hc104 => ?_) (fun hc104 => ?_)
      ·
        have hf105 := of_decide_eq_true hc104
        refine wp_skip ?_
        refine then_normal ?_
        refine wp_block ?_
        refine go_region [0, 1, 2] (by kernel_rfl) ?_
        refine go_rn [0, 1, 2] [] [(5, .v (.int .u32 (knownI l))), (6, .v (.slice A_ out.length c_)), (8, .p 0 0), (9, .v (.int .i64 (IntKind.i64.wrap (((i : Nat) : Int) + 1)))), (17, .v (.slice A ((u.take 32767).length) c)), (18, .v (.int .i64 (((u.take 32767).length : Nat) : Int))), (19, .v (.int .i64 ((k : Nat) : Int)))] hW76 hE103 fun a106 hE107 => ?_
        clear hE103
        refine wpOps_nil ?_
        refine block_normal ?_
        refine then_normal ?_
        have he108 : IntKind.i64.wrap (((i : Nat) : Int) + 1) = ((i + 1 : Nat) : Int) := wrap_succ (by omega)
        rw [he108] at hE107
        exact ⟨out.length - (i + 1), by omega, (i + 1), rfl, by omega, fun q hq => by rcases Nat.lt_succ_iff_lt_or_eq.1 hq with h_ | h_; exact hlt q h_; rw [h_, getD_of hx89]; assumption, hE107.pk, hW76, (Fr.trans hF73 hF75)⟩
      ·
        have hf109 := of_decide_eq_false hc104
        refine wp_exit ?_
        refine then_exit ?_
        refine then_exit ?_
        refine block_exit ?_
        refine then_normal ?_
        refine wp_seq ?_
        refine go_seq_drawQ (by kernel_rfl) hW76 fun w110 hF111 hW112 => ?_
        refine go_rnD [0, 1, 2, 3, 4] [(5, .v (.int .u32 (knownI l))), (6, .v (.slice A_ out.length c_)), (8, .p 0 0), (9, .v (.int .i64 ((i : Nat) : Int))), (17, .v (.slice A ((u.take 32767).length) c)), (18, .v (.int .i64 (((u.take 32767).length : Nat) : Int))), (19, .v (.int .i64 ((k : Nat) : Int))), (43, .v (.bool (decide (k40 < (knownI l)))))] 15 (panicFree_then (panicFree_then (panicFree_block (panicFree_then (panicFree_then (panicFree_block (panicFree_then panicFree_body))))))) (fun _ h => h ▸ hW112.cells) rfl hE103 fun a113 hE114 => ?_
        clear hE103
        refine (Bool.eq_false_or_eq_true (decide (k40 < (knownI l)))).elim (fun hc115 => ?_) (fun hc115 => ?_)
        ·
          have hf116 := of_decide_eq_true hc115
          have hE117 := hE114.cast (env' := [(5, .v (.int .u32 (knownI l))), (6, .v (.slice A_ out.length c_)), (8, .p 0 0), (9, .v (.int .i64 ((i : Nat) : Int))), (17, .v (.slice A ((u.take 32767).length) c)), (18, .v (.int .i64 (((u.take 32767).length : Nat) : Int))), (19, .v (.int .i64 ((k : Nat) : Int))), (43, .v (.bool true))]) (by rw [hc115])
          clear hE114
          refine go_rnD [5, 6, 7, 8, 9, 10, 11, 12, 13, 14, 15, 16, 17, 18, 19] [(5, .v (.int .u32 (knownI l))), (6, .v (.slice A_ out.length c_)), (8, .p 0 0), (9, .v (.int .i64 ((i : Nat) : Int))), (17, .v (.slice A ((u.take 32767).length) c)), (18, .v (.int .i64 (((u.take 32767).length : Nat) : Int))), (19, .v (.int .i64 ((k : Nat) : Int))), (58, .v (.bool true))] 0 (panicFree_then (panicFree_then (panicFree_block (panicFree_then (panicFree_then (panicFree_block (panicFree_then panicFree_body))))))) (fun _ h => h ▸ hW112.cells) rfl hE117 fun a118 hE119 => ?_
          clear hE117
          refine anyC_done (by kernel_rfl) ?_ _
          refine then_normal ?_
          refine cond_true hE119 (b := true) (by kernel_rfl) rfl ?_
          refine wp_exit ?_
          refine then_exit ?_
          refine block_exit ?_
          refine then_normal ?_
          refine go_region [0, 1] (by kernel_rfl) ?_
          refine go_rn [0, 1] [] [(5, .v (.int .u32 (knownI l))), (6, .v (.slice A_ out.length c_)), (17, .v (.slice A ((u.take 32767).length) c)), (18, .v (.int .i64 (((u.take 32767).length : Nat) : Int))), (19, .v (.int .i64 (IntKind.i64.wrap (((k : Nat) : Int) + 1))))] hW112 hE119 fun a120 hE121 => ?_
          clear hE119
          refine wpOps_nil ?_
          refine then_normal ?_
          obtain ⟨hE122, hW123, hF124⟩ := hW112.cutB hE121 0 [] [(5, .v (.int .u32 (knownI l))), (6, .v (.slice A_ out.length c_)), (17, .v (.slice A ((u.take 32767).length) c)), (18, .v (.int .i64 (((u.take 32767).length : Nat) : Int))), (19, .v (.int .i64 (IntKind.i64.wrap (((k : Nat) : Int) + 1))))]
          have he125 : IntKind.i64.wrap (((k : Nat) : Int) + 1) = ((k + 1 : Nat) : Int) := wrap_succ (by omega)
          rw [he125] at hE122
          exact ⟨(u.take 32767).length - (k + 1), by omega, k + 1, A_, c_, out, css, rfl, by omega, (hT.move (Fr.trans (Fr.trans (Fr.trans (Fr.trans (Fr.trans hF58 hF62) hF73) hF75) hF111) hF124).step immM (Fr.trans (Fr.trans (Fr.trans (Fr.trans (Fr.trans hF58 hF62) hF73) hF75) hF111) hF124).to'), by rw [foldl_take_succ he42, ← hout]; exact (ins_low (by assumption)).symm, by omega, hE122.pk, hW123, (Fr.trans (Fr.trans (Fr.trans (Fr.trans (Fr.trans (Fr.trans hF30 hF58) hF62) hF73) hF75) hF111) hF124)⟩
        ·
          have hf126 := of_decide_eq_false hc115
          have hE127 := hE114.cast (env' := [(5, .v (.int .u32 (knownI l))), (6, .v (.slice A_ out.length c_)), (8, .p 0 0), (9, .v (.int .i64 ((i : Nat) : Int))), (17, .v (.slice A ((u.take 32767).length) c)), (18, .v (.int .i64 (((u.take 32767).length : Nat) : Int))), (19, .v (.int .i64 ((k : Nat) : Int))), (43, .v (.bool false))]) (by rw [hc115])
          clear hE114
          refine go_rnD [5, 6, 7, 8, 9] [(5, .v (.int .u32 (knownI l))), (6, .v (.slice A_ out.length c_)), (8, .p 0 0), (9, .v (.int .i64 ((i : Nat) : Int))), (17, .v (.slice A ((u.take 32767).length) c)), (18, .v (.int .i64 (((u.take 32767).length : Nat) : Int))), (19, .v (.int .i64 ((k : Nat) : Int))), (43, .v (.bool false)), (48, .v (.bool (decide (((i : Nat) : Int) < ((out.length : Nat) : Int)))))] 10 (panicFree_then (panicFree_then (panicFree_block (panicFree_then (panicFree_then (panicFree_block (panicFree_then panicFree_body))))))) (fun _ h => h ▸ hW112.cells) rfl hE127 fun a128 hE129 => ?_
          clear hE127
          have hc130 : (decide (((i : Nat) : Int) < ((out.length : Nat) : Int))) = true := hc79
          have hE131 := hE129.cast (env' := [(5, .v (.int .u32 (knownI l))), (6, .v (.slice A_ out.length c_)), (8, .p 0 0), (9, .v (.int .i64 ((i : Nat) : Int))), (17, .v (.slice A ((u.take 32767).length) c)), (18, .v (.int .i64 (((u.take 32767).length : Nat) : Int))), (19, .v (.int .i64 ((k : Nat) : Int))), (43, .v (.bool false)), (48, .v (.bool true))]) (by rw [hc130])
          clear hE129
          refine go_rnD [10, 11, 15, 16] [(5, .v (.int .u32 (knownI l))), (6, .v (.slice A_ out.length c_)), (8, .p 0 0), (9, .v (.int .i64 ((i : Nat) : Int))), (17, .v (.slice A ((u.take 32767).length) c)), (18, .v (.int .i64 (((u.take 32767).length : Nat) : Int))), (19, .v (.int .i64 ((k : Nat) : Int))), (43, .v (.bool false)), (48, .v (.bool true)), (49, .v (.slice A_ out.length c_)), (50, .v (.int .i64 ((i : Nat) : Int))), (55, .v (.int .u32 k40))] 6 (panicFree_then (panicFree_then (panicFree_block (panicFree_then (panicFree_then (panicFree_block (panicFree_then panicFree_body))))))) (fun _ h => h ▸ hW112.cells) rfl hE131 fun a132 hE133 => ?_
          clear hE131
          obtain ⟨g134, hA135⟩ := own_addr (hW112.own 0 _ rfl) (show 0 < out.length by omega)
          obtain ⟨⟨k137, s138⟩, hx139⟩ : ∃ x, out[i]? = some x := ⟨_, List.getElem?_eq_getElem (by omega)⟩
          obtain ⟨A140, c141, hc142, hO143, h144, h145⟩ := TagsE.get2 (hT.move (Fr.trans (Fr.trans (Fr.trans (Fr.trans hF58 hF62) hF73) hF75) hF111).step immM (Fr.trans (Fr.trans (Fr.trans (Fr.trans hF58 hF62) hF73) hF75) hF111).to') hx139
          have hat136 := own_at (hW112.own 0 _ rfl) hA135 (flat_cells (hT.move (Fr.trans (Fr.trans (Fr.trans (Fr.trans hF58 hF62) hF73) hF75) hF111).step immM (Fr.trans (Fr.trans (Fr.trans (Fr.trans hF58 hF62) hF73) hF75) hF111).to').two hc142)
          refine takeC_index hE133 (i := 12) (t := 24) (A := A_) (m := out.length) (q := ((i : Nat) : Int)) (d := 51) (by kernel_rfl) (e := 63) (size := 2) (bytes := 32) (by kernel_rfl) (b := g134) (o := 0) (j := i) hA135 (rfl) (by omega) (by kernel_rfl) (by kernel_rfl) (panicFree_then (panicFree_then (panicFree_block (panicFree_then (panicFree_then (panicFree_block (panicFree_then panicFree_body))))))) rfl fun a146 hE147 => ?_
          clear hE133
          refine go_rnD [13] [(5, .v (.int .u32 (knownI l))), (6, .v (.slice A_ out.length c_)), (8, .p 0 0), (9, .v (.int .i64 ((i : Nat) : Int))), (17, .v (.slice A ((u.take 32767).length) c)), (18, .v (.int .i64 (((u.take 32767).length : Nat) : Int))), (19, .v (.int .i64 ((k : Nat) : Int))), (43, .v (.bool false)), (48, .v (.bool true)), (52, .v (.pointer (some ⟨g134, 0 + i * 2, none⟩))), (55, .v (.int .u32 k40))] 4 (panicFree_then (panicFree_then (panicFree_block (panicFree_then (panicFree_then (panicFree_block (panicFree_then panicFree_body))))))) (fun _ h => h ▸ hW112.cells) rfl hE147 fun a148 hE149 => ?_
          clear hE147
          refine takeC_load hE149 (i := 14) (t := 61) (b := g134) (o := 0 + i * 2) (d := 53) (by kernel_rfl) (cs := [.int .u32 k137]) (v := .int .u32 k137) (by kernel_rfl) (fun w' h' => h' ▸ (At.drop hat136 0 1)) (by kernel_rfl) (by kernel_rfl) (panicFree_then (panicFree_then (panicFree_block (panicFree_then (panicFree_then (panicFree_block (panicFree_then panicFree_body))))))) rfl fun a150 hE151 => ?_
          clear hE149
          refine go_rnD [17, 18, 19] [(5, .v (.int .u32 (knownI l))), (6, .v (.slice A_ out.length c_)), (8, .p 0 0), (9, .v (.int .i64 ((i : Nat) : Int))), (17, .v (.slice A ((u.take 32767).length) c)), (18, .v (.int .i64 (((u.take 32767).length : Nat) : Int))), (19, .v (.int .i64 ((k : Nat) : Int))), (58, .v (.bool (k137 == k40)))] 0 (panicFree_then (panicFree_then (panicFree_block (panicFree_then (panicFree_then (panicFree_block (panicFree_then panicFree_body))))))) (fun _ h => h ▸ hW112.cells) rfl hE151 fun a152 hE153 => ?_
          clear hE151
          refine anyC_done (by kernel_rfl) ?_ _
          refine then_normal ?_
          refine cond_of hE153 (b := k137 == k40) (by kernel_rfl) (fun hc154 => ?_) (fun hc154 => ?_)
          ·
            have hf155 : k137 = k40 := by simpa using hc154
            refine wp_exit ?_
            refine then_exit ?_
            refine block_exit ?_
            refine then_normal ?_
            refine go_region [0, 1] (by kernel_rfl) ?_
            refine go_rn [0, 1] [] [(5, .v (.int .u32 (knownI l))), (6, .v (.slice A_ out.length c_)), (17, .v (.slice A ((u.take 32767).length) c)), (18, .v (.int .i64 (((u.take 32767).length : Nat) : Int))), (19, .v (.int .i64 (IntKind.i64.wrap (((k : Nat) : Int) + 1))))] hW112 hE153 fun a156 hE157 => ?_
            clear hE153
            refine wpOps_nil ?_
            refine then_normal ?_
            obtain ⟨hE158, hW159, hF160⟩ := hW112.cutB hE157 0 [] [(5, .v (.int .u32 (knownI l))), (6, .v (.slice A_ out.length c_)), (17, .v (.slice A ((u.take 32767).length) c)), (18, .v (.int .i64 (((u.take 32767).length : Nat) : Int))), (19, .v (.int .i64 (IntKind.i64.wrap (((k : Nat) : Int) + 1))))]
            have he161 : IntKind.i64.wrap (((k : Nat) : Int) + 1) = ((k + 1 : Nat) : Int) := wrap_succ (by omega)
            rw [he161] at hE158
            exact ⟨(u.take 32767).length - (k + 1), by omega, k + 1, A_, c_, out, css, rfl, by omega, (hT.move (Fr.trans (Fr.trans (Fr.trans (Fr.trans (Fr.trans hF58 hF62) hF73) hF75) hF111) hF160).step immM (Fr.trans (Fr.trans (Fr.trans (Fr.trans (Fr.trans hF58 hF62) hF73) hF75) hF111) hF160).to'), by rw [foldl_take_succ he42, ← hout]; exact (ins_same (tagPos_eq hi hlt (fun _ => by rw [getD_fst hx139]; omega)) (by omega) (by rw [getD_fst hx139]; omega)).symm, by omega, hE158.pk, hW159, (Fr.trans (Fr.trans (Fr.trans (Fr.trans (Fr.trans (Fr.trans hF30 hF58) hF62) hF73) hF75) hF111) hF160)⟩
          ·
            have hf162 : k137 ≠ k40 := by simpa using hc154
            refine wp_skip ?_
            refine then_normal ?_
            refine go_seq_region [0, 1, 2, 3, 4] (by kernel_rfl) ?_
            refine go_rn [0, 1] [2, 3, 4] [(5, .v (.int .u32 (knownI l))), (8, .p 0 0), (9, .v (.int .i64 ((i : Nat) : Int))), (17, .v (.slice A ((u.take 32767).length) c)), (18, .v (.int .i64 (((u.take 32767).length : Nat) : Int))), (19, .v (.int .i64 ((k : Nat) : Int))), (59, .v (.slice A_ out.length c_)), (60, .v (.agg #[.int .u32 0, .slice none 0 0]))] hW112 hE153 fun a163 hE164 => ?_
            clear hE153
            refine wpOps_push hW112 hE164 (k := 0) (e := 63) (size := 2) (len := 1) (cs := [.int .u32 0, .slice none 0 0]) (d1 := 61) (d := 62) (by kernel_rfl) (t := 24) (bytes := 32) (by kernel_rfl) (fun _ => by kernel_rfl) rfl (by kernel_rfl) (by omega) fun A165 c166 a167 w168 hF169 hW170 ⟨_, hE171⟩ => ?_
            clear hE164
            refine go_rn [4] [] [(5, .v (.int .u32 (knownI l))), (6, .v (.slice A165 (out.length + 1) c166)), (8, .p 0 0), (9, .v (.int .i64 ((i : Nat) : Int))), (17, .v (.slice A ((u.take 32767).length) c)), (18, .v (.int .i64 (((u.take 32767).length : Nat) : Int))), (19, .v (.int .i64 ((k : Nat) : Int)))] hW170 hE171 fun a172 hE173 => ?_
            clear hE171
            refine wpOps_nil ?_
            refine then_normal ?_
            refine wp_seq ?_
            refine go_sp [(5, .v (.int .u32 (knownI l))), (6, .v (.slice A165 (out.length + 1) c166)), (8, .p 0 0), (9, .v (.int .i64 ((i : Nat) : Int))), (10, .v (.int .i64 (IntKind.i64.wrap (((out.length + 1 : Nat) : Int) - 1)))), (17, .v (.slice A ((u.take 32767).length) c)), (18, .v (.int .i64 (((u.take 32767).length : Nat) : Int))), (19, .v (.int .i64 ((k : Nat) : Int)))] hW170 hE173 fun a174 hE175 => ?_
            clear hE173
            refine wp_block ?_
            have hcl0 := (hT.move (Fr.trans (Fr.trans (Fr.trans (Fr.trans (Fr.trans hF58 hF62) hF73) hF75) hF111) hF169).step immM (Fr.trans (Fr.trans (Fr.trans (Fr.trans (Fr.trans hF58 hF62) hF73) hF75) hF111) hF169).to').len
            have er176 : (⟨A165, c166, 63, 2, out.length + 1, css.flatten ++ [.int .u32 0, .slice none 0 0]⟩ : Rw) = ⟨A165, c166, 63, 2, out.length + 1, (rowAt css [.int .u32 0, .slice none 0 0] out.length).flatten⟩ := by rw [push_row hcl0]
            obtain ⟨hW177, hF179⟩ := hW170.rowEq 0 [⟨A165, c166, 63, 2, out.length + 1, (rowAt css [.int .u32 0, .slice none 0 0] out.length).flatten⟩] er176
            clear hW170
            have he187 : IntKind.i64.wrap (((out.length + 1 : Nat) : Int) - 1) = ((out.length : Nat) : Int) := by rw [wrap_i64 (by omega) (by omega)]; omega
            rw [he187] at hE175
            refine wp_loop_ghost (fun n_ a_ w_ => ∃ (j : Nat), n_ = j ∧ (i ≤ j) ∧ (j ≤ out.length) ∧ LInv hW177 85 [⟨b53, 0, [.int .u32 k40, .slice A43 s41.length c44], true⟩] [⟨A165, c166, 63, 2, out.length + 1, (rowAt css [.int .u32 0, .slice none 0 0] j).flatten⟩] [(5, .v (.int .u32 (knownI l))), (6, .v (.slice A165 (out.length + 1) c166)), (8, .p 0 0), (9, .v (.int .i64 ((i : Nat) : Int))), (10, .v (.int .i64 ((j : Nat) : Int))), (17, .v (.slice A ((u.take 32767).length) c)), (18, .v (.int .i64 (((u.take 32767).length : Nat) : Int))), (19, .v (.int .i64 ((k : Nat) : Int)))] a_ w_) (out.length) ⟨out.length, rfl, hi, Nat.le_refl _, hE175.pk, hW177, Fr.refl _ _ _⟩ ?_
            clear hE175
            rintro n180 a181 w182 ⟨j, hn185, hij, hjl, hE183, hW184, hF186⟩
            refine wp_seq ?_
            refine go_sp [(5, .v (.int .u32 (knownI l))), (6, .v (.slice A165 (out.length + 1) c166)), (8, .p 0 0), (9, .v (.int .i64 ((i : Nat) : Int))), (10, .v (.int .i64 ((j : Nat) : Int))), (17, .v (.slice A ((u.take 32767).length) c)), (18, .v (.int .i64 (((u.take 32767).length : Nat) : Int))), (19, .v (.int .i64 ((k : Nat) : Int))), (68, .v (.bool (decide (((j : Nat) : Int) > ((i : Nat) : Int)))))] hW184 hE183 fun a188 hE189 => ?_
            clear hE183
            refine cond_of hE189 (b := decide (((j : Nat) : Int) > ((i : Nat) : Int))) (by kernel_rfl) (fun hc190 => ?_) (fun hc190 => ?_)
            ·
              have hf191 := of_decide_eq_true hc190
              refine wp_skip ?_
              refine then_normal ?_
              refine wp_seq ?_
              refine wp_block ?_
              refine go_region [0, 1, 2, 3, 4, 5, 6, 7, 8] (by kernel_rfl) ?_
              refine go_rn [0, 1, 2, 3, 4] [5, 6, 7, 8] [(5, .v (.int .u32 (knownI l))), (6, .v (.slice A165 (out.length + 1) c166)), (8, .p 0 0), (9, .v (.int .i64 ((i : Nat) : Int))), (10, .v (.int .i64 ((j : Nat) : Int))), (17, .v (.slice A ((u.take 32767).length) c)), (18, .v (.int .i64 (((u.take 32767).length : Nat) : Int))), (19, .v (.int .i64 ((k : Nat) : Int))), (71, .v (.slice A165 (out.length + 1) c166)), (72, .v (.int .i64 ((j : Nat) : Int))), (73, .v (.slice A165 (out.length + 1) c166)), (75, .v (.int .i64 (IntKind.i64.wrap (((j : Nat) : Int) - 1))))] hW184 hE189 fun a192 hE193 => ?_
              clear hE189
              obtain ⟨g194, hA195⟩ := own_addr (hW184.own 0 _ rfl) (show 0 < out.length + 1 by omega)
              obtain ⟨⟨k197, s198⟩, hx199⟩ : ∃ x, out[j - 1]? = some x := ⟨_, List.getElem?_eq_getElem (by omega)⟩
              obtain ⟨A200, c201, hc202, hO203, h204, h205⟩ := TagsE.get2 (hT.move (Fr.trans (Fr.trans (Fr.trans (Fr.trans (Fr.trans (Fr.trans (Fr.trans hF58 hF62) hF73) hF75) hF111) hF169) hF179) hF186).step immM (Fr.trans (Fr.trans (Fr.trans (Fr.trans (Fr.trans (Fr.trans (Fr.trans hF58 hF62) hF73) hF75) hF111) hF169) hF179) hF186).to') hx199
              have hat196 := own_at (hW184.own 0 _ rfl) hA195 (flat_cells (rowAt_two (hT.move (Fr.trans (Fr.trans (Fr.trans (Fr.trans (Fr.trans (Fr.trans (Fr.trans hF58 hF62) hF73) hF75) hF111) hF169) hF179) hF186).step immM (Fr.trans (Fr.trans (Fr.trans (Fr.trans (Fr.trans (Fr.trans (Fr.trans hF58 hF62) hF73) hF75) hF111) hF169) hF179) hF186).to').two rfl j) (rowAt_get (show j - 1 < j by omega) hc202))
              refine of_op (wpOp_index hE193 (t := 24) (A := A165) (m := (out.length + 1)) (q := (IntKind.i64.wrap (((j : Nat) : Int) - 1))) (d := 76) (by kernel_rfl) (e := 63) (size := 2) (bytes := 32) (by kernel_rfl) (b := g194) (o := 0) (j := (j - 1)) hA195 (by rw [wrap_i64 (by omega) (by omega)]; omega) (by omega) fun a206 hE207 => ?_)
              clear hE193
              refine of_op (wpOp_load hE207 (t := 63) (b := g194) (o := 0 + (j - 1) * 2) (d := 77) (by kernel_rfl) (cs := [.int .u32 k197, .slice A200 s198.length c201]) (v := .agg #[.int .u32 k197, .slice A200 s198.length c201]) (by kernel_rfl) hat196 fun a208 hE209 => ?_)
              clear hE207
              obtain ⟨g210, hA211⟩ := own_addr (hW184.own 0 _ rfl) (show 0 < out.length + 1 by omega)
              refine of_op (wpOp_index hE209 (t := 24) (A := A165) (m := (out.length + 1)) (q := ((j : Nat) : Int)) (d := 78) (by kernel_rfl) (e := 63) (size := 2) (bytes := 32) (by kernel_rfl) (b := g210) (o := 0) (j := j) hA211 (rfl) (by omega) fun a213 hE214 => ?_)
              clear hE209
              refine of_op (wpOp_storeR hW184 hE214 (k := 0) (g := g210) (o := j * 2) (c := c166) (m := (out.length + 1)) (size := 2) (e := 63) (A := A165) (xs := ((rowAt css [.int .u32 0, .slice none 0 0] j).flatten)) (vs := [.int .u32 k197, .slice A200 s198.length c201]) (by kernel_rfl) rfl hA211 (by simp only [List.length_cons, List.length_nil]; omega) fun w215 hF216 hW217 hE218 => ?_)
              clear hE214 hW184
              refine wpOps_nil ?_
              refine block_normal ?_
              refine then_normal ?_
              refine go_region [0, 1, 2] (by kernel_rfl) ?_
              refine go_rn [0, 1, 2] [] [(5, .v (.int .u32 (knownI l))), (6, .v (.slice A165 (out.length + 1) c166)), (8, .p 0 0), (9, .v (.int .i64 ((i : Nat) : Int))), (10, .v (.int .i64 (IntKind.i64.wrap (((j : Nat) : Int) - 1)))), (17, .v (.slice A ((u.take 32767).length) c)), (18, .v (.int .i64 (((u.take 32767).length : Nat) : Int))), (19, .v (.int .i64 ((k : Nat) : Int)))] hW217 hE218 fun a219 hE220 => ?_
              clear hE218
              refine wpOps_nil ?_
              refine then_normal ?_
              have er221 : (⟨A165, c166, 63, 2, out.length + 1, splice ((rowAt css [.int .u32 0, .slice none 0 0] j).flatten) (j * 2) [.int .u32 k197, .slice A200 s198.length c201]⟩ : Rw) = ⟨A165, c166, 63, 2, out.length + 1, (rowAt css [.int .u32 0, .slice none 0 0] (j - 1)).flatten⟩ := by rw [shift_row (hT.move (Fr.trans (Fr.trans (Fr.trans (Fr.trans (Fr.trans (Fr.trans (Fr.trans (Fr.trans hF58 hF62) hF73) hF75) hF111) hF169) hF179) hF186) hF216).step immM (Fr.trans (Fr.trans (Fr.trans (Fr.trans (Fr.trans (Fr.trans (Fr.trans (Fr.trans hF58 hF62) hF73) hF75) hF111) hF169) hF179) hF186) hF216).to').two rfl (by omega) (by omega) hc202]
              obtain ⟨hW222, hF224⟩ := hW217.rowEq 0 [⟨A165, c166, 63, 2, out.length + 1, (rowAt css [.int .u32 0, .slice none 0 0] (j - 1)).flatten⟩] er221
              clear hW217
              have he225 : IntKind.i64.wrap (((j : Nat) : Int) - 1) = ((j - 1 : Nat) : Int) := by rw [wrap_i64 (by omega) (by omega)]; omega
              rw [he225] at hE220
              exact ⟨(j - 1), by omega, (j - 1), rfl, by omega, by omega, hE220.pk, hW222, (Fr.trans (Fr.trans hF186 hF216) hF224)⟩
            ·
              have hf226 := of_decide_eq_false hc190
              refine wp_exit ?_
              refine then_exit ?_
              refine then_exit ?_
              refine block_exit ?_
              refine then_normal ?_
              refine go_region [0, 1, 2, 3, 4] (by kernel_rfl) ?_
              refine go_rn [0, 1, 2] [3, 4] [(5, .v (.int .u32 (knownI l))), (6, .v (.slice A165 (out.length + 1) c166)), (17, .v (.slice A ((u.take 32767).length) c)), (18, .v (.int .i64 (((u.take 32767).length : Nat) : Int))), (19, .v (.int .i64 ((k : Nat) : Int))), (79, .v (.slice A165 (out.length + 1) c166)), (80, .v (.int .i64 ((i : Nat) : Int))), (81, .v (.agg #[.int .u32 k40, .slice A43 s41.length c44]))] hW184 hE189 fun a227 hE228 => ?_
              clear hE189
              have hji : j = i := by omega
              have er232 : (⟨A165, c166, 63, 2, out.length + 1, (rowAt css [.int .u32 0, .slice none 0 0] j).flatten⟩ : Rw) = ⟨A165, c166, 63, 2, out.length + 1, (rowAt css [.int .u32 0, .slice none 0 0] i).flatten⟩ := by rw [hji]
              obtain ⟨hW233, hF235⟩ := hW184.rowEq 0 [⟨A165, c166, 63, 2, out.length + 1, (rowAt css [.int .u32 0, .slice none 0 0] i).flatten⟩] er232
              clear hW184
              obtain ⟨g229, hA230⟩ := own_addr (hW233.own 0 _ rfl) (show 0 < out.length + 1 by omega)
              refine of_op (wpOp_index hE228 (t := 24) (A := A165) (m := (out.length + 1)) (q := ((i : Nat) : Int)) (d := 82) (by kernel_rfl) (e := 63) (size := 2) (bytes := 32) (by kernel_rfl) (b := g229) (o := 0) (j := i) hA230 (rfl) (by omega) fun a236 hE237 => ?_)
              clear hE228
              refine of_op (wpOp_storeR hW233 hE237 (k := 0) (g := g229) (o := i * 2) (c := c166) (m := (out.length + 1)) (size := 2) (e := 63) (A := A165) (xs := ((rowAt css [.int .u32 0, .slice none 0 0] i).flatten)) (vs := [.int .u32 k40, .slice A43 s41.length c44]) (by kernel_rfl) rfl hA230 (by simp only [List.length_cons, List.length_nil]; omega) fun w238 hF239 hW240 hE241 => ?_)
              clear hE237 hW233
              refine wpOps_nil ?_
              refine block_normal ?_
              refine then_normal ?_
              refine go_region [0, 1] (by kernel_rfl) ?_
              refine go_rn [0, 1] [] [(5, .v (.int .u32 (knownI l))), (6, .v (.slice A165 (out.length + 1) c166)), (17, .v (.slice A ((u.take 32767).length) c)), (18, .v (.int .i64 (((u.take 32767).length : Nat) : Int))), (19, .v (.int .i64 (IntKind.i64.wrap (((k : Nat) : Int) + 1))))] hW240 hE241 fun a242 hE243 => ?_
              clear hE241
              refine wpOps_nil ?_
              refine then_normal ?_
              obtain ⟨hE244, hW245, hF246⟩ := hW240.cutB hE243 0 [] [(5, .v (.int .u32 (knownI l))), (6, .v (.slice A165 (out.length + 1) c166)), (17, .v (.slice A ((u.take 32767).length) c)), (18, .v (.int .i64 (((u.take 32767).length : Nat) : Int))), (19, .v (.int .i64 (IntKind.i64.wrap (((k : Nat) : Int) + 1))))]
              have hcl := (hT.move (Fr.trans (Fr.trans (Fr.trans (Fr.trans (Fr.trans (Fr.trans (Fr.trans (Fr.trans (Fr.trans (Fr.trans hF58 hF62) hF73) hF75) hF111) hF169) hF179) hF186) hF235) hF239) hF246).step immM (Fr.trans (Fr.trans (Fr.trans (Fr.trans (Fr.trans (Fr.trans (Fr.trans (Fr.trans (Fr.trans (Fr.trans hF58 hF62) hF73) hF75) hF111) hF169) hF179) hF186) hF235) hF239) hF246).to').len
              have er247 : (⟨A165, c166, 63, 2, out.length + 1, splice ((rowAt css [.int .u32 0, .slice none 0 0] i).flatten) (i * 2) [.int .u32 k40, .slice A43 s41.length c44]⟩ : Rw) = ⟨A165, c166, 63, 2, (out.take i ++ (k40, s41) :: out.drop i).length, (css.take i ++ [.int .u32 k40, .slice A43 s41.length c44] :: css.drop i).flatten⟩ := by rw [place_row (hT.move (Fr.trans (Fr.trans (Fr.trans (Fr.trans (Fr.trans (Fr.trans (Fr.trans (Fr.trans (Fr.trans (Fr.trans hF58 hF62) hF73) hF75) hF111) hF169) hF179) hF186) hF235) hF239) hF246).step immM (Fr.trans (Fr.trans (Fr.trans (Fr.trans (Fr.trans (Fr.trans (Fr.trans (Fr.trans (Fr.trans (Fr.trans hF58 hF62) hF73) hF75) hF111) hF169) hF179) hF186) hF235) hF239) hF246).to').two rfl (by omega) rfl, ins_length (k40, s41) hi]
              obtain ⟨hW248, hF250⟩ := hW245.rowEq 0 [⟨A165, c166, 63, 2, (out.take i ++ (k40, s41) :: out.drop i).length, (css.take i ++ [.int .u32 k40, .slice A43 s41.length c44] :: css.drop i).flatten⟩] er247
              clear hW245
              have he251 : IntKind.i64.wrap (((k : Nat) : Int) + 1) = ((k + 1 : Nat) : Int) := wrap_succ (by omega)
              rw [he251] at hE244
              have he252 : out.length + 1 = (out.take i ++ (k40, s41) :: out.drop i).length := ins_length (k40, s41) hi
              rw [he252] at hE244
              exact ⟨(u.take 32767).length - (k + 1), by omega, k + 1, A165, c166, (out.take i ++ (k40, s41) :: out.drop i), (css.take i ++ [.int .u32 k40, .slice A43 s41.length c44] :: css.drop i), rfl, by omega, (hT.move (Fr.trans (Fr.trans (Fr.trans (Fr.trans (Fr.trans (Fr.trans (Fr.trans (Fr.trans (Fr.trans (Fr.trans (Fr.trans hF58 hF62) hF73) hF75) hF111) hF169) hF179) hF186) hF235) hF239) hF246) hF250).step immM (Fr.trans (Fr.trans (Fr.trans (Fr.trans (Fr.trans (Fr.trans (Fr.trans (Fr.trans (Fr.trans (Fr.trans (Fr.trans hF58 hF62) hF73) hF75) hF111) hF169) hF179) hF186) hF235) hF239) hF246) hF250).to').ins ⟨⟨A43, c44, rfl, (hb46.move hW248.step nilM hW248.imm)⟩, h47, h48⟩ hi, by rw [foldl_take_succ he42, ← hout]; exact (ins_new (tagPos_eq hi hlt (fun _ => by first | (rw [getD_fst hx89]; omega) | (rw [getD_fst hx139]; omega))) (by assumption) (fun _ => by first | (rw [getD_fst hx89]; omega) | (rw [getD_fst hx139]; omega))).symm, by rw [← ins_length (k40, s41) hi]; omega, hE244.pk, hW248, (Fr.trans (Fr.trans (Fr.trans (Fr.trans (Fr.trans (Fr.trans (Fr.trans (Fr.trans (Fr.trans (Fr.trans (Fr.trans (Fr.trans hF30 hF58) hF62) hF73) hF75) hF111) hF169) hF179) hF186) hF235) hF239) hF246) hF250)⟩
    ·
      have hf253 := of_decide_eq_false hc79
      have hE254 := hE78.cast (env' := [(5, .v (.int .u32 (knownI l))), (6, .v (.slice A_ out.length c_)), (8, .p 0 0), (9, .v (.int .i64 ((i : Nat) : Int))), (17, .v (.slice A ((u.take 32767).length) c)), (18, .v (.int .i64 (((u.take 32767).length : Nat) : Int))), (19, .v (.int .i64 ((k : Nat) : Int))), (27, .v (.bool false))]) (by rw [hc79])
      clear hE78
      refine go_rnD [5, 6, 7, 8, 9, 10, 11, 12, 13] [(5, .v (.int .u32 (knownI l))), (6, .v (.slice A_ out.length c_)), (8, .p 0 0), (9, .v (.int .i64 ((i : Nat) : Int))), (17, .v (.slice A ((u.take 32767).length) c)), (18, .v (.int .i64 (((u.take 32767).length : Nat) : Int))), (19, .v (.int .i64 ((k : Nat) : Int))), (36, .v (.bool false))] 0 (panicFree_then (panicFree_then (panicFree_then (panicFree_block (panicFree_then (panicFree_block (panicFree_then (panicFree_then (panicFree_block (panicFree_then panicFree_body)))))))))) (fun _ h => h ▸ hW76.cells) rfl hE254 fun a255 hE256 => ?_
      clear hE254
      refine anyC_done (by kernel_rfl) ?_ _
      refine then_normal ?_
      refine cond_false hE256 (b := false) (by kernel_rfl) rfl ?_
      refine wp_exit ?_
      refine then_exit ?_
      refine then_exit ?_
      refine block_exit ?_
      refine then_normal ?_
      refine wp_seq ?_
      refine go_seq_drawQ (by kernel_rfl) hW76 fun w257 hF258 hW259 => ?_
      refine go_rnD [0, 1, 2, 3, 4] [(5, .v (.int .u32 (knownI l))), (6, .v (.slice A_ out.length c_)), (8, .p 0 0), (9, .v (.int .i64 ((i : Nat) : Int))), (17, .v (.slice A ((u.take 32767).length) c)), (18, .v (.int .i64 (((u.take 32767).length : Nat) : Int))), (19, .v (.int .i64 ((k : Nat) : Int))), (43, .v (.bool (decide (k40 < (knownI l)))))] 15 (panicFree_then (panicFree_then (panicFree_block (panicFree_then (panicFree_then (panicFree_block (panicFree_then panicFree_body))))))) (fun _ h => h ▸ hW259.cells) rfl hE256 fun a260 hE261 => ?_
      clear hE256
      refine (Bool.eq_false_or_eq_true (decide (k40 < (knownI l)))).elim (fun hc262 => ?_) (fun hc262 => ?_)
      ·
        have hf263 := of_decide_eq_true hc262
        have hE264 := hE261.cast (env' := [(5, .v (.int .u32 (knownI l))), (6, .v (.slice A_ out.length c_)), (8, .p 0 0), (9, .v (.int .i64 ((i : Nat) : Int))), (17, .v (.slice A ((u.take 32767).length) c)), (18, .v (.int .i64 (((u.take 32767).length : Nat) : Int))), (19, .v (.int .i64 ((k : Nat) : Int))), (43, .v (.bool true))]) (by rw [hc262])
        clear hE261
        refine go_rnD [5, 6, 7, 8, 9, 10, 11, 12, 13, 14, 15, 16, 17, 18, 19] [(5, .v (.int .u32 (knownI l))), (6, .v (.slice A_ out.length c_)), (8, .p 0 0), (9, .v (.int .i64 ((i : Nat) : Int))), (17, .v (.slice A ((u.take 32767).length) c)), (18, .v (.int .i64 (((u.take 32767).length : Nat) : Int))), (19, .v (.int .i64 ((k : Nat) : Int))), (58, .v (.bool true))] 0 (panicFree_then (panicFree_then (panicFree_block (panicFree_then (panicFree_then (panicFree_block (panicFree_then panicFree_body))))))) (fun _ h => h ▸ hW259.cells) rfl hE264 fun a265 hE266 => ?_
        clear hE264
        refine anyC_done (by kernel_rfl) ?_ _
        refine then_normal ?_
        refine cond_true hE266 (b := true) (by kernel_rfl) rfl ?_
        refine wp_exit ?_
        refine then_exit ?_
        refine block_exit ?_
        refine then_normal ?_
        refine go_region [0, 1] (by kernel_rfl) ?_
        refine go_rn [0, 1] [] [(5, .v (.int .u32 (knownI l))), (6, .v (.slice A_ out.length c_)), (17, .v (.slice A ((u.take 32767).length) c)), (18, .v (.int .i64 (((u.take 32767).length : Nat) : Int))), (19, .v (.int .i64 (IntKind.i64.wrap (((k : Nat) : Int) + 1))))] hW259 hE266 fun a267 hE268 => ?_
        clear hE266
        refine wpOps_nil ?_
        refine then_normal ?_
        obtain ⟨hE269, hW270, hF271⟩ := hW259.cutB hE268 0 [] [(5, .v (.int .u32 (knownI l))), (6, .v (.slice A_ out.length c_)), (17, .v (.slice A ((u.take 32767).length) c)), (18, .v (.int .i64 (((u.take 32767).length : Nat) : Int))), (19, .v (.int .i64 (IntKind.i64.wrap (((k : Nat) : Int) + 1))))]
        have he272 : IntKind.i64.wrap (((k : Nat) : Int) + 1) = ((k + 1 : Nat) : Int) := wrap_succ (by omega)
        rw [he272] at hE269
        exact ⟨(u.take 32767).length - (k + 1), by omega, k + 1, A_, c_, out, css, rfl, by omega, (hT.move (Fr.trans (Fr.trans (Fr.trans (Fr.trans (Fr.trans hF58 hF62) hF73) hF75) hF258) hF271).step immM (Fr.trans (Fr.trans (Fr.trans (Fr.trans (Fr.trans hF58 hF62) hF73) hF75) hF258) hF271).to'), by rw [foldl_take_succ he42, ← hout]; exact (ins_low (by assumption)).symm, by omega, hE269.pk, hW270, (Fr.trans (Fr.trans (Fr.trans (Fr.trans (Fr.trans (Fr.trans hF30 hF58) hF62) hF73) hF75) hF258) hF271)⟩
      ·
        have hf273 := of_decide_eq_false hc262
        have hE274 := hE261.cast (env' := [(5, .v (.int .u32 (knownI l))), (6, .v (.slice A_ out.length c_)), (8, .p 0 0), (9, .v (.int .i64 ((i : Nat) : Int))), (17, .v (.slice A ((u.take 32767).length) c)), (18, .v (.int .i64 (((u.take 32767).length : Nat) : Int))), (19, .v (.int .i64 ((k : Nat) : Int))), (43, .v (.bool false))]) (by rw [hc262])
        clear hE261
        refine go_rnD [5, 6, 7, 8, 9] [(5, .v (.int .u32 (knownI l))), (6, .v (.slice A_ out.length c_)), (8, .p 0 0), (9, .v (.int .i64 ((i : Nat) : Int))), (17, .v (.slice A ((u.take 32767).length) c)), (18, .v (.int .i64 (((u.take 32767).length : Nat) : Int))), (19, .v (.int .i64 ((k : Nat) : Int))), (43, .v (.bool false)), (48, .v (.bool (decide (((i : Nat) : Int) < ((out.length : Nat) : Int)))))] 10 (panicFree_then (panicFree_then (panicFree_block (panicFree_then (panicFree_then (panicFree_block (panicFree_then panicFree_body))))))) (fun _ h => h ▸ hW259.cells) rfl hE274 fun a275 hE276 => ?_
        clear hE274
        have hc277 : (decide (((i : Nat) : Int) < ((out.length : Nat) : Int))) = false := hc79
        have hE278 := hE276.cast (env' := [(5, .v (.int .u32 (knownI l))), (6, .v (.slice A_ out.length c_)), (8, .p 0 0), (9, .v (.int .i64 ((i : Nat) : Int))), (17, .v (.slice A ((u.take 32767).length) c)), (18, .v (.int .i64 (((u.take 32767).length : Nat) : Int))), (19, .v (.int .i64 ((k : Nat) : Int))), (43, .v (.bool false)), (48, .v (.bool false))]) (by rw [hc277])
        clear hE276
        refine go_rnD [10, 11, 12, 13, 14, 15, 16, 17, 18, 19] [(5, .v (.int .u32 (knownI l))), (6, .v (.slice A_ out.length c_)), (8, .p 0 0), (9, .v (.int .i64 ((i : Nat) : Int))), (17, .v (.slice A ((u.take 32767).length) c)), (18, .v (.int .i64 (((u.take 32767).length : Nat) : Int))), (19, .v (.int .i64 ((k : Nat) : Int))), (58, .v (.bool false))] 0 (panicFree_then (panicFree_then (panicFree_block (panicFree_then (panicFree_then (panicFree_block (panicFree_then panicFree_body))))))) (fun _ h => h ▸ hW259.cells) rfl hE278 fun a279 hE280 => ?_
        clear hE278
        refine anyC_done (by kernel_rfl) ?_ _
        refine then_normal ?_
        refine cond_false hE280 (b := false) (by kernel_rfl) rfl ?_
        refine wp_skip ?_
        refine then_normal ?_
        refine go_seq_region [0, 1, 2, 3, 4] (by kernel_rfl) ?_
        refine go_rn [0, 1] [2, 3, 4] [(5, .v (.int .u32 (knownI l))), (8, .p 0 0), (9, .v (.int .i64 ((i : Nat) : Int))), (17, .v (.slice A ((u.take 32767).length) c)), (18, .v (.int .i64 (((u.take 32767).length : Nat) : Int))), (19, .v (.int .i64 ((k : Nat) : Int))), (59, .v (.slice A_ out.length c_)), (60, .v (.agg #[.int .u32 0, .slice none 0 0]))] hW259 hE280 fun a281 hE282 => ?_
        clear hE280
        refine wpOps_push hW259 hE282 (k := 0) (e := 63) (size := 2) (len := 1) (cs := [.int .u32 0, .slice none 0 0]) (d1 := 61) (d := 62) (by kernel_rfl) (t := 24) (bytes := 32) (by kernel_rfl) (fun _ => by kernel_rfl) rfl (by kernel_rfl) (by omega) fun A283 c284 a285 w286 hF287 hW288 ⟨_, hE289⟩ => ?_
        clear hE282
        refine go_rn [4] [] [(5, .v (.int .u32 (knownI l))), (6, .v (.slice A283 (out.length + 1) c284)), (8, .p 0 0), (9, .v (.int .i64 ((i : Nat) : Int))), (17, .v (.slice A ((u.take 32767).length) c)), (18, .v (.int .i64 (((u.take 32767).length : Nat) : Int))), (19, .v (.int .i64 ((k : Nat) : Int)))] hW288 hE289 fun a290 hE291 => ?_
        clear hE289
        refine wpOps_nil ?_
        refine then_normal ?_
        refine wp_seq ?_
        refine go_sp [(5, .v (.int .u32 (knownI l))), (6, .v (.slice A283 (out.length + 1) c284)), (8, .p 0 0), (9, .v (.int .i64 ((i : Nat) : Int))), (10, .v (.int .i64 (IntKind.i64.wrap (((out.length + 1 : Nat) : Int) - 1)))), (17, .v (.slice A ((u.take 32767).length) c)), (18, .v (.int .i64 (((u.take 32767).length : Nat) : Int))), (19, .v (.int .i64 ((k : Nat) : Int)))] hW288 hE291 fun a292 hE293 => ?_
        clear hE291
        refine wp_block ?_
        have hcl0 := (hT.move (Fr.trans (Fr.trans (Fr.trans (Fr.trans (Fr.trans hF58 hF62) hF73) hF75) hF258) hF287).step immM (Fr.trans (Fr.trans (Fr.trans (Fr.trans (Fr.trans hF58 hF62) hF73) hF75) hF258) hF287).to').len
        have er294 : (⟨A283, c284, 63, 2, out.length + 1, css.flatten ++ [.int .u32 0, .slice none 0 0]⟩ : Rw) = ⟨A283, c284, 63, 2, out.length + 1, (rowAt css [.int .u32 0, .slice none 0 0] out.length).flatten⟩ := by rw [push_row hcl0]
        obtain ⟨hW295, hF297⟩ := hW288.rowEq 0 [⟨A283, c284, 63, 2, out.length + 1, (rowAt css [.int .u32 0, .slice none 0 0] out.length).flatten⟩] er294
        clear hW288
        have he305 : IntKind.i64.wrap (((out.length + 1 : Nat) : Int) - 1) = ((out.length : Nat) : Int) := by rw [wrap_i64 (by omega) (by omega)]; omega
        rw [he305] at hE293
        refine wp_loop_ghost (fun n_ a_ w_ => ∃ (j : Nat), n_ = j ∧ (i ≤ j) ∧ (j ≤ out.length) ∧ LInv hW295 85 [⟨b53, 0, [.int .u32 k40, .slice A43 s41.length c44], true⟩] [⟨A283, c284, 63, 2, out.length + 1, (rowAt css [.int .u32 0, .slice none 0 0] j).flatten⟩] [(5, .v (.int .u32 (knownI l))), (6, .v (.slice A283 (out.length + 1) c284)), (8, .p 0 0), (9, .v (.int .i64 ((i : Nat) : Int))), (10, .v (.int .i64 ((j : Nat) : Int))), (17, .v (.slice A ((u.take 32767).length) c)), (18, .v (.int .i64 (((u.take 32767).length : Nat) : Int))), (19, .v (.int .i64 ((k : Nat) : Int)))] a_ w_) (out.length) ⟨out.length, rfl, hi, Nat.le_refl _, hE293.pk, hW295, Fr.refl _ _ _⟩ ?_
        clear hE293
        rintro n298 a299 w300 ⟨j, hn303, hij, hjl, hE301, hW302, hF304⟩
        refine wp_seq ?_
        refine go_sp [(5, .v (.int .u32 (knownI l))), (6, .v (.slice A283 (out.length + 1) c284)), (8, .p 0 0), (9, .v (.int .i64 ((i : Nat) : Int))), (10, .v (.int .i64 ((j : Nat) : Int))), (17, .v (.slice A ((u.take 32767).length) c)), (18, .v (.int .i64 (((u.take 32767).length : Nat) : Int))), (19, .v (.int .i64 ((k : Nat) : Int))), (68, .v (.bool (decide (((j : Nat) : Int) > ((i : Nat) : Int)))))] hW302 hE301 fun a306 hE307 => ?_
        clear hE301
        refine cond_of hE307 (b := decide (((j : Nat) : Int) > ((i : Nat) : Int))) (by kernel_rfl) (fun hc308 => ?_) (fun hc308 => ?_)
        ·
          have hf309 := of_decide_eq_true hc308
          refine wp_skip ?_
          refine then_normal ?_
          refine wp_seq ?_
          refine wp_block ?_
          refine go_region [0, 1, 2, 3, 4, 5, 6, 7, 8] (by kernel_rfl) ?_
          refine go_rn [0, 1, 2, 3, 4] [5, 6, 7, 8] [(5, .v (.int .u32 (knownI l))), (6, .v (.slice A283 (out.length + 1) c284)), (8, .p 0 0), (9, .v (.int .i64 ((i : Nat) : Int))), (10, .v (.int .i64 ((j : Nat) : Int))), (17, .v (.slice A ((u.take 32767).length) c)), (18, .v (.int .i64 (((u.take 32767).length : Nat) : Int))), (19, .v (.int .i64 ((k : Nat) : Int))), (71, .v (.slice A283 (out.length + 1) c284)), (72, .v (.int .i64 ((j : Nat) : Int))), (73, .v (.slice A283 (out.length + 1) c284)), (75, .v (.int .i64 (IntKind.i64.wrap (((j : Nat) : Int) - 1))))] hW302 hE307 fun a310 hE311 => ?_
          clear hE307
          obtain ⟨g312, hA313⟩ := own_addr (hW302.own 0 _ rfl) (show 0 < out.length + 1 by omega)
          obtain ⟨⟨k315, s316⟩, hx317⟩ : ∃ x, out[j - 1]? = some x := ⟨_, List.getElem?_eq_getElem (by omega)⟩
          obtain ⟨A318, c319, hc320, hO321, h322, h323⟩ := TagsE.get2 (hT.move (Fr.trans (Fr.trans (Fr.trans (Fr.trans (Fr.trans (Fr.trans (Fr.trans hF58 hF62) hF73) hF75) hF258) hF287) hF297) hF304).step immM (Fr.trans (Fr.trans (Fr.trans (Fr.trans (Fr.trans (Fr.trans (Fr.trans hF58 hF62) hF73) hF75) hF258) hF287) hF297) hF304).to') hx317
          have hat314 := own_at (hW302.own 0 _ rfl) hA313 (flat_cells (rowAt_two (hT.move (Fr.trans (Fr.trans (Fr.trans (Fr.trans (Fr.trans (Fr.trans (Fr.trans hF58 hF62) hF73) hF75) hF258) hF287) hF297) hF304).step immM (Fr.trans (Fr.trans (Fr.trans (Fr.trans (Fr.trans (Fr.trans (Fr.trans hF58 hF62) hF73) hF75) hF258) hF287) hF297) hF304).to').two rfl j) (rowAt_get (show j - 1 < j by omega) hc320))
          refine of_op (wpOp_index hE311 (t := 24) (A := A283) (m := (out.length + 1)) (q := (IntKind.i64.wrap (((j : Nat) : Int) - 1))) (d := 76) (by kernel_rfl) (e := 63) (size := 2) (bytes := 32) (by kernel_rfl) (b := g312) (o := 0) (j := (j - 1)) hA313 (by rw [wrap_i64 (by omega) (by omega)]; omega) (by omega) fun a324 hE325 => ?_)
          clear hE311
          refine of_op (wpOp_load hE325 (t := 63) (b := g312) (o := 0 + (j - 1) * 2) (d := 77) (by kernel_rfl) (cs := [.int .u32 k315, .slice A318 s316.length c319]) (v := .agg #[.int .u32 k315, .slice A318 s316.length c319]) (by kernel_rfl) hat314 fun a326 hE327 => ?_)
          clear hE325
          obtain ⟨g328, hA329⟩ := own_addr (hW302.own 0 _ rfl) (show 0 < out.length + 1 by omega)
          refine of_op (wpOp_index hE327 (t := 24) (A := A283) (m := (out.length + 1)) (q := ((j : Nat) : Int)) (d := 78) (by kernel_rfl) (e := 63) (size := 2) (bytes := 32) (by kernel_rfl) (b := g328) (o := 0) (j := j) hA329 (rfl) (by omega) fun a331 hE332 => ?_)
          clear hE327
          refine of_op (wpOp_storeR hW302 hE332 (k := 0) (g := g328) (o := j * 2) (c := c284) (m := (out.length + 1)) (size := 2) (e := 63) (A := A283) (xs := ((rowAt css [.int .u32 0, .slice none 0 0] j).flatten)) (vs := [.int .u32 k315, .slice A318 s316.length c319]) (by kernel_rfl) rfl hA329 (by simp only [List.length_cons, List.length_nil]; omega) fun w333 hF334 hW335 hE336 => ?_)
          clear hE332 hW302
          refine wpOps_nil ?_
          refine block_normal ?_
          refine then_normal ?_
          refine go_region [0, 1, 2] (by kernel_rfl) ?_
          refine go_rn [0, 1, 2] [] [(5, .v (.int .u32 (knownI l))), (6, .v (.slice A283 (out.length + 1) c284)), (8, .p 0 0), (9, .v (.int .i64 ((i : Nat) : Int))), (10, .v (.int .i64 (IntKind.i64.wrap (((j : Nat) : Int) - 1)))), (17, .v (.slice A ((u.take 32767).length) c)), (18, .v (.int .i64 (((u.take 32767).length : Nat) : Int))), (19, .v (.int .i64 ((k : Nat) : Int)))] hW335 hE336 fun a337 hE338 => ?_
          clear hE336
          refine wpOps_nil ?_
          refine then_normal ?_
          have er339 : (⟨A283, c284, 63, 2, out.length + 1, splice ((rowAt css [.int .u32 0, .slice none 0 0] j).flatten) (j * 2) [.int .u32 k315, .slice A318 s316.length c319]⟩ : Rw) = ⟨A283, c284, 63, 2, out.length + 1, (rowAt css [.int .u32 0, .slice none 0 0] (j - 1)).flatten⟩ := by rw [shift_row (hT.move (Fr.trans (Fr.trans (Fr.trans (Fr.trans (Fr.trans (Fr.trans (Fr.trans (Fr.trans hF58 hF62) hF73) hF75) hF258) hF287) hF297) hF304) hF334).step immM (Fr.trans (Fr.trans (Fr.trans (Fr.trans (Fr.trans (Fr.trans (Fr.trans (Fr.trans hF58 hF62) hF73) hF75) hF258) hF287) hF297) hF304) hF334).to').two rfl (by omega) (by omega) hc320]
          obtain ⟨hW340, hF342⟩ := hW335.rowEq 0 [⟨A283, c284, 63, 2, out.length + 1, (rowAt css [.int .u32 0, .slice none 0 0] (j - 1)).flatten⟩] er339
          clear hW335
          have he343 : IntKind.i64.wrap (((j : Nat) : Int) - 1) = ((j - 1 : Nat) : Int) := by rw [wrap_i64 (by omega) (by omega)]; omega
          rw [he343] at hE338
          exact ⟨(j - 1), by omega, (j - 1), rfl, by omega, by omega, hE338.pk, hW340, (Fr.trans (Fr.trans hF304 hF334) hF342)⟩
        ·
          have hf344 := of_decide_eq_false hc308
          refine wp_exit ?_
          refine then_exit ?_
          refine then_exit ?_
          refine block_exit ?_
          refine then_normal ?_
          refine go_region [0, 1, 2, 3, 4] (by kernel_rfl) ?_
          refine go_rn [0, 1, 2] [3, 4] [(5, .v (.int .u32 (knownI l))), (6, .v (.slice A283 (out.length + 1) c284)), (17, .v (.slice A ((u.take 32767).length) c)), (18, .v (.int .i64 (((u.take 32767).length : Nat) : Int))), (19, .v (.int .i64 ((k : Nat) : Int))), (79, .v (.slice A283 (out.length + 1) c284)), (80, .v (.int .i64 ((i : Nat) : Int))), (81, .v (.agg #[.int .u32 k40, .slice A43 s41.length c44]))] hW302 hE307 fun a345 hE346 => ?_
          clear hE307
          have hji : j = i := by omega
          have er350 : (⟨A283, c284, 63, 2, out.length + 1, (rowAt css [.int .u32 0, .slice none 0 0] j).flatten⟩ : Rw) = ⟨A283, c284, 63, 2, out.length + 1, (rowAt css [.int .u32 0, .slice none 0 0] i).flatten⟩ := by rw [hji]
          obtain ⟨hW351, hF353⟩ := hW302.rowEq 0 [⟨A283, c284, 63, 2, out.length + 1, (rowAt css [.int .u32 0, .slice none 0 0] i).flatten⟩] er350
          clear hW302
          obtain ⟨g347, hA348⟩ := own_addr (hW351.own 0 _ rfl) (show 0 < out.length + 1 by omega)
          refine of_op (wpOp_index hE346 (t := 24) (A := A283) (m := (out.length + 1)) (q := ((i : Nat) : Int)) (d := 82) (by kernel_rfl) (e := 63) (size := 2) (bytes := 32) (by kernel_rfl) (b := g347) (o := 0) (j := i) hA348 (rfl) (by omega) fun a354 hE355 => ?_)
          clear hE346
          refine of_op (wpOp_storeR hW351 hE355 (k := 0) (g := g347) (o := i * 2) (c := c284) (m := (out.length + 1)) (size := 2) (e := 63) (A := A283) (xs := ((rowAt css [.int .u32 0, .slice none 0 0] i).flatten)) (vs := [.int .u32 k40, .slice A43 s41.length c44]) (by kernel_rfl) rfl hA348 (by simp only [List.length_cons, List.length_nil]; omega) fun w356 hF357 hW358 hE359 => ?_)
          clear hE355 hW351
          refine wpOps_nil ?_
          refine block_normal ?_
          refine then_normal ?_
          refine go_region [0, 1] (by kernel_rfl) ?_
          refine go_rn [0, 1] [] [(5, .v (.int .u32 (knownI l))), (6, .v (.slice A283 (out.length + 1) c284)), (17, .v (.slice A ((u.take 32767).length) c)), (18, .v (.int .i64 (((u.take 32767).length : Nat) : Int))), (19, .v (.int .i64 (IntKind.i64.wrap (((k : Nat) : Int) + 1))))] hW358 hE359 fun a360 hE361 => ?_
          clear hE359
          refine wpOps_nil ?_
          refine then_normal ?_
          obtain ⟨hE362, hW363, hF364⟩ := hW358.cutB hE361 0 [] [(5, .v (.int .u32 (knownI l))), (6, .v (.slice A283 (out.length + 1) c284)), (17, .v (.slice A ((u.take 32767).length) c)), (18, .v (.int .i64 (((u.take 32767).length : Nat) : Int))), (19, .v (.int .i64 (IntKind.i64.wrap (((k : Nat) : Int) + 1))))]
          have hcl := (hT.move (Fr.trans (Fr.trans (Fr.trans (Fr.trans (Fr.trans (Fr.trans (Fr.trans (Fr.trans (Fr.trans (Fr.trans hF58 hF62) hF73) hF75) hF258) hF287) hF297) hF304) hF353) hF357) hF364).step immM (Fr.trans (Fr.trans (Fr.trans (Fr.trans (Fr.trans (Fr.trans (Fr.trans (Fr.trans (Fr.trans (Fr.trans hF58 hF62) hF73) hF75) hF258) hF287) hF297) hF304) hF353) hF357) hF364).to').len
          have er365 : (⟨A283, c284, 63, 2, out.length + 1, splice ((rowAt css [.int .u32 0, .slice none 0 0] i).flatten) (i * 2) [.int .u32 k40, .slice A43 s41.length c44]⟩ : Rw) = ⟨A283, c284, 63, 2, (out.take i ++ (k40, s41) :: out.drop i).length, (css.take i ++ [.int .u32 k40, .slice A43 s41.length c44] :: css.drop i).flatten⟩ := by rw [place_row (hT.move (Fr.trans (Fr.trans (Fr.trans (Fr.trans (Fr.trans (Fr.trans (Fr.trans (Fr.trans (Fr.trans (Fr.trans hF58 hF62) hF73) hF75) hF258) hF287) hF297) hF304) hF353) hF357) hF364).step immM (Fr.trans (Fr.trans (Fr.trans (Fr.trans (Fr.trans (Fr.trans (Fr.trans (Fr.trans (Fr.trans (Fr.trans hF58 hF62) hF73) hF75) hF258) hF287) hF297) hF304) hF353) hF357) hF364).to').two rfl (by omega) rfl, ins_length (k40, s41) hi]
          obtain ⟨hW366, hF368⟩ := hW363.rowEq 0 [⟨A283, c284, 63, 2, (out.take i ++ (k40, s41) :: out.drop i).length, (css.take i ++ [.int .u32 k40, .slice A43 s41.length c44] :: css.drop i).flatten⟩] er365
          clear hW363
          have he369 : IntKind.i64.wrap (((k : Nat) : Int) + 1) = ((k + 1 : Nat) : Int) := wrap_succ (by omega)
          rw [he369] at hE362
          have he370 : out.length + 1 = (out.take i ++ (k40, s41) :: out.drop i).length := ins_length (k40, s41) hi
          rw [he370] at hE362
          exact ⟨(u.take 32767).length - (k + 1), by omega, k + 1, A283, c284, (out.take i ++ (k40, s41) :: out.drop i), (css.take i ++ [.int .u32 k40, .slice A43 s41.length c44] :: css.drop i), rfl, by omega, (hT.move (Fr.trans (Fr.trans (Fr.trans (Fr.trans (Fr.trans (Fr.trans (Fr.trans (Fr.trans (Fr.trans (Fr.trans (Fr.trans hF58 hF62) hF73) hF75) hF258) hF287) hF297) hF304) hF353) hF357) hF364) hF368).step immM (Fr.trans (Fr.trans (Fr.trans (Fr.trans (Fr.trans (Fr.trans (Fr.trans (Fr.trans (Fr.trans (Fr.trans (Fr.trans hF58 hF62) hF73) hF75) hF258) hF287) hF297) hF304) hF353) hF357) hF364) hF368).to').ins ⟨⟨A43, c44, rfl, (hb46.move hW366.step nilM hW366.imm)⟩, h47, h48⟩ hi, by rw [foldl_take_succ he42, ← hout]; exact (ins_new (tagPos_eq hi hlt (fun h_ => absurd h_ (by omega))) (by assumption) (fun h_ => absurd h_ (by omega))).symm, by rw [← ins_length (k40, s41) hi]; omega, hE362.pk, hW366, (Fr.trans (Fr.trans (Fr.trans (Fr.trans (Fr.trans (Fr.trans (Fr.trans (Fr.trans (Fr.trans (Fr.trans (Fr.trans (Fr.trans hF30 hF58) hF62) hF73) hF75) hF258) hF287) hF297) hF304) hF353) hF357) hF364) hF368)⟩
  ·
    have hf371 := of_decide_eq_false hc33
    refine wp_exit ?_
    refine then_exit ?_
    refine then_exit ?_
    refine block_exit ?_
    refine then_normal ?_
    refine go_sp [(4, .v (.slice A_ out.length c_))] hW27 hE32 fun a372 hE373 => ?_
    clear hE32
    refine wp_ret ?_
    refine leave hE373 hW27.cells (v := .slice A_ out.length c_) (by kernel_rfl) ?_
    exact unknown_end hW27 (k := 0) rfl rfl rfl hT (by omega) (by rw [hout, List.take_of_length_le (by omega)]; rfl)

end Go.Proofs.YtbjopfcbpobnpaaGreat.ME

/- Contracts: printed by tools/sp.py. Own work. -/
namespace Go.Proofs.YtbjopfcbpobnpaaGreat.ME
open Go
set_option linter.unusedVariables false
set_option linter.unusedSimpArgs false
set_option maxRecDepth 20000

/-- whether a field at most d deep is as usual -/
def UsualOK (d : Nat) : Prop := ∀ (cf : List Value) (f : Fld) (ct : List Value) (t : Tree) (w : World) (F : Nat → Nat → Prop), FldR w F cf f → f.depth ≤ d → TreeR w F ct t →
    Calls Tryz.prog 92 #[.agg cf.toArray, .agg ct.toArray] w (Gives w (.bool (f.usual t)))

theorem sUsual_step {d : Nat} (hu : UsualOK d) (cf : List Value) (f : Fld) (ct : List Value) (t : Tree) (w : World) (F : Nat → Nat → Prop) (hf : FldR w F cf f) (hd : f.depth ≤ d + 1) (ht : TreeR w F ct t) :
    Calls Tryz.prog 92 #[.agg cf.toArray, .agg ct.toArray] w (Gives w (.bool (f.usual t))) := by
  obtain ⟨k1, y2, y3, y4, y5, y6, y7, l8, A9, c10, xs11, rfl, rfl, h13, h14⟩ := hf.open_
  have hsm15 := h13.small
  obtain ⟨n16, s17, b18, l19, u20, A21, c22, A23, c24, A25, c26, xs27, rfl, rfl, h29, h30, h31, h32⟩ := ht.open_
  have hsm34 := h29.small
  have hsm35 := h30.small
  refine enter (n := 91) Tryz.func92 rfl Tryz.ntmps92 (by kernel_rfl) fun a hE => ?_
  have hW := WOk.start w Nil
  refine go_seq_region [0, 1, 2] (by kernel_rfl) ?_
  refine of_op (wpOp_box hW hE (d := 2) (cs := [.int .i64 k1, .int .i64 y2, .int .i64 y3, .int .i64 y4, .int .i64 y5, .int .i64 y6, .int .i64 y7, .slice A9 l8.length c10]) (by kernel_rfl) fun b36 a37 w38 hb39 hz40 hF41 hW42 hE43 => ?_)
  clear hE hW
  refine of_op (wpOp_box hW42 hE43 (d := 3) (cs := [.int .i64 n16, .slice A21 s17.length c22, .bool b18, .slice A23 l19.length c24, .slice A25 u20.length c26]) (by kernel_rfl) fun b44 a45 w46 hb47 hz48 hF49 hW50 hE51 => ?_)
  clear hE43 hW42
  refine go_rn [2] [] [(2, .p 0 0), (3, .p 1 0)] hW50 hE51 fun a52 hE53 => ?_
  clear hE51
  refine wpOps_nil ?_
  refine then_normal ?_
  refine wp_seq ?_
  refine go_sp [(2, .p 0 0), (3, .p 1 0), (10, .v (.int .i64 k1))] hW50 hE53 fun a54 hE55 => ?_
  clear hE53
  refine wp_block ?_
  refine go_sp [(2, .p 0 0), (3, .p 1 0), (10, .v (.int .i64 k1)), (11, .v (.bool (k1 == 0)))] hW50 hE55 fun a56 hE57 => ?_
  clear hE55
  refine cond_of hE57 (b := k1 == 0) (by kernel_rfl) (fun hc58 => ?_) (fun hc58 => ?_)
  ·
    have hf59 : k1 = 0 := by simpa using hc58
    refine go_sp [(4, .v (.bool ((IntKind.i64.wrap (BitVec.ofInt 64 n16 &&& BitVec.ofInt 64 1).toNat) == y6)))] hW50 hE57 fun a60 hE61 => ?_
    clear hE57
    refine wp_ret ?_
    refine block_ret ?_
    refine then_ret ?_
    refine leave hE61 hW50.cells (v := .bool ((IntKind.i64.wrap (BitVec.ofInt 64 n16 &&& BitVec.ofInt 64 1).toNat) == y6)) (by kernel_rfl) ?_
    refine ⟨congrArg (fun b_ => Ending.returned (Value.bool b_)) ?_, hW50.step⟩
    first
      | (rw [usual_0 (by assumption)]; simp only [and1]; done)
      | (rw [usual_7 (by assumption) (by assumption)]; exact zero16_true hz (by omega); done)
      | (rw [usual_7 (by assumption) (by assumption)]; exact zero16_false (k := k) (by omega) (by omega) (by assumption); done)
      | (rw [usual_89n (by assumption) (by assumption) (by omega) (by assumption)]; done)
      | (rw [usual_89 (by assumption) (by assumption) (by omega) (by assumption)]; done)
      | (rw [usual_11 (by assumption) (by assumption) (by assumption) (by assumption) (by assumption)]; done)
      | (rw [usual_10 (by assumption) (by assumption) (by assumption) (by assumption) (by assumption) (by assumption), huu, usuals_end (by omega), Bool.true_and]; done)
      | (rw [usual_else (by assumption) (by assumption) (by assumption) (by assumption) (by assumption) (by assumption)]; done)
  ·
    have hf62 : k1 ≠ 0 := by simpa using hc58
    refine go_sp [(2, .p 0 0), (3, .p 1 0), (10, .v (.int .i64 k1)), (19, .v (.bool (k1 == 7)))] hW50 hE57 fun a63 hE64 => ?_
    clear hE57
    refine cond_of hE64 (b := k1 == 7) (by kernel_rfl) (fun hc65 => ?_) (fun hc65 => ?_)
    ·
      have hf66 : k1 = 7 := by simpa using hc65
      refine wp_seq ?_
      refine go_sp [(22, .v (.slice A21 s17.length c22)), (23, .v (.int .i64 ((s17.length : Nat) : Int))), (24, .v (.int .i64 0))] hW50 hE64 fun a67 hE68 => ?_
      clear hE64
      refine wp_block ?_
      refine wp_loop_ghost (fun n_ a_ w_ => ∃ (k : Nat), n_ = s17.length - k ∧ k ≤ s17.length ∧ (∀ q, q < k → q < 16 → (((s17.getD q 0).toNat : Nat) : Int) = 0) ∧ LInv hW50 91 [⟨b36, 0, [.int .i64 k1, .int .i64 y2, .int .i64 y3, .int .i64 y4, .int .i64 y5, .int .i64 y6, .int .i64 y7, .slice A9 l8.length c10], true⟩, ⟨b44, 0, [.int .i64 n16, .slice A21 s17.length c22, .bool b18, .slice A23 l19.length c24, .slice A25 u20.length c26], true⟩] [] [(22, .v (.slice A21 s17.length c22)), (23, .v (.int .i64 ((s17.length : Nat) : Int))), (24, .v (.int .i64 ((k : Nat) : Int)))] a_ w_) (s17.length) ⟨0, by omega, by omega, fun q h_ => absurd h_ (Nat.not_lt_zero q), hE68.pk, hW50, Fr.refl _ _ _⟩ ?_
      clear hE68
      rintro n69 a70 w71 ⟨k, hn74, hk75, hz, hE72, hW73, hF76⟩
      refine go_sp [(22, .v (.slice A21 s17.length c22)), (23, .v (.int .i64 ((s17.length : Nat) : Int))), (24, .v (.int .i64 ((k : Nat) : Int))), (25, .v (.bool (decide (((k : Nat) : Int) < ((s17.length : Nat) : Int)))))] hW73 hE72 fun a77 hE78 => ?_
      clear hE72
      refine wp_seq ?_
      refine cond_of hE78 (b := decide (((k : Nat) : Int) < ((s17.length : Nat) : Int))) (by kernel_rfl) (fun hc79 => ?_) (fun hc79 => ?_)
      ·
        have hf80 := of_decide_eq_true hc79
        refine wp_skip ?_
        refine then_normal ?_
        refine wp_seq ?_
        refine wp_block ?_
        refine go_seq_region [0, 1, 2, 3, 4] (by kernel_rfl) ?_
        refine go_rn [0] [1, 2, 3, 4] [(22, .v (.slice A21 s17.length c22)), (23, .v (.int .i64 ((s17.length : Nat) : Int))), (24, .v (.int .i64 ((k : Nat) : Int))), (26, .v (.int .i64 ((k : Nat) : Int)))] hW73 hE78 fun a81 hE82 => ?_
        clear hE78
        obtain ⟨b83, o84, hA85, hl86, hat87⟩ := Slots.get h29 (i := k) (by omega)
        refine of_op (wpOp_index hE82 (t := 22) (A := A21) (m := s17.length) (q := ((k : Nat) : Int)) (d := 27) (by kernel_rfl) (e := 5) (size := 1) (bytes := 1) (by kernel_rfl) hA85 rfl (by omega) fun a88 hE89 => ?_)
        clear hE82
        refine of_op (wpOp_load hE89 (t := 5) (b := b83) (o := o84 + k * 1) (d := 28) (by kernel_rfl) (cs := [.int .u8 ((s17.getD k 0).toNat : Int)]) (v := .int .u8 ((s17.getD k 0).toNat : Int)) (by kernel_rfl) (AtF.move hat87 hW73.step nilM keepF).at_ fun a90 hE91 => ?_)
        clear hE89
        refine go_rn [3, 4] [] [(5, .v (.int .i64 ((k : Nat) : Int))), (6, .v (.int .u8 ((s17.getD k 0).toNat : Int))), (22, .v (.slice A21 s17.length c22)), (23, .v (.int .i64 ((s17.length : Nat) : Int))), (24, .v (.int .i64 ((k : Nat) : Int)))] hW73 hE91 fun a92 hE93 => ?_
        clear hE91
        refine wpOps_nil ?_
        refine then_normal ?_
        refine go_seq_region [0, 1, 2, 3, 4, 5] (by kernel_rfl) ?_
        refine go_rn [0, 1, 2] [3, 4, 5] [(6, .v (.int .u8 ((s17.getD k 0).toNat : Int))), (22, .v (.slice A21 s17.length c22)), (23, .v (.int .i64 ((s17.length : Nat) : Int))), (24, .v (.int .i64 ((k : Nat) : Int))), (31, .v (.bool (decide (((k : Nat) : Int) < 16))))] hW73 hE93 fun a94 hE95 => ?_
        clear hE93
        refine (Bool.eq_false_or_eq_true (decide (((k : Nat) : Int) < 16))).elim (fun hc96 => ?_) (fun hc96 => ?_)
        ·
          have hf97 := of_decide_eq_true hc96
          have hE98 := hE95.cast (env' := [(6, .v (.int .u8 ((s17.getD k 0).toNat : Int))), (22, .v (.slice A21 s17.length c22)), (23, .v (.int .i64 ((s17.length : Nat) : Int))), (24, .v (.int .i64 ((k : Nat) : Int))), (31, .v (.bool true))]) (by rw [hc96])
          clear hE95
          refine go_rn [3, 4, 5] [] [(22, .v (.slice A21 s17.length c22)), (23, .v (.int .i64 ((s17.length : Nat) : Int))), (24, .v (.int .i64 ((k : Nat) : Int))), (34, .v (.bool (((s17.getD k 0).toNat : Int) != 0)))] hW73 hE98 fun a99 hE100 => ?_
          clear hE98
          refine wpOps_nil ?_
          refine then_normal ?_
          refine cond_of hE100 (b := ((s17.getD k 0).toNat : Int) != 0) (by kernel_rfl) (fun hc101 => ?_) (fun hc101 => ?_)
          ·
            have hf102 : ((s17.getD k 0).toNat : Int) ≠ 0 := by simpa using hc101
            refine go_sp [(4, .v (.bool false))] hW73 hE100 fun a103 hE104 => ?_
            clear hE100
            refine wp_ret ?_
            refine block_ret ?_
            refine then_ret ?_
            refine then_ret ?_
            refine block_ret ?_
            refine then_ret ?_
            refine block_ret ?_
            refine then_ret ?_
            refine leave hE104 hW73.cells (v := .bool false) (by kernel_rfl) ?_
            refine ⟨congrArg (fun b_ => Ending.returned (Value.bool b_)) ?_, hW73.step⟩
            first
              | (rw [usual_0 (by assumption)]; simp only [and1]; done)
              | (rw [usual_7 (by assumption) (by assumption)]; exact zero16_true hz (by omega); done)
              | (rw [usual_7 (by assumption) (by assumption)]; exact zero16_false (k := k) (by omega) (by omega) (by assumption); done)
              | (rw [usual_89n (by assumption) (by assumption) (by omega) (by assumption)]; done)
              | (rw [usual_89 (by assumption) (by assumption) (by omega) (by assumption)]; done)
              | (rw [usual_11 (by assumption) (by assumption) (by assumption) (by assumption) (by assumption)]; done)
              | (rw [usual_10 (by assumption) (by assumption) (by assumption) (by assumption) (by assumption) (by assumption), huu, usuals_end (by omega), Bool.true_and]; done)
              | (rw [usual_else (by assumption) (by assumption) (by assumption) (by assumption) (by assumption) (by assumption)]; done)
          ·
            have hf105 : ((s17.getD k 0).toNat : Int) = 0 := by simpa using hc101
            refine wp_skip ?_
            refine block_normal ?_
            refine then_normal ?_
            refine go_region [0, 1] (by kernel_rfl) ?_
            refine go_rn [0, 1] [] [(22, .v (.slice A21 s17.length c22)), (23, .v (.int .i64 ((s17.length : Nat) : Int))), (24, .v (.int .i64 (IntKind.i64.wrap (((k : Nat) : Int) + 1))))] hW73 hE100 fun a106 hE107 => ?_
            clear hE100
            refine wpOps_nil ?_
            refine then_normal ?_
            have he108 : IntKind.i64.wrap (((k : Nat) : Int) + 1) = ((k + 1 : Nat) : Int) := wrap_succ (by omega)
            rw [he108] at hE107
            exact ⟨s17.length - (k + 1), by omega, k + 1, rfl, by omega, fun q hq h16 => by rcases Nat.lt_succ_iff_lt_or_eq.1 hq with h_ | h_; exact hz q h_ h16; rw [h_] at h16 ⊢; first | assumption | omega, hE107.pk, hW73, hF76⟩
        ·
          have hf109 := of_decide_eq_false hc96
          have hE110 := hE95.cast (env' := [(6, .v (.int .u8 ((s17.getD k 0).toNat : Int))), (22, .v (.slice A21 s17.length c22)), (23, .v (.int .i64 ((s17.length : Nat) : Int))), (24, .v (.int .i64 ((k : Nat) : Int))), (31, .v (.bool false))]) (by rw [hc96])
          clear hE95
          refine go_rn [3, 4, 5] [] [(22, .v (.slice A21 s17.length c22)), (23, .v (.int .i64 ((s17.length : Nat) : Int))), (24, .v (.int .i64 ((k : Nat) : Int))), (34, .v (.bool false))] hW73 hE110 fun a111 hE112 => ?_
          clear hE110
          refine wpOps_nil ?_
          refine then_normal ?_
          refine cond_false hE112 (b := false) (by kernel_rfl) rfl ?_
          refine wp_skip ?_
          refine block_normal ?_
          refine then_normal ?_
          refine go_region [0, 1] (by kernel_rfl) ?_
          refine go_rn [0, 1] [] [(22, .v (.slice A21 s17.length c22)), (23, .v (.int .i64 ((s17.length : Nat) : Int))), (24, .v (.int .i64 (IntKind.i64.wrap (((k : Nat) : Int) + 1))))] hW73 hE112 fun a113 hE114 => ?_
          clear hE112
          refine wpOps_nil ?_
          refine then_normal ?_
          have he115 : IntKind.i64.wrap (((k : Nat) : Int) + 1) = ((k + 1 : Nat) : Int) := wrap_succ (by omega)
          rw [he115] at hE114
          exact ⟨s17.length - (k + 1), by omega, k + 1, rfl, by omega, fun q hq h16 => by rcases Nat.lt_succ_iff_lt_or_eq.1 hq with h_ | h_; exact hz q h_ h16; rw [h_] at h16 ⊢; first | assumption | omega, hE114.pk, hW73, hF76⟩
      ·
        have hf116 := of_decide_eq_false hc79
        refine wp_exit ?_
        refine then_exit ?_
        refine then_exit ?_
        refine block_exit ?_
        refine then_normal ?_
        refine go_sp [(4, .v (.bool true))] hW73 hE78 fun a117 hE118 => ?_
        clear hE78
        refine wp_ret ?_
        refine block_ret ?_
        refine then_ret ?_
        refine leave hE118 hW73.cells (v := .bool true) (by kernel_rfl) ?_
        refine ⟨congrArg (fun b_ => Ending.returned (Value.bool b_)) ?_, hW73.step⟩
        first
          | (rw [usual_0 (by assumption)]; simp only [and1]; done)
          | (rw [usual_7 (by assumption) (by assumption)]; exact zero16_true hz (by omega); done)
          | (rw [usual_7 (by assumption) (by assumption)]; exact zero16_false (k := k) (by omega) (by omega) (by assumption); done)
          | (rw [usual_89n (by assumption) (by assumption) (by omega) (by assumption)]; done)
          | (rw [usual_89 (by assumption) (by assumption) (by omega) (by assumption)]; done)
          | (rw [usual_11 (by assumption) (by assumption) (by assumption) (by assumption) (by assumption)]; done)
          | (rw [usual_10 (by assumption) (by assumption) (by assumption) (by assumption) (by assumption) (by assumption), huu, usuals_end (by omega), Bool.true_and]; done)
          | (rw [usual_else (by assumption) (by assumption) (by assumption) (by assumption) (by assumption) (by assumption)]; done)
    ·
      have hf119 : k1 ≠ 7 := by simpa using hc65
      refine wp_seq ?_
      refine go_sp [(2, .p 0 0), (3, .p 1 0), (10, .v (.int .i64 k1)), (36, .v (.bool (k1 == 8)))] hW50 hE64 fun a120 hE121 => ?_
      clear hE64
      refine cond_of hE121 (b := k1 == 8) (by kernel_rfl) (fun hc122 => ?_) (fun hc122 => ?_)
      ·
        have hf123 : k1 = 8 := by simpa using hc122
        refine wp_skip ?_
        refine then_normal ?_
        refine cond_true hE121 (b := k1 == 8) (by kernel_rfl) (hc122) ?_
        refine wp_seq ?_
        refine go_sp [(3, .p 1 0), (41, .v (.bool (decide (y4 ≥ 0))))] hW50 hE121 fun a124 hE125 => ?_
        clear hE121
        refine cond_of hE125 (b := decide (y4 ≥ 0)) (by kernel_rfl) (fun hc126 => ?_) (fun hc126 => ?_)
        ·
          have hf127 := of_decide_eq_true hc126
          refine go_sp [(4, .v (.bool b18))] hW50 hE125 fun a128 hE129 => ?_
          clear hE125
          refine wp_ret ?_
          refine then_ret ?_
          refine block_ret ?_
          refine then_ret ?_
          refine leave hE129 hW50.cells (v := .bool b18) (by kernel_rfl) ?_
          refine ⟨congrArg (fun b_ => Ending.returned (Value.bool b_)) ?_, hW50.step⟩
          first
            | (rw [usual_0 (by assumption)]; simp only [and1]; done)
            | (rw [usual_7 (by assumption) (by assumption)]; exact zero16_true hz (by omega); done)
            | (rw [usual_7 (by assumption) (by assumption)]; exact zero16_false (k := k) (by omega) (by omega) (by assumption); done)
            | (rw [usual_89n (by assumption) (by assumption) (by omega) (by assumption)]; done)
            | (rw [usual_89 (by assumption) (by assumption) (by omega) (by assumption)]; done)
            | (rw [usual_11 (by assumption) (by assumption) (by assumption) (by assumption) (by assumption)]; done)
            | (rw [usual_10 (by assumption) (by assumption) (by assumption) (by assumption) (by assumption) (by assumption), huu, usuals_end (by omega), Bool.true_and]; done)
            | (rw [usual_else (by assumption) (by assumption) (by assumption) (by assumption) (by assumption) (by assumption)]; done)
        ·
          have hf130 := of_decide_eq_false hc126
          refine wp_skip ?_
          refine then_normal ?_
          refine go_sp [(4, .v (.bool (((s17.length : Nat) : Int) == 0)))] hW50 hE125 fun a131 hE132 => ?_
          clear hE125
          refine wp_ret ?_
          refine block_ret ?_
          refine then_ret ?_
          refine leave hE132 hW50.cells (v := .bool (((s17.length : Nat) : Int) == 0)) (by kernel_rfl) ?_
          refine ⟨congrArg (fun b_ => Ending.returned (Value.bool b_)) ?_, hW50.step⟩
          first
            | (rw [usual_0 (by assumption)]; simp only [and1]; done)
            | (rw [usual_7 (by assumption) (by assumption)]; exact zero16_true hz (by omega); done)
            | (rw [usual_7 (by assumption) (by assumption)]; exact zero16_false (k := k) (by omega) (by omega) (by assumption); done)
            | (rw [usual_89n (by assumption) (by assumption) (by omega) (by assumption)]; done)
            | (rw [usual_89 (by assumption) (by assumption) (by omega) (by assumption)]; done)
            | (rw [usual_11 (by assumption) (by assumption) (by assumption) (by assumption) (by assumption)]; done)
            | (rw [usual_10 (by assumption) (by assumption) (by assumption) (by assumption) (by assumption) (by assumption), huu, usuals_end (by omega), Bool.true_and]; done)
            | (rw [usual_else (by assumption) (by assumption) (by assumption) (by assumption) (by assumption) (by assumption)]; done)
      ·
        have hf133 : k1 ≠ 8 := by simpa using hc122
        refine go_region [0, 1] (by kernel_rfl) ?_
        refine go_rn [0, 1] [] [(2, .p 0 0), (3, .p 1 0), (10, .v (.int .i64 k1)), (36, .v (.bool (k1 == 9)))] hW50 hE121 fun a134 hE135 => ?_
        clear hE121
        refine wpOps_nil ?_
        refine then_normal ?_
        refine cond_of hE135 (b := k1 == 9) (by kernel_rfl) (fun hc136 => ?_) (fun hc136 => ?_)
        ·
          have hf137 : k1 = 9 := by simpa using hc136
          refine wp_seq ?_
          refine go_sp [(3, .p 1 0), (41, .v (.bool (decide (y4 ≥ 0))))] hW50 hE135 fun a138 hE139 => ?_
          clear hE135
          refine cond_of hE139 (b := decide (y4 ≥ 0)) (by kernel_rfl) (fun hc140 => ?_) (fun hc140 => ?_)
          ·
            have hf141 := of_decide_eq_true hc140
            refine go_sp [(4, .v (.bool b18))] hW50 hE139 fun a142 hE143 => ?_
            clear hE139
            refine wp_ret ?_
            refine then_ret ?_
            refine block_ret ?_
            refine then_ret ?_
            refine leave hE143 hW50.cells (v := .bool b18) (by kernel_rfl) ?_
            refine ⟨congrArg (fun b_ => Ending.returned (Value.bool b_)) ?_, hW50.step⟩
            first
              | (rw [usual_0 (by assumption)]; simp only [and1]; done)
              | (rw [usual_7 (by assumption) (by assumption)]; exact zero16_true hz (by omega); done)
              | (rw [usual_7 (by assumption) (by assumption)]; exact zero16_false (k := k) (by omega) (by omega) (by assumption); done)
              | (rw [usual_89n (by assumption) (by assumption) (by omega) (by assumption)]; done)
              | (rw [usual_89 (by assumption) (by assumption) (by omega) (by assumption)]; done)
              | (rw [usual_11 (by assumption) (by assumption) (by assumption) (by assumption) (by assumption)]; done)
              | (rw [usual_10 (by assumption) (by assumption) (by assumption) (by assumption) (by assumption) (by assumption), huu, usuals_end (by omega), Bool.true_and]; done)
              | (rw [usual_else (by assumption) (by assumption) (by assumption) (by assumption) (by assumption) (by assumption)]; done)
          ·
            have hf144 := of_decide_eq_false hc140
            refine wp_skip ?_
            refine then_normal ?_
            refine go_sp [(4, .v (.bool (((s17.length : Nat) : Int) == 0)))] hW50 hE139 fun a145 hE146 => ?_
            clear hE139
            refine wp_ret ?_
            refine block_ret ?_
            refine then_ret ?_
            refine leave hE146 hW50.cells (v := .bool (((s17.length : Nat) : Int) == 0)) (by kernel_rfl) ?_
            refine ⟨congrArg (fun b_ => Ending.returned (Value.bool b_)) ?_, hW50.step⟩
            first
              | (rw [usual_0 (by assumption)]; simp only [and1]; done)
              | (rw [usual_7 (by assumption) (by assumption)]; exact zero16_true hz (by omega); done)
              | (rw [usual_7 (by assumption) (by assumption)]; exact zero16_false (k := k) (by omega) (by omega) (by assumption); done)
              | (rw [usual_89n (by assumption) (by assumption) (by omega) (by assumption)]; done)
              | (rw [usual_89 (by assumption) (by assumption) (by omega) (by assumption)]; done)
              | (rw [usual_11 (by assumption) (by assumption) (by assumption) (by assumption) (by assumption)]; done)
              | (rw [usual_10 (by assumption) (by assumption) (by assumption) (by assumption) (by assumption) (by assumption), huu, usuals_end (by omega), Bool.true_and]; done)
              | (rw [usual_else (by assumption) (by assumption) (by assumption) (by assumption) (by assumption) (by assumption)]; done)
        ·
          have hf147 : k1 ≠ 9 := by simpa using hc136
          refine go_sp [(2, .p 0 0), (3, .p 1 0), (10, .v (.int .i64 k1)), (48, .v (.bool (k1 == 11)))] hW50 hE135 fun a148 hE149 => ?_
          clear hE135
          refine cond_of hE149 (b := k1 == 11) (by kernel_rfl) (fun hc150 => ?_) (fun hc150 => ?_)
          ·
            have hf151 : k1 = 11 := by simpa using hc150
            refine go_sp [(4, .v (.bool (((l19.length : Nat) : Int) == 0)))] hW50 hE149 fun a152 hE153 => ?_
            clear hE149
            refine wp_ret ?_
            refine block_ret ?_
            refine then_ret ?_
            refine leave hE153 hW50.cells (v := .bool (((l19.length : Nat) : Int) == 0)) (by kernel_rfl) ?_
            refine ⟨congrArg (fun b_ => Ending.returned (Value.bool b_)) ?_, hW50.step⟩
            first
              | (rw [usual_0 (by assumption)]; simp only [and1]; done)
              | (rw [usual_7 (by assumption) (by assumption)]; exact zero16_true hz (by omega); done)
              | (rw [usual_7 (by assumption) (by assumption)]; exact zero16_false (k := k) (by omega) (by omega) (by assumption); done)
              | (rw [usual_89n (by assumption) (by assumption) (by omega) (by assumption)]; done)
              | (rw [usual_89 (by assumption) (by assumption) (by omega) (by assumption)]; done)
              | (rw [usual_11 (by assumption) (by assumption) (by assumption) (by assumption) (by assumption)]; done)
              | (rw [usual_10 (by assumption) (by assumption) (by assumption) (by assumption) (by assumption) (by assumption), huu, usuals_end (by omega), Bool.true_and]; done)
              | (rw [usual_else (by assumption) (by assumption) (by assumption) (by assumption) (by assumption) (by assumption)]; done)
          ·
            have hf154 : k1 ≠ 11 := by simpa using hc150
            refine go_sp [(2, .p 0 0), (3, .p 1 0), (54, .v (.bool (k1 == 10)))] hW50 hE149 fun a155 hE156 => ?_
            clear hE149
            refine cond_of hE156 (b := k1 == 10) (by kernel_rfl) (fun hc157 => ?_) (fun hc157 => ?_)
            ·
              have hf158 : k1 = 10 := by simpa using hc157
              refine wp_seq ?_
              refine go_sp [(2, .p 0 0), (3, .p 1 0), (57, .v (.slice A9 l8.length c10)), (58, .v (.int .i64 ((l8.length : Nat) : Int))), (59, .v (.int .i64 0))] hW50 hE156 fun a159 hE160 => ?_
              clear hE156
              refine wp_block ?_
              refine wp_loop_ghost (fun n_ a_ w_ => ∃ (k : Nat), n_ = l8.length - k ∧ k ≤ l8.length ∧ (usuals l8 (Tree.mk n16 s17 b18 l19 u20) 0 = usuals (l8.drop k) (Tree.mk n16 s17 b18 l19 u20) k) ∧ LInv hW50 91 [⟨b36, 0, [.int .i64 k1, .int .i64 y2, .int .i64 y3, .int .i64 y4, .int .i64 y5, .int .i64 y6, .int .i64 y7, .slice A9 l8.length c10], true⟩, ⟨b44, 0, [.int .i64 n16, .slice A21 s17.length c22, .bool b18, .slice A23 l19.length c24, .slice A25 u20.length c26], true⟩] [] [(2, .p 0 0), (3, .p 1 0), (57, .v (.slice A9 l8.length c10)), (58, .v (.int .i64 ((l8.length : Nat) : Int))), (59, .v (.int .i64 ((k : Nat) : Int)))] a_ w_) (l8.length) ⟨0, by omega, by omega, rfl, hE160.pk, hW50, Fr.refl _ _ _⟩ ?_
              clear hE160
              rintro n161 a162 w163 ⟨k, hn166, hk167, huu, hE164, hW165, hF168⟩
              refine go_sp [(2, .p 0 0), (3, .p 1 0), (57, .v (.slice A9 l8.length c10)), (58, .v (.int .i64 ((l8.length : Nat) : Int))), (59, .v (.int .i64 ((k : Nat) : Int))), (60, .v (.bool (decide (((k : Nat) : Int) < ((l8.length : Nat) : Int)))))] hW165 hE164 fun a169 hE170 => ?_
              clear hE164
              refine wp_seq ?_
              refine cond_of hE170 (b := decide (((k : Nat) : Int) < ((l8.length : Nat) : Int))) (by kernel_rfl) (fun hc171 => ?_) (fun hc171 => ?_)
              ·
                have hf172 := of_decide_eq_true hc171
                refine wp_skip ?_
                refine then_normal ?_
                refine wp_seq ?_
                refine wp_block ?_
                refine go_seq_region [0, 1, 2, 3, 4, 5] (by kernel_rfl) ?_
                refine go_rn [0] [1, 2, 3, 4, 5] [(2, .p 0 0), (3, .p 1 0), (57, .v (.slice A9 l8.length c10)), (58, .v (.int .i64 ((l8.length : Nat) : Int))), (59, .v (.int .i64 ((k : Nat) : Int))), (61, .v (.int .i64 ((k : Nat) : Int)))] hW165 hE170 fun a173 hE174 => ?_
                clear hE170
                obtain ⟨b175, o176, hA177, hl178, hat179⟩ := Slots.get h13 (i := k) (by omega)
                obtain ⟨x180, he181⟩ : ∃ x, l8[k]? = some x := ⟨_, List.getElem?_eq_getElem (by omega)⟩
                have hr182 := h14 k x180 he181
                obtain ⟨k183, y184, y185, y186, y187, y188, y189, l190, A191, c192, xs193, rfl, hcs194, h195, h196⟩ := hr182.open_
                rw [hcs194] at hr182
                have hsm197 := h195.small
                rw [hcs194] at hat179
                refine of_op (wpOp_index hE174 (t := 29) (A := A9) (m := l8.length) (q := ((k : Nat) : Int)) (d := 62) (by kernel_rfl) (e := 51) (size := 8) (bytes := 80) (by kernel_rfl) hA177 rfl (by omega) fun a198 hE199 => ?_)
                clear hE174
                refine of_op (wpOp_load hE199 (t := 51) (b := b175) (o := o176 + k * 8) (d := 63) (by kernel_rfl) (cs := [.int .i64 k183, .int .i64 y184, .int .i64 y185, .int .i64 y186, .int .i64 y187, .int .i64 y188, .int .i64 y189, .slice A191 l190.length c192]) (v := .agg #[.int .i64 k183, .int .i64 y184, .int .i64 y185, .int .i64 y186, .int .i64 y187, .int .i64 y188, .int .i64 y189, .slice A191 l190.length c192]) (by kernel_rfl) (AtF.move hat179 hW165.step nilM keepF).at_ fun a200 hE201 => ?_)
                clear hE199
                refine of_op (wpOp_alloc hW165 hE201 (d := 8) (cs := [.int .i64 0, .int .i64 0, .int .i64 0, .int .i64 0, .int .i64 0, .int .i64 0, .int .i64 0, .slice none 0 0]) (by kernel_rfl) fun b202 a203 w204 hb205 hz206 hF207 hW208 hE209 => ?_)
                clear hE201 hW165
                refine go_rn [4] [5] [(2, .p 0 0), (3, .p 1 0), (7, .v (.int .i64 ((k : Nat) : Int))), (8, .p 2 0), (57, .v (.slice A9 l8.length c10)), (58, .v (.int .i64 ((l8.length : Nat) : Int))), (59, .v (.int .i64 ((k : Nat) : Int))), (63, .v (.agg #[.int .i64 k183, .int .i64 y184, .int .i64 y185, .int .i64 y186, .int .i64 y187, .int .i64 y188, .int .i64 y189, .slice A191 l190.length c192]))] hW208 hE209 fun a210 hE211 => ?_
                clear hE209
                refine of_op (wpOp_store hW208 hE211 (oi := 2) (cs := [.int .i64 k183, .int .i64 y184, .int .i64 y185, .int .i64 y186, .int .i64 y187, .int .i64 y188, .int .i64 y189, .slice A191 l190.length c192]) (by kernel_rfl) fun w212 hF213 hW214 hE215 => ?_)
                clear hE211 hW208
                refine wpOps_nil ?_
                refine then_normal ?_
                refine go_seq_drawK 6 (by kernel_rfl) hW214 fun w216 hF217 hW218 hT219 => ?_
                clear hW214
                refine go_rnD [0, 1, 2] [(2, .p 0 0), (3, .p 1 0), (57, .v (.slice A9 l8.length c10)), (58, .v (.int .i64 ((l8.length : Nat) : Int))), (59, .v (.int .i64 ((k : Nat) : Int))), (64, .v (.agg #[.int .i64 k183, .int .i64 y184, .int .i64 y185, .int .i64 y186, .int .i64 y187, .int .i64 y188, .int .i64 y189, .slice A191 l190.length c192])), (65, .v (.agg #[.int .i64 n16, .slice A21 s17.length c22, .bool b18, .slice A23 l19.length c24, .slice A25 u20.length c26])), (66, .v (.int .i64 ((k : Nat) : Int)))] 3 (panicFree_then (panicFree_block (panicFree_then (panicFree_then (panicFree_block (panicFree_then (panicFree_block (panicFree_then panicFree_body)))))))) (fun _ h => h.cells) hT219 hE215 fun a220 hE221 => ?_
                clear hE215
                refine anyC_op (i := 3) (by kernel_rfl) (wpOp_call hE221 (f := 37) (vs := [.agg #[.int .i64 n16, .slice A21 s17.length c22, .bool b18, .slice A23 l19.length c24, .slice A25 u20.length c26], .int .i64 ((k : Nat) : Int)]) (d := 67) (by kernel_rfl) Tryz.call37 (sAt _ _ k _ _ (ht.move hW218.step nilM hW218.imm)) ?_)
                rintro e_ w225 ⟨cs224, rfl, hr223, hs222⟩
                have hr226 := hr223.move hs222 nilM (fun b o h_ hb_ => hW218.laid (G := F) hs222 b o (.inl h_) (Nat.lt_of_lt_of_le hb_ hs222.size))
                obtain ⟨n227, s228, b229, l230, u231, A232, c233, A234, c235, A236, c237, xs238, ht244, hcs239, h240, h241, h242, h243⟩ := hr226.open_
                rw [hcs239] at hr226
                have hsm245 := h240.small
                have hsm246 := h241.small
                rw [hcs239]
                refine ⟨_, rfl, fun a247 hE248 => ?_⟩
                have hW249 := hW218.next_nil hs222
                have hF250 := hW218.frN hs222
                clear hE221
                have hT251 := TT.ofW hF250 hW249
                refine ⟨fun _ => hT251, ?_⟩
                refine anyC_op (i := 4) (by kernel_rfl) (wpOp_call hE248 (f := 92) (vs := [.agg #[.int .i64 k183, .int .i64 y184, .int .i64 y185, .int .i64 y186, .int .i64 y187, .int .i64 y188, .int .i64 y189, .slice A191 l190.length c192], .agg #[.int .i64 n227, .slice A232 s228.length c233, .bool b229, .slice A234 l230.length c235, .slice A236 u231.length c237]]) (d := 68) (by kernel_rfl) Tryz.call92 ( hu _ _ _ _ _ _ (hr182.move hW249.step nilM hW249.imm) (by have h_ := depths_get he181; rw [depth_mk] at hd; omega) hr226) ?_)
                rintro e_ w253 ⟨rfl, hs252⟩
                refine ⟨_, rfl, fun a254 hE255 => ?_⟩
                have hW256 := hW249.next_nil hs252
                have hF257 := hW249.frN hs252
                clear hE248 hW249
                have hT258 := TT.ofW (Fr.trans hF250 hF257) hW256
                refine ⟨fun _ => hT258, ?_⟩
                refine go_rnD [5] [(2, .p 0 0), (3, .p 1 0), (57, .v (.slice A9 l8.length c10)), (58, .v (.int .i64 ((l8.length : Nat) : Int))), (59, .v (.int .i64 ((k : Nat) : Int))), (69, .v (.bool (!(Fld.usual (Fld.mk k183 y184 y185 y186 y187 y188 y189 l190) (Tree.at_ (Tree.mk n16 s17 b18 l19 u20) k)))))] 0 (panicFree_then (panicFree_block (panicFree_then (panicFree_then (panicFree_block (panicFree_then (panicFree_block (panicFree_then panicFree_body)))))))) (fun _ h => h.cells) hT258 hE255 fun a259 hE260 => ?_
                clear hE255
                refine anyC_done (by kernel_rfl) ?_ _
                refine then_normal ?_
                refine cond_of hE260 (b := !(Fld.usual (Fld.mk k183 y184 y185 y186 y187 y188 y189 l190) (Tree.at_ (Tree.mk n16 s17 b18 l19 u20) k))) (by kernel_rfl) (fun hc261 => ?_) (fun hc261 => ?_)
                ·
                  refine go_sp [(4, .v (.bool false))] hW256 hE260 fun a263 hE264 => ?_
                  clear hE260
                  refine wp_ret ?_
                  refine block_ret ?_
                  refine then_ret ?_
                  refine then_ret ?_
                  refine block_ret ?_
                  refine then_ret ?_
                  refine block_ret ?_
                  refine then_ret ?_
                  refine leave hE264 hW256.cells (v := .bool false) (by kernel_rfl) ?_
                  refine ⟨congrArg (fun b_ => Ending.returned (Value.bool b_)) ?_, hW256.step⟩
                  first
                    | (rw [usual_0 (by assumption)]; simp only [and1]; done)
                    | (rw [usual_7 (by assumption) (by assumption)]; exact zero16_true hz (by omega); done)
                    | (rw [usual_7 (by assumption) (by assumption)]; exact zero16_false (k := k) (by omega) (by omega) (by assumption); done)
                    | (rw [usual_89n (by assumption) (by assumption) (by omega) (by assumption)]; done)
                    | (rw [usual_89 (by assumption) (by assumption) (by omega) (by assumption)]; done)
                    | (rw [usual_11 (by assumption) (by assumption) (by assumption) (by assumption) (by assumption)]; done)
                    | (rw [usual_10 (by assumption) (by assumption) (by assumption) (by assumption) (by assumption) (by assumption), huu, usuals_end (by omega), Bool.true_and]; done)
                    | (rw [usual_else (by assumption) (by assumption) (by assumption) (by assumption) (by assumption) (by assumption)]; done)
                    | (rw [usual_10 (by assumption) (by assumption) (by assumption) (by assumption) (by assumption) (by assumption), huu, usuals_stop he181 (by simpa using hc261), Bool.false_and]; done)
                ·
                  refine wp_skip ?_
                  refine block_normal ?_
                  refine then_normal ?_
                  refine go_region [0, 1] (by kernel_rfl) ?_
                  refine go_rn [0, 1] [] [(2, .p 0 0), (3, .p 1 0), (57, .v (.slice A9 l8.length c10)), (58, .v (.int .i64 ((l8.length : Nat) : Int))), (59, .v (.int .i64 (IntKind.i64.wrap (((k : Nat) : Int) + 1))))] hW256 hE260 fun a266 hE267 => ?_
                  clear hE260
                  refine wpOps_nil ?_
                  refine then_normal ?_
                  obtain ⟨hE268, hW269, hF270⟩ := hW256.cutB hE267 2 [⟨b36, 0, [.int .i64 k1, .int .i64 y2, .int .i64 y3, .int .i64 y4, .int .i64 y5, .int .i64 y6, .int .i64 y7, .slice A9 l8.length c10], true⟩, ⟨b44, 0, [.int .i64 n16, .slice A21 s17.length c22, .bool b18, .slice A23 l19.length c24, .slice A25 u20.length c26], true⟩] [(2, .p 0 0), (3, .p 1 0), (57, .v (.slice A9 l8.length c10)), (58, .v (.int .i64 ((l8.length : Nat) : Int))), (59, .v (.int .i64 (IntKind.i64.wrap (((k : Nat) : Int) + 1))))]
                  have he271 : IntKind.i64.wrap (((k : Nat) : Int) + 1) = ((k + 1 : Nat) : Int) := wrap_succ (by omega)
                  rw [he271] at hE268
                  exact ⟨l8.length - (k + 1), by omega, k + 1, rfl, by omega, by rw [huu]; exact usuals_step he181 (by simpa using hc261), hE268.pk, hW269, (Fr.trans (Fr.trans (Fr.trans (Fr.trans (Fr.trans (Fr.trans hF168 hF207) hF213) hF217) hF250) hF257) hF270)⟩
              ·
                have hf272 := of_decide_eq_false hc171
                refine wp_exit ?_
                refine then_exit ?_
                refine then_exit ?_
                refine block_exit ?_
                refine then_normal ?_
                refine go_seq_region [0, 1, 2, 3, 4, 5, 6, 7] (by kernel_rfl) ?_
                refine go_rn [0, 1, 2, 3] [4, 5, 6, 7] [(72, .v (.slice A9 l8.length c10)), (74, .v (.slice A25 u20.length c26))] hW165 hE170 fun a273 hE274 => ?_
                clear hE170
                refine of_op (wpOp_call hE274 (f := 38) (vs := [.slice A9 l8.length c10, .slice A25 u20.length c26]) (d := 75) (by kernel_rfl) Tryz.call38 (sUnknown _ _ l8 _ _ u20 _ _ ⟨xs11, (h13.move hW165.step nilM hW165.imm), (fun i_ x_ h_ => ((h14 i_ x_ h_).move hW165.step nilM hW165.imm))⟩ (h32.move hW165.step nilM hW165.imm)) ?_)
                rintro e_ w279 ⟨A277, c278, rfl, hr276, hs275⟩
                have hr280 := hr276.move (Step.refl _ Nil) nilM (hW165.laid (G := F) hs275)
                refine ⟨_, rfl, fun a281 hE282 => ?_⟩
                have hW283 := hW165.next_nil hs275
                have hF284 := hW165.frN hs275
                clear hE274
                refine go_rn [5, 6, 7] [] [(4, .v (.bool ((((unknownT l8 u20).length : Nat) : Int) == 0)))] hW283 hE282 fun a285 hE286 => ?_
                clear hE282
                refine wpOps_nil ?_
                refine then_normal ?_
                refine wp_ret ?_
                refine block_ret ?_
                refine then_ret ?_
                refine leave hE286 hW283.cells (v := .bool ((((unknownT l8 u20).length : Nat) : Int) == 0)) (by kernel_rfl) ?_
                refine ⟨congrArg (fun b_ => Ending.returned (Value.bool b_)) ?_, hW283.step⟩
                first
                  | (rw [usual_0 (by assumption)]; simp only [and1]; done)
                  | (rw [usual_7 (by assumption) (by assumption)]; exact zero16_true hz (by omega); done)
                  | (rw [usual_7 (by assumption) (by assumption)]; exact zero16_false (k := k) (by omega) (by omega) (by assumption); done)
                  | (rw [usual_89n (by assumption) (by assumption) (by omega) (by assumption)]; done)
                  | (rw [usual_89 (by assumption) (by assumption) (by omega) (by assumption)]; done)
                  | (rw [usual_11 (by assumption) (by assumption) (by assumption) (by assumption) (by assumption)]; done)
                  | (rw [usual_10 (by assumption) (by assumption) (by assumption) (by assumption) (by assumption) (by assumption), huu, usuals_end (by omega), Bool.true_and]; done)
                  | (rw [usual_else (by assumption) (by assumption) (by assumption) (by assumption) (by assumption) (by assumption)]; done)
            ·
              have hf287 : k1 ≠ 10 := by simpa using hc157
              refine wp_skip ?_
              refine block_normal ?_
              refine then_normal ?_
              refine go_seq_drawK 13 (by kernel_rfl) hW50 fun w288 hF289 hW290 hT291 => ?_
              clear hW50
              refine go_rnD [0, 1, 2, 3, 6, 7, 8, 9] [(79, .v (.int .i64 n16)), (81, .v (.int .i64 k1)), (85, .v (.int .i64 y6)), (87, .v (.int .i64 k1))] 6 (panicFree_then panicFree_body) (fun _ h => h.cells) hT291 hE156 fun a292 hE293 => ?_
              clear hE156
              refine anyC_op (i := 4) (by kernel_rfl) (wpOp_call hE293 (f := 132) (vs := [.int .i64 k1]) (d := 82) (by kernel_rfl) Tryz.call132 (sWidth k1 _) ?_)
              rintro e_ w295 ⟨rfl, hs294⟩
              refine ⟨_, rfl, fun a296 hE297 => ?_⟩
              have hW298 := hW290.next_nil hs294
              have hF299 := hW290.frN hs294
              clear hE293
              have hT300 := TT.ofW hF299 hW298
              refine ⟨fun _ => hT300, ?_⟩
              refine anyC_op (i := 5) (by kernel_rfl) (wpOp_call hE297 (f := 131) (vs := [.int .i64 n16, .int .i64 ((widthI k1 : Nat) : Int)]) (d := 83) (by kernel_rfl) Tryz.call131 (sFixed n16 (widthI k1) (by first | decide | exact widthI_le _ | omega) _) ?_)
              rintro e_ w305 ⟨A303, c304, rfl, ho302, hs301⟩
              refine ⟨_, rfl, fun a306 hE307 => ?_⟩
              obtain ⟨hW308, hF309⟩ := hW298.frFresh hs301 (brow A303 c304 5 (be (widthI k1) n16)) (Nat.le_refl _) ho302
              clear hE297 hW298
              have hT310 := TT.ofW (Fr.trans hF299 hF309) hW308
              refine ⟨fun _ => hT310, ?_⟩
              refine anyC_op (i := 10) (by kernel_rfl) (wpOp_call hE307 (f := 132) (vs := [.int .i64 k1]) (d := 88) (by kernel_rfl) Tryz.call132 (sWidth k1 _) ?_)
              rintro e_ w312 ⟨rfl, hs311⟩
              refine ⟨_, rfl, fun a313 hE314 => ?_⟩
              have hW315 := hW308.next_nil hs311
              have hF316 := hW308.frN hs311
              clear hE307 hW308
              have hT317 := TT.ofW (Fr.trans (Fr.trans hF299 hF309) hF316) hW315
              refine ⟨fun _ => hT317, ?_⟩
              refine anyC_op (i := 11) (by kernel_rfl) (wpOp_call hE314 (f := 131) (vs := [.int .i64 y6, .int .i64 ((widthI k1 : Nat) : Int)]) (d := 89) (by kernel_rfl) Tryz.call131 (sFixed y6 (widthI k1) (by first | decide | exact widthI_le _ | omega) _) ?_)
              rintro e_ w322 ⟨A320, c321, rfl, ho319, hs318⟩
              refine ⟨_, rfl, fun a323 hE324 => ?_⟩
              obtain ⟨hW325, hF326⟩ := hW315.frFresh hs318 (brow A320 c321 5 (be (widthI k1) y6)) (Nat.le_refl _) ho319
              clear hE314 hW315
              have hT327 := TT.ofW (Fr.trans (Fr.trans (Fr.trans hF299 hF309) hF316) hF326) hW325
              refine ⟨fun _ => hT327, ?_⟩
              refine anyC_op (i := 12) (by kernel_rfl) (wpOp_call hE324 (f := 12) (vs := [.slice A303 ((be (widthI k1) n16).length) c304, .slice A320 ((be (widthI k1) y6).length) c321]) (d := 90) (by kernel_rfl) Tryz.call12 (sSame _ _ _ _ (be (widthI k1) n16) (be (widthI k1) y6) _ _ (octs_own (hW325.own 0 _ rfl) (by first | omega | (simp only [be_length]; exact Nat.le_trans (widthI_le _) (by decide)) | (have := hroom; omega) | (have := hmade; omega)) (F := fun _ _ => True) (fun _ _ _ => trivial)) (octs_own (hW325.own 1 _ rfl) (by first | omega | (simp only [be_length]; exact Nat.le_trans (widthI_le _) (by decide)) | (have := hroom; omega) | (have := hmade; omega)) (F := fun _ _ => True) (fun _ _ _ => trivial))) ?_)
              rintro e_ w329 ⟨rfl, hs328⟩
              refine ⟨_, rfl, fun a330 hE331 => ?_⟩
              have hW332 := hW325.next_nil hs328
              have hF333 := hW325.frN hs328
              clear hE324 hW325
              have hT334 := TT.ofW (Fr.trans (Fr.trans (Fr.trans (Fr.trans hF299 hF309) hF316) hF326) hF333) hW332
              refine ⟨fun _ => hT334, ?_⟩
              refine anyC_op (i := 13) (by kernel_rfl) (wpOp_pure [4] hW332.cells hE331 (env' := [(4, .v (.bool (decide (be (widthI k1) n16 = be (widthI k1) y6))))]) (by kernel_rfl) fun a335 hE336 => ?_)
              clear hE331
              refine ⟨fun h => absurd rfl h, ?_⟩
              refine anyC_done (by kernel_rfl) ?_ _
              refine then_normal ?_
              refine wp_ret ?_
              refine leave hE336 hW332.cells (v := .bool (decide (be (widthI k1) n16 = be (widthI k1) y6))) (by kernel_rfl) ?_
              refine ⟨congrArg (fun b_ => Ending.returned (Value.bool b_)) ?_, hW332.step⟩
              first
                | (rw [usual_0 (by assumption)]; simp only [and1]; done)
                | (rw [usual_7 (by assumption) (by assumption)]; exact zero16_true hz (by omega); done)
                | (rw [usual_7 (by assumption) (by assumption)]; exact zero16_false (k := k) (by omega) (by omega) (by assumption); done)
                | (rw [usual_89n (by assumption) (by assumption) (by omega) (by assumption)]; done)
                | (rw [usual_89 (by assumption) (by assumption) (by omega) (by assumption)]; done)
                | (rw [usual_11 (by assumption) (by assumption) (by assumption) (by assumption) (by assumption)]; done)
                | (rw [usual_10 (by assumption) (by assumption) (by assumption) (by assumption) (by assumption) (by assumption), huu, usuals_end (by omega), Bool.true_and]; done)
                | (rw [usual_else (by assumption) (by assumption) (by assumption) (by assumption) (by assumption) (by assumption)]; done)

theorem sUsual : ∀ d, UsualOK d
  | 0 => fun cf f ct t w F hf hd ht => by
    obtain ⟨k, x1, x2, x3, x4, x5, x6, l, A, c, xs, rfl, _⟩ := hf.open_
    rw [depth_mk] at hd; omega
  | d + 1 => sUsual_step (sUsual d)

end Go.Proofs.YtbjopfcbpobnpaaGreat.ME

/- Contracts: printed by tools/sp.py. Own work. -/
namespace Go.Proofs.YtbjopfcbpobnpaaGreat.ME
open Go
set_option linter.unusedVariables false
set_option linter.unusedSimpArgs false
set_option maxRecDepth 20000

theorem sPart (W : Fld → Tree → Bs) (A : Option Addr) (c : Nat) (l : List Fld) (v : Int) (flex : Bool) (ct : List Value) (t : Tree) (w : World) (F : Nat → Nat → Prop) (hW_ : ∀ cf f ct t w F, f ∈ l → FldR w F cf f → TreeR w F ct t → (W f t).length ≤ 1099511627776 → Calls Tryz.prog 91 #[.agg cf.toArray, .int .i64 v, .bool flex, .agg ct.toArray] w (FreshB w 5 (W f t))) (hl : FldsR w F A c l) (ht : TreeR w F ct t) (hroom : (partW W l v flex t).length ≤ 1099511627776) :
    Calls Tryz.prog 40 #[.slice A l.length c, .int .i64 v, .bool flex, .agg ct.toArray] w (FreshB w 5 (partW W l v flex t)) := by
  obtain ⟨xfs, h1, h2⟩ := hl.ex
  have hsm := h1.small
  obtain ⟨n1, s2, b3, l4, u5, A6, c7, A8, c9, A10, c11, xs12, rfl, rfl, h14, h15, h16, h17⟩ := ht.open_
  have hsm19 := h14.small
  have hsm20 := h15.small
  have hkr := known_range l
  refine enter (n := 132) Tryz.func40 rfl Tryz.ntmps40 (by kernel_rfl) fun a hE => ?_
  have hW := WOk.start w Nil
  refine go_seq_region [0, 1] (by kernel_rfl) ?_
  refine of_op (wpOp_box hW hE (d := 7) (cs := [.int .i64 n1, .slice A6 s2.length c7, .bool b3, .slice A8 l4.length c9, .slice A10 u5.length c11]) (by kernel_rfl) fun b21 a22 w23 hb24 hz25 hF26 hW27 hE28 => ?_)
  clear hE hW
  refine go_rn [1] [] [(0, .v (.slice A l.length c)), (1, .v (.int .i64 v)), (2, .v (.bool flex)), (7, .p 0 0)] hW27 hE28 fun a29 hE30 => ?_
  clear hE28
  refine wpOps_nil ?_
  refine then_normal ?_
  refine go_sp [(0, .v (.slice A l.length c)), (1, .v (.int .i64 v)), (2, .v (.bool flex)), (7, .p 0 0), (9, .v (.slice none 0 0)), (10, .v (.slice none 0 0))] hW27 hE30 fun a31 hE32 => ?_
  clear hE30
  refine go_sp [(0, .v (.slice A l.length c)), (1, .v (.int .i64 v)), (2, .v (.bool flex)), (7, .p 0 0), (9, .v (.slice none 0 0)), (10, .v (.slice none 0 0)), (11, .v (.int .i64 0))] hW27 hE32 fun a33 hE34 => ?_
  clear hE32
  refine wp_seq ?_
  refine go_sp [(0, .v (.slice A l.length c)), (1, .v (.int .i64 v)), (2, .v (.bool flex)), (7, .p 0 0), (9, .v (.slice none 0 0)), (10, .v (.slice none 0 0)), (11, .v (.int .i64 0)), (21, .v (.slice A l.length c)), (22, .v (.int .i64 ((l.length : Nat) : Int))), (23, .v (.int .i64 0))] hW27 hE34 fun a35 hE36 => ?_
  clear hE34
  refine wp_block ?_
  have hW37 := hW27.addNil 5 1
  have hF38 := hW27.frNil 5 1
  clear hW27
  have htot : (bodyB W l v (Tree.mk n1 s2 b3 l4 u5) 0).length ≤ 1099511627776 := by have h_ := hroom; rw [partW, List.length_append] at h_; omega
  refine wp_loop_ghost (fun n_ a_ w_ => ∃ (k : Nat) (A_ : Option Addr) (c_ : Nat) (dn : Bs), n_ = l.length - k ∧ k ≤ l.length ∧ (dn ++ bodyB W (l.drop k) v (Tree.mk n1 s2 b3 l4 u5) k = bodyB W l v (Tree.mk n1 s2 b3 l4 u5) 0) ∧ LInv hW37 132 [⟨b21, 0, [.int .i64 n1, .slice A6 s2.length c7, .bool b3, .slice A8 l4.length c9, .slice A10 u5.length c11], true⟩] [brow A_ c_ 5 dn] [(0, .v (.slice A l.length c)), (1, .v (.int .i64 v)), (2, .v (.bool flex)), (7, .p 0 0), (9, .v (.slice A_ dn.length c_)), (10, .v (.slice none 0 0)), (11, .v (.int .i64 0)), (21, .v (.slice A l.length c)), (22, .v (.int .i64 ((l.length : Nat) : Int))), (23, .v (.int .i64 ((k : Nat) : Int)))] a_ w_) (l.length) ⟨0, none, 0, [], by omega, by omega, rfl, hE36.pk, hW37, Fr.refl _ _ _⟩ ?_
  clear hE36
  rintro n39 a40 w41 ⟨k, A_, c_, dn, hn44, hk45, hB, hE42, hW43, hF46⟩
  refine go_sp [(0, .v (.slice A l.length c)), (1, .v (.int .i64 v)), (2, .v (.bool flex)), (7, .p 0 0), (9, .v (.slice A_ dn.length c_)), (10, .v (.slice none 0 0)), (11, .v (.int .i64 0)), (21, .v (.slice A l.length c)), (22, .v (.int .i64 ((l.length : Nat) : Int))), (23, .v (.int .i64 ((k : Nat) : Int))), (24, .v (.bool (decide (((k : Nat) : Int) < ((l.length : Nat) : Int)))))] hW43 hE42 fun a47 hE48 => ?_
  clear hE42
  refine wp_seq ?_
  refine cond_of hE48 (b := decide (((k : Nat) : Int) < ((l.length : Nat) : Int))) (by kernel_rfl) (fun hc49 => ?_) (fun hc49 => ?_)
  ·
    have hf50 := of_decide_eq_true hc49
    refine wp_skip ?_
    refine then_normal ?_
    refine wp_seq ?_
    refine wp_block ?_
    refine go_seq_region [0, 1, 2, 3, 4, 5] (by kernel_rfl) ?_
    refine go_rn [0] [1, 2, 3, 4, 5] [(0, .v (.slice A l.length c)), (1, .v (.int .i64 v)), (2, .v (.bool flex)), (7, .p 0 0), (9, .v (.slice A_ dn.length c_)), (10, .v (.slice none 0 0)), (11, .v (.int .i64 0)), (21, .v (.slice A l.length c)), (22, .v (.int .i64 ((l.length : Nat) : Int))), (23, .v (.int .i64 ((k : Nat) : Int))), (25, .v (.int .i64 ((k : Nat) : Int)))] hW43 hE48 fun a51 hE52 => ?_
    clear hE48
    obtain ⟨b53, o54, hA55, hl56, hat57⟩ := Slots.get h1 (i := k) (by omega)
    obtain ⟨x58, he59⟩ : ∃ x, l[k]? = some x := ⟨_, List.getElem?_eq_getElem (by omega)⟩
    have hr60 := h2 k x58 he59
    obtain ⟨k61, y62, y63, y64, y65, y66, y67, l68, A69, c70, xs71, rfl, hcs72, h73, h74⟩ := hr60.open_
    rw [hcs72] at hr60
    have hsm75 := h73.small
    rw [hcs72] at hat57
    refine of_op (wpOp_index hE52 (t := 29) (A := A) (m := l.length) (q := ((k : Nat) : Int)) (d := 26) (by kernel_rfl) (e := 51) (size := 8) (bytes := 80) (by kernel_rfl) hA55 rfl (by omega) fun a76 hE77 => ?_)
    clear hE52
    refine of_op (wpOp_load hE77 (t := 51) (b := b53) (o := o54 + k * 8) (d := 27) (by kernel_rfl) (cs := [.int .i64 k61, .int .i64 y62, .int .i64 y63, .int .i64 y64, .int .i64 y65, .int .i64 y66, .int .i64 y67, .slice A69 l68.length c70]) (v := .agg #[.int .i64 k61, .int .i64 y62, .int .i64 y63, .int .i64 y64, .int .i64 y65, .int .i64 y66, .int .i64 y67, .slice A69 l68.length c70]) (by kernel_rfl) (AtF.move hat57 hW43.step nilM keepF).at_ fun a78 hE79 => ?_)
    clear hE77
    refine of_op (wpOp_alloc hW43 hE79 (d := 13) (cs := [.int .i64 0, .int .i64 0, .int .i64 0, .int .i64 0, .int .i64 0, .int .i64 0, .int .i64 0, .slice none 0 0]) (by kernel_rfl) fun b80 a81 w82 hb83 hz84 hF85 hW86 hE87 => ?_)
    clear hE79 hW43
    refine go_rn [4] [5] [(0, .v (.slice A l.length c)), (1, .v (.int .i64 v)), (2, .v (.bool flex)), (7, .p 0 0), (9, .v (.slice A_ dn.length c_)), (10, .v (.slice none 0 0)), (11, .v (.int .i64 0)), (12, .v (.int .i64 ((k : Nat) : Int))), (13, .p 1 0), (21, .v (.slice A l.length c)), (22, .v (.int .i64 ((l.length : Nat) : Int))), (23, .v (.int .i64 ((k : Nat) : Int))), (27, .v (.agg #[.int .i64 k61, .int .i64 y62, .int .i64 y63, .int .i64 y64, .int .i64 y65, .int .i64 y66, .int .i64 y67, .slice A69 l68.length c70]))] hW86 hE87 fun a88 hE89 => ?_
    clear hE87
    refine of_op (wpOp_store hW86 hE89 (oi := 1) (cs := [.int .i64 k61, .int .i64 y62, .int .i64 y63, .int .i64 y64, .int .i64 y65, .int .i64 y66, .int .i64 y67, .slice A69 l68.length c70]) (by kernel_rfl) fun w90 hF91 hW92 hE93 => ?_)
    clear hE89 hW86
    refine wpOps_nil ?_
    refine then_normal ?_
    refine go_seq_region [0, 1, 2, 3, 4, 5, 6, 7] (by kernel_rfl) ?_
    refine go_rn [0, 1, 2, 3] [4, 5, 6, 7] [(0, .v (.slice A l.length c)), (1, .v (.int .i64 v)), (2, .v (.bool flex)), (7, .p 0 0), (9, .v (.slice A_ dn.length c_)), (10, .v (.slice none 0 0)), (11, .v (.int .i64 0)), (12, .v (.int .i64 ((k : Nat) : Int))), (13, .p 1 0), (21, .v (.slice A l.length c)), (22, .v (.int .i64 ((l.length : Nat) : Int))), (23, .v (.int .i64 ((k : Nat) : Int))), (31, .v (.bool (decide (y65 < 0))))] hW92 hE93 fun a94 hE95 => ?_
    clear hE93
    refine (Bool.eq_false_or_eq_true (decide (y65 < 0))).elim (fun hc96 => ?_) (fun hc96 => ?_)
    ·
      have hf97 := of_decide_eq_true hc96
      have hE98 := hE95.cast (env' := [(0, .v (.slice A l.length c)), (1, .v (.int .i64 v)), (2, .v (.bool flex)), (7, .p 0 0), (9, .v (.slice A_ dn.length c_)), (10, .v (.slice none 0 0)), (11, .v (.int .i64 0)), (12, .v (.int .i64 ((k : Nat) : Int))), (13, .p 1 0), (21, .v (.slice A l.length c)), (22, .v (.int .i64 ((l.length : Nat) : Int))), (23, .v (.int .i64 ((k : Nat) : Int))), (31, .v (.bool true))]) (by rw [hc96])
      clear hE95
      refine go_rn [4, 5] [6, 7] [(0, .v (.slice A l.length c)), (1, .v (.int .i64 v)), (2, .v (.bool flex)), (7, .p 0 0), (9, .v (.slice A_ dn.length c_)), (10, .v (.slice none 0 0)), (11, .v (.int .i64 0)), (12, .v (.int .i64 ((k : Nat) : Int))), (13, .p 1 0), (21, .v (.slice A l.length c)), (22, .v (.int .i64 ((l.length : Nat) : Int))), (23, .v (.int .i64 ((k : Nat) : Int))), (31, .v (.bool true)), (32, .v (.agg #[.int .i64 k61, .int .i64 y62, .int .i64 y63, .int .i64 y64, .int .i64 y65, .int .i64 y66, .int .i64 y67, .slice A69 l68.length c70])), (33, .v (.int .i64 v))] hW92 hE98 fun a99 hE100 => ?_
      clear hE98
      refine of_op (wpOp_call hE100 (f := 90) (vs := [.agg #[.int .i64 k61, .int .i64 y62, .int .i64 y63, .int .i64 y64, .int .i64 y65, .int .i64 y66, .int .i64 y67, .slice A69 l68.length c70], .int .i64 v]) (d := 34) (by kernel_rfl) Tryz.call90 (sHas k61 y62 y63 y64 y65 y66 y67 l68 _ _ v _) ?_)
      rintro e_ w102 ⟨rfl, hs101⟩
      refine ⟨_, rfl, fun a103 hE104 => ?_⟩
      have hW105 := hW92.next_nil hs101
      have hF106 := hW92.frN hs101
      clear hE100 hW92
      refine go_rn [7] [] [(0, .v (.slice A l.length c)), (1, .v (.int .i64 v)), (2, .v (.bool flex)), (7, .p 0 0), (9, .v (.slice A_ dn.length c_)), (10, .v (.slice none 0 0)), (11, .v (.int .i64 0)), (12, .v (.int .i64 ((k : Nat) : Int))), (13, .p 1 0), (21, .v (.slice A l.length c)), (22, .v (.int .i64 ((l.length : Nat) : Int))), (23, .v (.int .i64 ((k : Nat) : Int))), (35, .v (.bool (Fld.has (Fld.mk k61 y62 y63 y64 y65 y66 y67 l68) v)))] hW105 hE104 fun a107 hE108 => ?_
      clear hE104
      refine wpOps_nil ?_
      refine then_normal ?_
      refine cond_of hE108 (b := Fld.has (Fld.mk k61 y62 y63 y64 y65 y66 y67 l68) v) (by kernel_rfl) (fun hc109 => ?_) (fun hc109 => ?_)
      ·
        refine go_drawK 9 (by kernel_rfl) hW105 fun w111 hF112 hW113 hT114 => ?_
        clear hW105
        refine go_rnD [0, 1, 2, 3, 4, 5] [(0, .v (.slice A l.length c)), (1, .v (.int .i64 v)), (2, .v (.bool flex)), (7, .p 0 0), (9, .v (.slice A_ dn.length c_)), (10, .v (.slice none 0 0)), (11, .v (.int .i64 0)), (21, .v (.slice A l.length c)), (22, .v (.int .i64 ((l.length : Nat) : Int))), (23, .v (.int .i64 ((k : Nat) : Int))), (36, .v (.slice A_ dn.length c_)), (37, .v (.agg #[.int .i64 k61, .int .i64 y62, .int .i64 y63, .int .i64 y64, .int .i64 y65, .int .i64 y66, .int .i64 y67, .slice A69 l68.length c70])), (38, .v (.int .i64 v)), (39, .v (.bool flex)), (40, .v (.agg #[.int .i64 n1, .slice A6 s2.length c7, .bool b3, .slice A8 l4.length c9, .slice A10 u5.length c11])), (41, .v (.int .i64 ((k : Nat) : Int)))] 4 (panicFree_block (panicFree_then (panicFree_then (panicFree_block (panicFree_then panicFree_body))))) (fun _ h => h.cells) hT114 hE108 fun a115 hE116 => ?_
        clear hE108
        refine anyC_op (i := 6) (by kernel_rfl) (wpOp_call hE116 (f := 37) (vs := [.agg #[.int .i64 n1, .slice A6 s2.length c7, .bool b3, .slice A8 l4.length c9, .slice A10 u5.length c11], .int .i64 ((k : Nat) : Int)]) (d := 42) (by kernel_rfl) Tryz.call37 (sAt _ _ k _ _ (ht.move hW113.step nilM hW113.imm)) ?_)
        rintro e_ w120 ⟨cs119, rfl, hr118, hs117⟩
        have hr121 := hr118.move hs117 nilM (fun b o h_ hb_ => hW113.laid (G := F) hs117 b o (.inl h_) (Nat.lt_of_lt_of_le hb_ hs117.size))
        obtain ⟨n122, s123, b124, l125, u126, A127, c128, A129, c130, A131, c132, xs133, ht139, hcs134, h135, h136, h137, h138⟩ := hr121.open_
        rw [hcs134] at hr121
        have hsm140 := h135.small
        have hsm141 := h136.small
        rw [hcs134]
        refine ⟨_, rfl, fun a142 hE143 => ?_⟩
        have hW144 := hW113.next_nil hs117
        have hF145 := hW113.frN hs117
        clear hE116
        have hT146 := TT.ofW hF145 hW144
        refine ⟨fun _ => hT146, ?_⟩
        refine anyC_op (i := 7) (by kernel_rfl) (wpOp_call hE143 (f := 91) (vs := [.agg #[.int .i64 k61, .int .i64 y62, .int .i64 y63, .int .i64 y64, .int .i64 y65, .int .i64 y66, .int .i64 y67, .slice A69 l68.length c70], .int .i64 v, .bool flex, .agg #[.int .i64 n122, .slice A127 s123.length c128, .bool b124, .slice A129 l125.length c130, .slice A131 u126.length c132]]) (d := 43) (by kernel_rfl) Tryz.call91 ( hW_ _ _ _ _ _ _ (List.mem_of_getElem? he59) (hr60.move hW144.step nilM hW144.imm) hr121 (by have h_ := congrArg List.length hB; rw [bodyB_pos he59 (by assumption) (by assumption)] at h_; simp only [List.length_append] at h_; omega)) ?_)
        rintro e_ w151 ⟨A149, c150, rfl, ho148, hs147⟩
        refine ⟨_, rfl, fun a152 hE153 => ?_⟩
        obtain ⟨hW154, hF155⟩ := hW144.frFresh hs147 (brow A149 c150 5 (W (Fld.mk k61 y62 y63 y64 y65 y66 y67 l68) (Tree.at_ (Tree.mk n1 s2 b3 l4 u5) k))) (Nat.le_refl _) ho148
        clear hE143 hW144
        have hlw156 : (W (Fld.mk k61 y62 y63 y64 y65 y66 y67 l68) (Tree.at_ (Tree.mk n1 s2 b3 l4 u5) k)).length ≤ 1099511627776 := by have h_ := congrArg List.length hB; rw [bodyB_pos he59 (by assumption) (by assumption)] at h_; simp only [List.length_append] at h_; omega
        have hT157 := TT.ofW (Fr.trans hF145 hF155) hW154
        refine ⟨fun _ => hT157, ?_⟩
        refine anyC_op (i := 8) (by kernel_rfl) (wpOp_append hW154 hE153 (k := 0) (d := 44) (t := 22) (e := 5) (size := 1) (bytes := 1) (A := A_) (As := A149) (m0 := dn.length) (c := c_) (m := ((W (Fld.mk k61 y62 y63 y64 y65 y66 y67 l68) (Tree.at_ (Tree.mk n1 s2 b3 l4 u5) k)).length)) (cs := c150) (xs := (bc dn)) (news := bc (W (Fld.mk k61 y62 y63 y64 y65 y66 y67 l68) (Tree.at_ (Tree.mk n1 s2 b3 l4 u5) k))) (by kernel_rfl) (by kernel_rfl) rfl (own_src (hW154.own 1 _ rfl) (bc_one _)) (own_cap (hW154.own 1 _ rfl)) (by have h_ := congrArg List.length hB; rw [bodyB_pos he59 (by assumption) (by assumption)] at h_; simp only [List.length_append] at h_ ⊢; omega) fun A158 c159 a160 w161 hF162 hW163 hE164 => ?_)
        clear hE153 hW154
        have er165 : (⟨A158, c159, 5, 1, dn.length + (W (Fld.mk k61 y62 y63 y64 y65 y66 y67 l68) (Tree.at_ (Tree.mk n1 s2 b3 l4 u5) k)).length, bc dn ++ bc (W (Fld.mk k61 y62 y63 y64 y65 y66 y67 l68) (Tree.at_ (Tree.mk n1 s2 b3 l4 u5) k))⟩ : Rw) = brow A158 c159 5 (dn ++ (W (Fld.mk k61 y62 y63 y64 y65 y66 y67 l68) (Tree.at_ (Tree.mk n1 s2 b3 l4 u5) k))) := brow_eq (rfl) rfl
        obtain ⟨hW166, hF168⟩ := hW163.rowEq 0 [brow A158 c159 5 (dn ++ (W (Fld.mk k61 y62 y63 y64 y65 y66 y67 l68) (Tree.at_ (Tree.mk n1 s2 b3 l4 u5) k))), brow A149 c150 5 (W (Fld.mk k61 y62 y63 y64 y65 y66 y67 l68) (Tree.at_ (Tree.mk n1 s2 b3 l4 u5) k))] er165
        clear hW163
        have hE169 := EnvOk.pick hE164 (ks := [0, 1, 2, 7, 9, 10, 11, 21, 22, 23, 36, 37, 38, 39, 40, 41, 42, 43, 44]) (env' := [(0, .v (.slice A l.length c)), (1, .v (.int .i64 v)), (2, .v (.bool flex)), (7, .p 0 0), (9, .v (.slice A_ dn.length c_)), (10, .v (.slice none 0 0)), (11, .v (.int .i64 0)), (21, .v (.slice A l.length c)), (22, .v (.int .i64 ((l.length : Nat) : Int))), (23, .v (.int .i64 ((k : Nat) : Int))), (36, .v (.slice A_ dn.length c_)), (37, .v (.agg #[.int .i64 k61, .int .i64 y62, .int .i64 y63, .int .i64 y64, .int .i64 y65, .int .i64 y66, .int .i64 y67, .slice A69 l68.length c70])), (38, .v (.int .i64 v)), (39, .v (.bool flex)), (40, .v (.agg #[.int .i64 n1, .slice A6 s2.length c7, .bool b3, .slice A8 l4.length c9, .slice A10 u5.length c11])), (41, .v (.int .i64 ((k : Nat) : Int))), (42, .v (.agg #[.int .i64 n122, .slice A127 s123.length c128, .bool b124, .slice A129 l125.length c130, .slice A131 u126.length c132])), (43, .v (.slice A149 ((W (Fld.mk k61 y62 y63 y64 y65 y66 y67 l68) (Tree.at_ (Tree.mk n1 s2 b3 l4 u5) k)).length) c150)), (44, .v (.slice A158 (dn.length + (W (Fld.mk k61 y62 y63 y64 y65 y66 y67 l68) (Tree.at_ (Tree.mk n1 s2 b3 l4 u5) k)).length) c159))]) (by kernel_rfl)
        have hE167 := hE169.cast (env' := [(0, .v (.slice A l.length c)), (1, .v (.int .i64 v)), (2, .v (.bool flex)), (7, .p 0 0), (9, .v (.slice A_ dn.length c_)), (10, .v (.slice none 0 0)), (11, .v (.int .i64 0)), (21, .v (.slice A l.length c)), (22, .v (.int .i64 ((l.length : Nat) : Int))), (23, .v (.int .i64 ((k : Nat) : Int))), (36, .v (.slice A_ dn.length c_)), (37, .v (.agg #[.int .i64 k61, .int .i64 y62, .int .i64 y63, .int .i64 y64, .int .i64 y65, .int .i64 y66, .int .i64 y67, .slice A69 l68.length c70])), (38, .v (.int .i64 v)), (39, .v (.bool flex)), (40, .v (.agg #[.int .i64 n1, .slice A6 s2.length c7, .bool b3, .slice A8 l4.length c9, .slice A10 u5.length c11])), (41, .v (.int .i64 ((k : Nat) : Int))), (42, .v (.agg #[.int .i64 n122, .slice A127 s123.length c128, .bool b124, .slice A129 l125.length c130, .slice A131 u126.length c132])), (43, .v (.slice A149 ((W (Fld.mk k61 y62 y63 y64 y65 y66 y67 l68) (Tree.at_ (Tree.mk n1 s2 b3 l4 u5) k)).length) c150)), (44, .v (.slice A158 ((dn ++ (W (Fld.mk k61 y62 y63 y64 y65 y66 y67 l68) (Tree.at_ (Tree.mk n1 s2 b3 l4 u5) k))).length) c159))]) (by simp only [List.length_append, List.length_cons, List.length_nil, Nat.zero_add])
        clear hE164
        clear hE169
        have hT170 := TT.ofW (Fr.trans (Fr.trans (Fr.trans hF145 hF155) hF162) hF168) hW166
        refine ⟨fun _ => hT170, ?_⟩
        refine anyC_op (i := 9) (by kernel_rfl) (wpOp_pure [0, 1, 2, 7, 9, 10, 11, 21, 22, 23] hW166.cells hE167 (env' := [(0, .v (.slice A l.length c)), (1, .v (.int .i64 v)), (2, .v (.bool flex)), (7, .p 0 0), (9, .v (.slice A158 ((dn ++ (W (Fld.mk k61 y62 y63 y64 y65 y66 y67 l68) (Tree.at_ (Tree.mk n1 s2 b3 l4 u5) k))).length) c159)), (10, .v (.slice none 0 0)), (11, .v (.int .i64 0)), (21, .v (.slice A l.length c)), (22, .v (.int .i64 ((l.length : Nat) : Int))), (23, .v (.int .i64 ((k : Nat) : Int)))]) (by kernel_rfl) fun a171 hE172 => ?_)
        clear hE167
        refine ⟨fun h => absurd rfl h, ?_⟩
        refine anyC_done (by kernel_rfl) ?_ _
        refine block_normal ?_
        refine then_normal ?_
        refine go_region [0, 1] (by kernel_rfl) ?_
        refine go_rn [0, 1] [] [(0, .v (.slice A l.length c)), (1, .v (.int .i64 v)), (2, .v (.bool flex)), (7, .p 0 0), (9, .v (.slice A158 ((dn ++ (W (Fld.mk k61 y62 y63 y64 y65 y66 y67 l68) (Tree.at_ (Tree.mk n1 s2 b3 l4 u5) k))).length) c159)), (10, .v (.slice none 0 0)), (11, .v (.int .i64 0)), (21, .v (.slice A l.length c)), (22, .v (.int .i64 ((l.length : Nat) : Int))), (23, .v (.int .i64 (IntKind.i64.wrap (((k : Nat) : Int) + 1))))] hW166 hE172 fun a173 hE174 => ?_
        clear hE172
        refine wpOps_nil ?_
        refine then_normal ?_
        obtain ⟨hE175, hW176, hF177⟩ := hW166.cutB hE174 1 [⟨b21, 0, [.int .i64 n1, .slice A6 s2.length c7, .bool b3, .slice A8 l4.length c9, .slice A10 u5.length c11], true⟩] [(0, .v (.slice A l.length c)), (1, .v (.int .i64 v)), (2, .v (.bool flex)), (7, .p 0 0), (9, .v (.slice A158 ((dn ++ (W (Fld.mk k61 y62 y63 y64 y65 y66 y67 l68) (Tree.at_ (Tree.mk n1 s2 b3 l4 u5) k))).length) c159)), (10, .v (.slice none 0 0)), (11, .v (.int .i64 0)), (21, .v (.slice A l.length c)), (22, .v (.int .i64 ((l.length : Nat) : Int))), (23, .v (.int .i64 (IntKind.i64.wrap (((k : Nat) : Int) + 1))))]
        obtain ⟨hW178, hF179⟩ := hW176.cutR 1 [brow A158 c159 5 (dn ++ (W (Fld.mk k61 y62 y63 y64 y65 y66 y67 l68) (Tree.at_ (Tree.mk n1 s2 b3 l4 u5) k)))]
        have he180 : IntKind.i64.wrap (((k : Nat) : Int) + 1) = ((k + 1 : Nat) : Int) := wrap_succ (by omega)
        rw [he180] at hE175
        exact ⟨l.length - (k + 1), by omega, k + 1, A158, c159, dn ++ (W (Fld.mk k61 y62 y63 y64 y65 y66 y67 l68) (Tree.at_ (Tree.mk n1 s2 b3 l4 u5) k)), rfl, by omega, by rw [List.append_assoc, ← bodyB_pos he59 (by assumption) (by assumption)]; exact hB, hE175.pk, hW178, (Fr.trans (Fr.trans (Fr.trans (Fr.trans (Fr.trans (Fr.trans (Fr.trans (Fr.trans (Fr.trans (Fr.trans hF46 hF85) hF91) hF106) hF112) hF145) hF155) hF162) hF168) hF177) hF179)⟩
      ·
        refine wp_skip ?_
        refine block_normal ?_
        refine then_normal ?_
        refine go_region [0, 1] (by kernel_rfl) ?_
        refine go_rn [0, 1] [] [(0, .v (.slice A l.length c)), (1, .v (.int .i64 v)), (2, .v (.bool flex)), (7, .p 0 0), (9, .v (.slice A_ dn.length c_)), (10, .v (.slice none 0 0)), (11, .v (.int .i64 0)), (21, .v (.slice A l.length c)), (22, .v (.int .i64 ((l.length : Nat) : Int))), (23, .v (.int .i64 (IntKind.i64.wrap (((k : Nat) : Int) + 1))))] hW105 hE108 fun a182 hE183 => ?_
        clear hE108
        refine wpOps_nil ?_
        refine then_normal ?_
        obtain ⟨hE184, hW185, hF186⟩ := hW105.cutB hE183 1 [⟨b21, 0, [.int .i64 n1, .slice A6 s2.length c7, .bool b3, .slice A8 l4.length c9, .slice A10 u5.length c11], true⟩] [(0, .v (.slice A l.length c)), (1, .v (.int .i64 v)), (2, .v (.bool flex)), (7, .p 0 0), (9, .v (.slice A_ dn.length c_)), (10, .v (.slice none 0 0)), (11, .v (.int .i64 0)), (21, .v (.slice A l.length c)), (22, .v (.int .i64 ((l.length : Nat) : Int))), (23, .v (.int .i64 (IntKind.i64.wrap (((k : Nat) : Int) + 1))))]
        have he187 : IntKind.i64.wrap (((k : Nat) : Int) + 1) = ((k + 1 : Nat) : Int) := wrap_succ (by omega)
        rw [he187] at hE184
        exact ⟨l.length - (k + 1), by omega, k + 1, A_, c_, dn, rfl, by omega, by rw [← bodyB_neg2 he59 (by assumption)]; exact hB, hE184.pk, hW185, (Fr.trans (Fr.trans (Fr.trans (Fr.trans hF46 hF85) hF91) hF106) hF186)⟩
    ·
      have hf188 := of_decide_eq_false hc96
      have hE189 := hE95.cast (env' := [(0, .v (.slice A l.length c)), (1, .v (.int .i64 v)), (2, .v (.bool flex)), (7, .p 0 0), (9, .v (.slice A_ dn.length c_)), (10, .v (.slice none 0 0)), (11, .v (.int .i64 0)), (12, .v (.int .i64 ((k : Nat) : Int))), (13, .p 1 0), (21, .v (.slice A l.length c)), (22, .v (.int .i64 ((l.length : Nat) : Int))), (23, .v (.int .i64 ((k : Nat) : Int))), (31, .v (.bool false))]) (by rw [hc96])
      clear hE95
      refine go_rn [4, 5, 6, 7] [] [(0, .v (.slice A l.length c)), (1, .v (.int .i64 v)), (2, .v (.bool flex)), (7, .p 0 0), (9, .v (.slice A_ dn.length c_)), (10, .v (.slice none 0 0)), (11, .v (.int .i64 0)), (12, .v (.int .i64 ((k : Nat) : Int))), (13, .p 1 0), (21, .v (.slice A l.length c)), (22, .v (.int .i64 ((l.length : Nat) : Int))), (23, .v (.int .i64 ((k : Nat) : Int))), (35, .v (.bool false))] hW92 hE189 fun a190 hE191 => ?_
      clear hE189
      refine wpOps_nil ?_
      refine then_normal ?_
      refine cond_false hE191 (b := false) (by kernel_rfl) rfl ?_
      refine wp_skip ?_
      refine block_normal ?_
      refine then_normal ?_
      refine go_region [0, 1] (by kernel_rfl) ?_
      refine go_rn [0, 1] [] [(0, .v (.slice A l.length c)), (1, .v (.int .i64 v)), (2, .v (.bool flex)), (7, .p 0 0), (9, .v (.slice A_ dn.length c_)), (10, .v (.slice none 0 0)), (11, .v (.int .i64 0)), (21, .v (.slice A l.length c)), (22, .v (.int .i64 ((l.length : Nat) : Int))), (23, .v (.int .i64 (IntKind.i64.wrap (((k : Nat) : Int) + 1))))] hW92 hE191 fun a192 hE193 => ?_
      clear hE191
      refine wpOps_nil ?_
      refine then_normal ?_
      obtain ⟨hE194, hW195, hF196⟩ := hW92.cutB hE193 1 [⟨b21, 0, [.int .i64 n1, .slice A6 s2.length c7, .bool b3, .slice A8 l4.length c9, .slice A10 u5.length c11], true⟩] [(0, .v (.slice A l.length c)), (1, .v (.int .i64 v)), (2, .v (.bool flex)), (7, .p 0 0), (9, .v (.slice A_ dn.length c_)), (10, .v (.slice none 0 0)), (11, .v (.int .i64 0)), (21, .v (.slice A l.length c)), (22, .v (.int .i64 ((l.length : Nat) : Int))), (23, .v (.int .i64 (IntKind.i64.wrap (((k : Nat) : Int) + 1))))]
      have he197 : IntKind.i64.wrap (((k : Nat) : Int) + 1) = ((k + 1 : Nat) : Int) := wrap_succ (by omega)
      rw [he197] at hE194
      exact ⟨l.length - (k + 1), by omega, k + 1, A_, c_, dn, rfl, by omega, by rw [← bodyB_neg1 he59 (by assumption)]; exact hB, hE194.pk, hW195, (Fr.trans (Fr.trans (Fr.trans hF46 hF85) hF91) hF196)⟩
  ·
    have hf198 := of_decide_eq_false hc49
    refine wp_exit ?_
    refine then_exit ?_
    refine then_exit ?_
    refine block_exit ?_
    refine then_normal ?_
    refine wp_seq ?_
    refine go_sp [(0, .v (.slice A l.length c)), (1, .v (.int .i64 v)), (2, .v (.bool flex)), (7, .p 0 0), (9, .v (.slice A_ dn.length c_)), (10, .v (.slice none 0 0)), (11, .v (.int .i64 0)), (47, .v (.bool (!flex)))] hW43 hE48 fun a199 hE200 => ?_
    clear hE48
    refine cond_of hE200 (b := !flex) (by kernel_rfl) (fun hc201 => ?_) (fun hc201 => ?_)
    ·
      refine go_sp [(8, .v (.slice A_ dn.length c_))] hW43 hE200 fun a203 hE204 => ?_
      clear hE200
      refine wp_ret ?_
      refine then_ret ?_
      refine leave hE204 hW43.cells (v := .slice A_ dn.length c_) (by kernel_rfl) ?_
      exact fresh_end hW43 (k := 0) rfl (by rw [show flex = false by simpa using hc201, partW_old, ← hB, bodyB_end (by omega), List.append_nil])
    ·
      refine wp_skip ?_
      refine then_normal ?_
      refine wp_seq ?_
      refine go_seq_region [0, 1, 2, 3] (by kernel_rfl) ?_
      refine go_rn [0] [1, 2, 3] [(0, .v (.slice A l.length c)), (1, .v (.int .i64 v)), (2, .v (.bool flex)), (7, .p 0 0), (9, .v (.slice A_ dn.length c_)), (10, .v (.slice none 0 0)), (11, .v (.int .i64 0)), (49, .v (.slice A l.length c))] hW43 hE200 fun a206 hE207 => ?_
      clear hE200
      refine of_op (wpOp_call hE207 (f := 89) (vs := [.slice A l.length c]) (d := 50) (by kernel_rfl) Tryz.call89 (sKnown _ _ l _ _ ⟨xfs, (h1.move hW43.step nilM hW43.imm), (fun i_ x_ h_ => ((h2 i_ x_ h_).move hW43.step nilM hW43.imm))⟩) ?_)
      rintro e_ w209 ⟨rfl, hs208⟩
      refine ⟨_, rfl, fun a210 hE211 => ?_⟩
      have hW212 := hW43.next_nil hs208
      have hF213 := hW43.frN hs208
      clear hE207 hW43
      refine go_rn [2, 3] [] [(0, .v (.slice A l.length c)), (1, .v (.int .i64 v)), (2, .v (.bool flex)), (7, .p 0 0), (9, .v (.slice A_ dn.length c_)), (10, .v (.slice none 0 0)), (11, .v (.int .i64 0)), (51, .v (.int .i64 (IntKind.i64.wrap (knownI l)))), (52, .v (.int .i64 0))] hW212 hE211 fun a214 hE215 => ?_
      clear hE211
      refine wpOps_nil ?_
      refine then_normal ?_
      refine wp_block ?_
      have hdn : dn = bodyB W l v (Tree.mk n1 s2 b3 l4 u5) 0 := by rw [← hB, bodyB_end (by omega), List.append_nil]
      have er216 : dn = (bodyB W l v (Tree.mk n1 s2 b3 l4 u5) 0) := hdn
      have er217 := congrArg (brow A_ c_ 5) er216
      obtain ⟨hW218, hF219⟩ := hW212.rowEq 0 [brow A_ c_ 5 (bodyB W l v (Tree.mk n1 s2 b3 l4 u5) 0)] er217
      clear hW212
      rw [er216] at hE215
      have hfx : flex = true := by simpa using hc201
      have htot2 : (bodyB W l v (Tree.mk n1 s2 b3 l4 u5) 0).length + (uv (tagsN W l (Tree.mk n1 s2 b3 l4 u5) (knownI l).toNat + (unknownT l u5).length)).length + ((tagsK W l (Tree.mk n1 s2 b3 l4 u5) (knownI l).toNat).length + (tagsB (unknownT l u5)).length) ≤ 1099511627776 := by have h_ := hroom; rw [hfx, partW_flex] at h_; simpa only [List.length_append] using h_
      have hmono := fun i (h_ : i ≤ (knownI l).toNat) => tagsK_mono W l (Tree.mk n1 s2 b3 l4 u5) h_
      have hcnt := tagsN_le W l (Tree.mk n1 s2 b3 l4 u5)
      have hknn := known_nat l
      have hE221 := EnvOk.pick hE215 (ks := [0, 1, 2, 7, 9, 10, 11, 51, 52]) (env' := [(0, .v (.slice A l.length c)), (1, .v (.int .i64 v)), (2, .v (.bool flex)), (7, .p 0 0), (9, .v (.slice A_ ((bodyB W l v (Tree.mk n1 s2 b3 l4 u5) 0).length) c_)), (10, .v (.slice none 0 0)), (11, .v (.int .i64 0)), (51, .v (.int .i64 (IntKind.i64.wrap (knownI l)))), (52, .v (.int .i64 0))]) (by kernel_rfl)
      have hE220 := hE221.cast (env' := [(0, .v (.slice A l.length c)), (1, .v (.int .i64 v)), (2, .v (.bool flex)), (7, .p 0 0), (9, .v (.slice A_ ((bodyB W l v (Tree.mk n1 s2 b3 l4 u5) 0).length) c_)), (10, .v (.slice none 0 0)), (11, .v (.int .i64 0)), (51, .v (.int .i64 (((knownI l).toNat : Nat) : Int))), (52, .v (.int .i64 0))]) (by rw [hknn])
      clear hE215 hE221
      have hW222 := hW218.addNil 5 1
      have hF223 := hW218.frNil 5 1
      clear hW218
      refine wp_loop_ghost (fun n_ a_ w_ => ∃ (k2 : Nat) (A2_ : Option Addr) (c2_ : Nat), n_ = (knownI l).toNat - k2 ∧ k2 ≤ (knownI l).toNat ∧ LInv hW222 132 [⟨b21, 0, [.int .i64 n1, .slice A6 s2.length c7, .bool b3, .slice A8 l4.length c9, .slice A10 u5.length c11], true⟩] [brow A_ c_ 5 (bodyB W l v (Tree.mk n1 s2 b3 l4 u5) 0), brow A2_ c2_ 5 (tagsK W l (Tree.mk n1 s2 b3 l4 u5) k2)] [(0, .v (.slice A l.length c)), (1, .v (.int .i64 v)), (2, .v (.bool flex)), (7, .p 0 0), (9, .v (.slice A_ ((bodyB W l v (Tree.mk n1 s2 b3 l4 u5) 0).length) c_)), (10, .v (.slice A2_ ((tagsK W l (Tree.mk n1 s2 b3 l4 u5) k2).length) c2_)), (11, .v (.int .i64 ((tagsN W l (Tree.mk n1 s2 b3 l4 u5) k2 : Nat) : Int))), (51, .v (.int .i64 (((knownI l).toNat : Nat) : Int))), (52, .v (.int .i64 ((k2 : Nat) : Int)))] a_ w_) ((knownI l).toNat) ⟨0, none, 0, by omega, by omega, hE220.pk, hW222, Fr.refl _ _ _⟩ ?_
      clear hE220
      rintro n224 a225 w226 ⟨k2, A2_, c2_, hn229, hk230, hE227, hW228, hF231⟩
      refine go_sp [(0, .v (.slice A l.length c)), (1, .v (.int .i64 v)), (2, .v (.bool flex)), (7, .p 0 0), (9, .v (.slice A_ ((bodyB W l v (Tree.mk n1 s2 b3 l4 u5) 0).length) c_)), (10, .v (.slice A2_ ((tagsK W l (Tree.mk n1 s2 b3 l4 u5) k2).length) c2_)), (11, .v (.int .i64 ((tagsN W l (Tree.mk n1 s2 b3 l4 u5) k2 : Nat) : Int))), (51, .v (.int .i64 (((knownI l).toNat : Nat) : Int))), (52, .v (.int .i64 ((k2 : Nat) : Int))), (53, .v (.bool (decide (((k2 : Nat) : Int) < (((knownI l).toNat : Nat) : Int)))))] hW228 hE227 fun a232 hE233 => ?_
      clear hE227
      refine wp_seq ?_
      refine cond_of hE233 (b := decide (((k2 : Nat) : Int) < (((knownI l).toNat : Nat) : Int))) (by kernel_rfl) (fun hc234 => ?_) (fun hc234 => ?_)
      ·
        have hf235 := of_decide_eq_true hc234
        refine wp_skip ?_
        refine then_normal ?_
        refine wp_seq ?_
        refine wp_block ?_
        refine go_sp [(0, .v (.slice A l.length c)), (1, .v (.int .i64 v)), (2, .v (.bool flex)), (7, .p 0 0), (9, .v (.slice A_ ((bodyB W l v (Tree.mk n1 s2 b3 l4 u5) 0).length) c_)), (10, .v (.slice A2_ ((tagsK W l (Tree.mk n1 s2 b3 l4 u5) k2).length) c2_)), (11, .v (.int .i64 ((tagsN W l (Tree.mk n1 s2 b3 l4 u5) k2 : Nat) : Int))), (14, .v (.int .i64 ((k2 : Nat) : Int))), (51, .v (.int .i64 (((knownI l).toNat : Nat) : Int))), (52, .v (.int .i64 ((k2 : Nat) : Int)))] hW228 hE233 fun a236 hE237 => ?_
        clear hE233
        refine go_sp [(0, .v (.slice A l.length c)), (1, .v (.int .i64 v)), (2, .v (.bool flex)), (7, .p 0 0), (9, .v (.slice A_ ((bodyB W l v (Tree.mk n1 s2 b3 l4 u5) 0).length) c_)), (10, .v (.slice A2_ ((tagsK W l (Tree.mk n1 s2 b3 l4 u5) k2).length) c2_)), (11, .v (.int .i64 ((tagsN W l (Tree.mk n1 s2 b3 l4 u5) k2 : Nat) : Int))), (14, .v (.int .i64 ((k2 : Nat) : Int))), (51, .v (.int .i64 (((knownI l).toNat : Nat) : Int))), (52, .v (.int .i64 ((k2 : Nat) : Int))), (55, .v (.slice A l.length c)), (56, .v (.int .i64 ((l.length : Nat) : Int))), (57, .v (.int .i64 0))] hW228 hE237 fun a238 hE239 => ?_
        clear hE237
        refine wp_block ?_
        have er240 : (tagsK W l (Tree.mk n1 s2 b3 l4 u5) k2) = (tagsK W l (Tree.mk n1 s2 b3 l4 u5) k2 ++ []) := (List.append_nil _).symm
        have er241 := congrArg (brow A2_ c2_ 5) er240
        obtain ⟨hW242, hF243⟩ := hW228.rowEq 1 [brow A_ c_ 5 (bodyB W l v (Tree.mk n1 s2 b3 l4 u5) 0), brow A2_ c2_ 5 (tagsK W l (Tree.mk n1 s2 b3 l4 u5) k2 ++ [])] er241
        clear hW228
        rw [er240] at hE239
        have hm2 := hmono (k2 + 1) (by omega)
        rw [tagsK, List.length_append] at hm2
        have hc2 := hcnt (k2 + 1)
        rw [tagsN, tagsK, List.length_append] at hc2
        have hc3 := tagN_le W k2 (Tree.mk n1 s2 b3 l4 u5) l 0
        refine wp_loop_ghost (fun n_ a_ w_ => ∃ (q : Nat) (A3_ : Option Addr) (c3_ : Nat) (dm : Bs) (cn : Nat), n_ = l.length - q ∧ q ≤ l.length ∧ (dm ++ tagB W (l.drop q) k2 (Tree.mk n1 s2 b3 l4 u5) q = tagB W l k2 (Tree.mk n1 s2 b3 l4 u5) 0) ∧ (cn + tagN W (l.drop q) k2 (Tree.mk n1 s2 b3 l4 u5) q = tagN W l k2 (Tree.mk n1 s2 b3 l4 u5) 0) ∧ LInv hW242 132 [⟨b21, 0, [.int .i64 n1, .slice A6 s2.length c7, .bool b3, .slice A8 l4.length c9, .slice A10 u5.length c11], true⟩] [brow A_ c_ 5 (bodyB W l v (Tree.mk n1 s2 b3 l4 u5) 0), brow A3_ c3_ 5 (tagsK W l (Tree.mk n1 s2 b3 l4 u5) k2 ++ dm)] [(0, .v (.slice A l.length c)), (1, .v (.int .i64 v)), (2, .v (.bool flex)), (7, .p 0 0), (9, .v (.slice A_ ((bodyB W l v (Tree.mk n1 s2 b3 l4 u5) 0).length) c_)), (10, .v (.slice A3_ ((tagsK W l (Tree.mk n1 s2 b3 l4 u5) k2 ++ dm).length) c3_)), (11, .v (.int .i64 ((tagsN W l (Tree.mk n1 s2 b3 l4 u5) k2 + cn : Nat) : Int))), (14, .v (.int .i64 ((k2 : Nat) : Int))), (51, .v (.int .i64 (((knownI l).toNat : Nat) : Int))), (52, .v (.int .i64 ((k2 : Nat) : Int))), (55, .v (.slice A l.length c)), (56, .v (.int .i64 ((l.length : Nat) : Int))), (57, .v (.int .i64 ((q : Nat) : Int)))] a_ w_) (l.length) ⟨0, A2_, c2_, [], 0, by omega, by omega, rfl, Nat.zero_add _, hE239.pk, hW242, Fr.refl _ _ _⟩ ?_
        clear hE239
        rintro n244 a245 w246 ⟨q, A3_, c3_, dm, cn, hn249, hk250, hB2, hN2, hE247, hW248, hF251⟩
        refine go_sp [(0, .v (.slice A l.length c)), (1, .v (.int .i64 v)), (2, .v (.bool flex)), (7, .p 0 0), (9, .v (.slice A_ ((bodyB W l v (Tree.mk n1 s2 b3 l4 u5) 0).length) c_)), (10, .v (.slice A3_ ((tagsK W l (Tree.mk n1 s2 b3 l4 u5) k2 ++ dm).length) c3_)), (11, .v (.int .i64 ((tagsN W l (Tree.mk n1 s2 b3 l4 u5) k2 + cn : Nat) : Int))), (14, .v (.int .i64 ((k2 : Nat) : Int))), (51, .v (.int .i64 (((knownI l).toNat : Nat) : Int))), (52, .v (.int .i64 ((k2 : Nat) : Int))), (55, .v (.slice A l.length c)), (56, .v (.int .i64 ((l.length : Nat) : Int))), (57, .v (.int .i64 ((q : Nat) : Int))), (58, .v (.bool (decide (((q : Nat) : Int) < ((l.length : Nat) : Int)))))] hW248 hE247 fun a252 hE253 => ?_
        clear hE247
        refine wp_seq ?_
        refine cond_of hE253 (b := decide (((q : Nat) : Int) < ((l.length : Nat) : Int))) (by kernel_rfl) (fun hc254 => ?_) (fun hc254 => ?_)
        ·
          have hf255 := of_decide_eq_true hc254
          refine wp_skip ?_
          refine then_normal ?_
          refine wp_seq ?_
          refine wp_block ?_
          refine go_seq_region [0, 1, 2, 3, 4, 5] (by kernel_rfl) ?_
          refine go_rn [0] [1, 2, 3, 4, 5] [(0, .v (.slice A l.length c)), (1, .v (.int .i64 v)), (2, .v (.bool flex)), (7, .p 0 0), (9, .v (.slice A_ ((bodyB W l v (Tree.mk n1 s2 b3 l4 u5) 0).length) c_)), (10, .v (.slice A3_ ((tagsK W l (Tree.mk n1 s2 b3 l4 u5) k2 ++ dm).length) c3_)), (11, .v (.int .i64 ((tagsN W l (Tree.mk n1 s2 b3 l4 u5) k2 + cn : Nat) : Int))), (14, .v (.int .i64 ((k2 : Nat) : Int))), (51, .v (.int .i64 (((knownI l).toNat : Nat) : Int))), (52, .v (.int .i64 ((k2 : Nat) : Int))), (55, .v (.slice A l.length c)), (56, .v (.int .i64 ((l.length : Nat) : Int))), (57, .v (.int .i64 ((q : Nat) : Int))), (59, .v (.int .i64 ((q : Nat) : Int)))] hW248 hE253 fun a256 hE257 => ?_
          clear hE253
          obtain ⟨b258, o259, hA260, hl261, hat262⟩ := Slots.get h1 (i := q) (by omega)
          obtain ⟨x263, he264⟩ : ∃ x, l[q]? = some x := ⟨_, List.getElem?_eq_getElem (by omega)⟩
          have hr265 := h2 q x263 he264
          obtain ⟨k266, y267, y268, y269, y270, y271, y272, l273, A274, c275, xs276, rfl, hcs277, h278, h279⟩ := hr265.open_
          rw [hcs277] at hr265
          have hsm280 := h278.small
          rw [hcs277] at hat262
          refine of_op (wpOp_index hE257 (t := 29) (A := A) (m := l.length) (q := ((q : Nat) : Int)) (d := 60) (by kernel_rfl) (e := 51) (size := 8) (bytes := 80) (by kernel_rfl) hA260 rfl (by omega) fun a281 hE282 => ?_)
          clear hE257
          refine of_op (wpOp_load hE282 (t := 51) (b := b258) (o := o259 + q * 8) (d := 61) (by kernel_rfl) (cs := [.int .i64 k266, .int .i64 y267, .int .i64 y268, .int .i64 y269, .int .i64 y270, .int .i64 y271, .int .i64 y272, .slice A274 l273.length c275]) (v := .agg #[.int .i64 k266, .int .i64 y267, .int .i64 y268, .int .i64 y269, .int .i64 y270, .int .i64 y271, .int .i64 y272, .slice A274 l273.length c275]) (by kernel_rfl) (AtF.move hat262 hW248.step nilM keepF).at_ fun a283 hE284 => ?_)
          clear hE282
          refine of_op (wpOp_alloc hW248 hE284 (d := 16) (cs := [.int .i64 0, .int .i64 0, .int .i64 0, .int .i64 0, .int .i64 0, .int .i64 0, .int .i64 0, .slice none 0 0]) (by kernel_rfl) fun b285 a286 w287 hb288 hz289 hF290 hW291 hE292 => ?_)
          clear hE284 hW248
          refine go_rn [4] [5] [(0, .v (.slice A l.length c)), (1, .v (.int .i64 v)), (2, .v (.bool flex)), (7, .p 0 0), (9, .v (.slice A_ ((bodyB W l v (Tree.mk n1 s2 b3 l4 u5) 0).length) c_)), (10, .v (.slice A3_ ((tagsK W l (Tree.mk n1 s2 b3 l4 u5) k2 ++ dm).length) c3_)), (11, .v (.int .i64 ((tagsN W l (Tree.mk n1 s2 b3 l4 u5) k2 + cn : Nat) : Int))), (14, .v (.int .i64 ((k2 : Nat) : Int))), (15, .v (.int .i64 ((q : Nat) : Int))), (16, .p 1 0), (51, .v (.int .i64 (((knownI l).toNat : Nat) : Int))), (52, .v (.int .i64 ((k2 : Nat) : Int))), (55, .v (.slice A l.length c)), (56, .v (.int .i64 ((l.length : Nat) : Int))), (57, .v (.int .i64 ((q : Nat) : Int))), (61, .v (.agg #[.int .i64 k266, .int .i64 y267, .int .i64 y268, .int .i64 y269, .int .i64 y270, .int .i64 y271, .int .i64 y272, .slice A274 l273.length c275]))] hW291 hE292 fun a293 hE294 => ?_
          clear hE292
          refine of_op (wpOp_store hW291 hE294 (oi := 1) (cs := [.int .i64 k266, .int .i64 y267, .int .i64 y268, .int .i64 y269, .int .i64 y270, .int .i64 y271, .int .i64 y272, .slice A274 l273.length c275]) (by kernel_rfl) fun w295 hF296 hW297 hE298 => ?_)
          clear hE294 hW291
          refine wpOps_nil ?_
          refine then_normal ?_
          refine go_seq_drawK 12 (by kernel_rfl) hW297 fun w299 hF300 hW301 hT302 => ?_
          clear hW297
          refine go_rnD [0, 1, 2, 3, 4] [(0, .v (.slice A l.length c)), (1, .v (.int .i64 v)), (2, .v (.bool flex)), (7, .p 0 0), (9, .v (.slice A_ ((bodyB W l v (Tree.mk n1 s2 b3 l4 u5) 0).length) c_)), (10, .v (.slice A3_ ((tagsK W l (Tree.mk n1 s2 b3 l4 u5) k2 ++ dm).length) c3_)), (11, .v (.int .i64 ((tagsN W l (Tree.mk n1 s2 b3 l4 u5) k2 + cn : Nat) : Int))), (14, .v (.int .i64 ((k2 : Nat) : Int))), (15, .v (.int .i64 ((q : Nat) : Int))), (16, .p 1 0), (51, .v (.int .i64 (((knownI l).toNat : Nat) : Int))), (52, .v (.int .i64 ((k2 : Nat) : Int))), (55, .v (.slice A l.length c)), (56, .v (.int .i64 ((l.length : Nat) : Int))), (57, .v (.int .i64 ((q : Nat) : Int))), (66, .v (.bool (y270 == ((k2 : Nat) : Int))))] 7 (panicFree_then (panicFree_block (panicFree_then (panicFree_then (panicFree_block (panicFree_block (panicFree_then (panicFree_then (panicFree_block (panicFree_then panicFree_body)))))))))) (fun _ h => h.cells) hT302 hE298 fun a303 hE304 => ?_
          clear hE298
          refine (Bool.eq_false_or_eq_true (y270 == ((k2 : Nat) : Int))).elim (fun hc305 => ?_) (fun hc305 => ?_)
          ·
            have hf306 : y270 = ((k2 : Nat) : Int) := by simpa using hc305
            have hE307 := hE304.cast (env' := [(0, .v (.slice A l.length c)), (1, .v (.int .i64 v)), (2, .v (.bool flex)), (7, .p 0 0), (9, .v (.slice A_ ((bodyB W l v (Tree.mk n1 s2 b3 l4 u5) 0).length) c_)), (10, .v (.slice A3_ ((tagsK W l (Tree.mk n1 s2 b3 l4 u5) k2 ++ dm).length) c3_)), (11, .v (.int .i64 ((tagsN W l (Tree.mk n1 s2 b3 l4 u5) k2 + cn : Nat) : Int))), (14, .v (.int .i64 ((k2 : Nat) : Int))), (15, .v (.int .i64 ((q : Nat) : Int))), (16, .p 1 0), (51, .v (.int .i64 (((knownI l).toNat : Nat) : Int))), (52, .v (.int .i64 ((k2 : Nat) : Int))), (55, .v (.slice A l.length c)), (56, .v (.int .i64 ((l.length : Nat) : Int))), (57, .v (.int .i64 ((q : Nat) : Int))), (66, .v (.bool true))]) (by rw [hc305])
            clear hE304
            refine go_rnD [5, 6, 7] [(0, .v (.slice A l.length c)), (1, .v (.int .i64 v)), (2, .v (.bool flex)), (7, .p 0 0), (9, .v (.slice A_ ((bodyB W l v (Tree.mk n1 s2 b3 l4 u5) 0).length) c_)), (10, .v (.slice A3_ ((tagsK W l (Tree.mk n1 s2 b3 l4 u5) k2 ++ dm).length) c3_)), (11, .v (.int .i64 ((tagsN W l (Tree.mk n1 s2 b3 l4 u5) k2 + cn : Nat) : Int))), (14, .v (.int .i64 ((k2 : Nat) : Int))), (15, .v (.int .i64 ((q : Nat) : Int))), (16, .p 1 0), (51, .v (.int .i64 (((knownI l).toNat : Nat) : Int))), (52, .v (.int .i64 ((k2 : Nat) : Int))), (55, .v (.slice A l.length c)), (56, .v (.int .i64 ((l.length : Nat) : Int))), (57, .v (.int .i64 ((q : Nat) : Int))), (66, .v (.bool true)), (67, .v (.agg #[.int .i64 k266, .int .i64 y267, .int .i64 y268, .int .i64 y269, .int .i64 y270, .int .i64 y271, .int .i64 y272, .slice A274 l273.length c275])), (68, .v (.agg #[.int .i64 n1, .slice A6 s2.length c7, .bool b3, .slice A8 l4.length c9, .slice A10 u5.length c11])), (69, .v (.int .i64 ((q : Nat) : Int)))] 4 (panicFree_then (panicFree_block (panicFree_then (panicFree_then (panicFree_block (panicFree_block (panicFree_then (panicFree_then (panicFree_block (panicFree_then panicFree_body)))))))))) (fun _ h => h.cells) hT302 hE307 fun a308 hE309 => ?_
            clear hE307
            refine anyC_op (i := 8) (by kernel_rfl) (wpOp_call hE309 (f := 37) (vs := [.agg #[.int .i64 n1, .slice A6 s2.length c7, .bool b3, .slice A8 l4.length c9, .slice A10 u5.length c11], .int .i64 ((q : Nat) : Int)]) (d := 70) (by kernel_rfl) Tryz.call37 (sAt _ _ q _ _ (ht.move hW301.step nilM hW301.imm)) ?_)
            rintro e_ w313 ⟨cs312, rfl, hr311, hs310⟩
            have hr314 := hr311.move hs310 nilM (fun b o h_ hb_ => hW301.laid (G := F) hs310 b o (.inl h_) (Nat.lt_of_lt_of_le hb_ hs310.size))
            obtain ⟨n315, s316, b317, l318, u319, A320, c321, A322, c323, A324, c325, xs326, ht332, hcs327, h328, h329, h330, h331⟩ := hr314.open_
            rw [hcs327] at hr314
            have hsm333 := h328.small
            have hsm334 := h329.small
            rw [hcs327]
            refine ⟨_, rfl, fun a335 hE336 => ?_⟩
            have hW337 := hW301.next_nil hs310
            have hF338 := hW301.frN hs310
            clear hE309
            have hT339 := TT.ofW hF338 hW337
            refine ⟨fun _ => hT339, ?_⟩
            refine anyC_op (i := 9) (by kernel_rfl) (wpOp_call hE336 (f := 92) (vs := [.agg #[.int .i64 k266, .int .i64 y267, .int .i64 y268, .int .i64 y269, .int .i64 y270, .int .i64 y271, .int .i64 y272, .slice A274 l273.length c275], .agg #[.int .i64 n315, .slice A320 s316.length c321, .bool b317, .slice A322 l318.length c323, .slice A324 u319.length c325]]) (d := 71) (by kernel_rfl) Tryz.call92 (sUsual _ _ _ _ _ _ _ (hr265.move hW337.step nilM hW337.imm) (Nat.le_refl _) hr314) ?_)
            rintro e_ w341 ⟨rfl, hs340⟩
            refine ⟨_, rfl, fun a342 hE343 => ?_⟩
            have hW344 := hW337.next_nil hs340
            have hF345 := hW337.frN hs340
            clear hE336 hW337
            have hT346 := TT.ofW (Fr.trans hF338 hF345) hW344
            refine ⟨fun _ => hT346, ?_⟩
            refine go_rnD [10, 11] [(0, .v (.slice A l.length c)), (1, .v (.int .i64 v)), (2, .v (.bool flex)), (7, .p 0 0), (9, .v (.slice A_ ((bodyB W l v (Tree.mk n1 s2 b3 l4 u5) 0).length) c_)), (10, .v (.slice A3_ ((tagsK W l (Tree.mk n1 s2 b3 l4 u5) k2 ++ dm).length) c3_)), (11, .v (.int .i64 ((tagsN W l (Tree.mk n1 s2 b3 l4 u5) k2 + cn : Nat) : Int))), (14, .v (.int .i64 ((k2 : Nat) : Int))), (15, .v (.int .i64 ((q : Nat) : Int))), (16, .p 1 0), (51, .v (.int .i64 (((knownI l).toNat : Nat) : Int))), (52, .v (.int .i64 ((k2 : Nat) : Int))), (55, .v (.slice A l.length c)), (56, .v (.int .i64 ((l.length : Nat) : Int))), (57, .v (.int .i64 ((q : Nat) : Int))), (73, .v (.bool (!(Fld.usual (Fld.mk k266 y267 y268 y269 y270 y271 y272 l273) (Tree.at_ (Tree.mk n1 s2 b3 l4 u5) q)))))] 0 (panicFree_then (panicFree_block (panicFree_then (panicFree_then (panicFree_block (panicFree_block (panicFree_then (panicFree_then (panicFree_block (panicFree_then panicFree_body)))))))))) (fun _ h => h.cells) hT346 hE343 fun a347 hE348 => ?_
            clear hE343
            refine anyC_done (by kernel_rfl) ?_ _
            refine then_normal ?_
            refine cond_of hE348 (b := !(Fld.usual (Fld.mk k266 y267 y268 y269 y270 y271 y272 l273) (Tree.at_ (Tree.mk n1 s2 b3 l4 u5) q))) (by kernel_rfl) (fun hc349 => ?_) (fun hc349 => ?_)
            ·
              refine go_seq_drawK 7 (by kernel_rfl) hW344 fun w351 hF352 hW353 hT354 => ?_
              clear hW344
              refine go_rnD [0, 1, 2, 3, 4] [(0, .v (.slice A l.length c)), (1, .v (.int .i64 v)), (2, .v (.bool flex)), (7, .p 0 0), (9, .v (.slice A_ ((bodyB W l v (Tree.mk n1 s2 b3 l4 u5) 0).length) c_)), (10, .v (.slice A3_ ((tagsK W l (Tree.mk n1 s2 b3 l4 u5) k2 ++ dm).length) c3_)), (11, .v (.int .i64 ((tagsN W l (Tree.mk n1 s2 b3 l4 u5) k2 + cn : Nat) : Int))), (14, .v (.int .i64 ((k2 : Nat) : Int))), (51, .v (.int .i64 (((knownI l).toNat : Nat) : Int))), (52, .v (.int .i64 ((k2 : Nat) : Int))), (55, .v (.slice A l.length c)), (56, .v (.int .i64 ((l.length : Nat) : Int))), (57, .v (.int .i64 ((q : Nat) : Int))), (74, .v (.agg #[.int .i64 k266, .int .i64 y267, .int .i64 y268, .int .i64 y269, .int .i64 y270, .int .i64 y271, .int .i64 y272, .slice A274 l273.length c275])), (75, .v (.int .i64 v)), (76, .v (.bool flex)), (77, .v (.agg #[.int .i64 n1, .slice A6 s2.length c7, .bool b3, .slice A8 l4.length c9, .slice A10 u5.length c11])), (78, .v (.int .i64 ((q : Nat) : Int)))] 3 (panicFree_then (panicFree_block (panicFree_then (panicFree_then (panicFree_block (panicFree_block (panicFree_then (panicFree_then (panicFree_block (panicFree_then panicFree_body)))))))))) (fun _ h => h.cells) hT354 hE348 fun a355 hE356 => ?_
              clear hE348
              refine anyC_op (i := 5) (by kernel_rfl) (wpOp_call hE356 (f := 37) (vs := [.agg #[.int .i64 n1, .slice A6 s2.length c7, .bool b3, .slice A8 l4.length c9, .slice A10 u5.length c11], .int .i64 ((q : Nat) : Int)]) (d := 79) (by kernel_rfl) Tryz.call37 (sAt _ _ q _ _ (ht.move hW353.step nilM hW353.imm)) ?_)
              rintro e_ w360 ⟨cs359, rfl, hr358, hs357⟩
              have hr361 := hr358.move hs357 nilM (fun b o h_ hb_ => hW353.laid (G := F) hs357 b o (.inl h_) (Nat.lt_of_lt_of_le hb_ hs357.size))
              obtain ⟨n362, s363, b364, l365, u366, A367, c368, A369, c370, A371, c372, xs373, ht379, hcs374, h375, h376, h377, h378⟩ := hr361.open_
              rw [hcs374] at hr361
              have hsm380 := h375.small
              have hsm381 := h376.small
              rw [hcs374]
              refine ⟨_, rfl, fun a382 hE383 => ?_⟩
              have hW384 := hW353.next_nil hs357
              have hF385 := hW353.frN hs357
              clear hE356
              have hT386 := TT.ofW hF385 hW384
              refine ⟨fun _ => hT386, ?_⟩
              refine anyC_op (i := 6) (by kernel_rfl) (wpOp_call hE383 (f := 91) (vs := [.agg #[.int .i64 k266, .int .i64 y267, .int .i64 y268, .int .i64 y269, .int .i64 y270, .int .i64 y271, .int .i64 y272, .slice A274 l273.length c275], .int .i64 v, .bool flex, .agg #[.int .i64 n362, .slice A367 s363.length c368, .bool b364, .slice A369 l365.length c370, .slice A371 u366.length c372]]) (d := 80) (by kernel_rfl) Tryz.call91 ( hW_ _ _ _ _ _ _ (List.mem_of_getElem? he264) (hr265.move hW384.step nilM hW384.imm) hr361 (by have h_ := congrArg List.length hB2; rw [tagB_pos he264 (by omega) (by simpa using hc349)] at h_; simp only [List.length_append] at h_; omega)) ?_)
              rintro e_ w391 ⟨A389, c390, rfl, ho388, hs387⟩
              refine ⟨_, rfl, fun a392 hE393 => ?_⟩
              obtain ⟨hW394, hF395⟩ := hW384.frFresh hs387 (brow A389 c390 5 (W (Fld.mk k266 y267 y268 y269 y270 y271 y272 l273) (Tree.at_ (Tree.mk n1 s2 b3 l4 u5) q))) (Nat.le_refl _) ho388
              clear hE383 hW384
              have hlw396 : (W (Fld.mk k266 y267 y268 y269 y270 y271 y272 l273) (Tree.at_ (Tree.mk n1 s2 b3 l4 u5) q)).length ≤ 1099511627776 := by have h_ := congrArg List.length hB2; rw [tagB_pos he264 (by omega) (by simpa using hc349)] at h_; simp only [List.length_append] at h_; omega
              have hT397 := TT.ofW (Fr.trans hF385 hF395) hW394
              refine ⟨fun _ => hT397, ?_⟩
              refine anyC_op (i := 7) (by kernel_rfl) (wpOp_pure [0, 1, 2, 7, 9, 10, 11, 14, 17, 51, 52, 55, 56, 57] hW394.cells hE393 (env' := [(0, .v (.slice A l.length c)), (1, .v (.int .i64 v)), (2, .v (.bool flex)), (7, .p 0 0), (9, .v (.slice A_ ((bodyB W l v (Tree.mk n1 s2 b3 l4 u5) 0).length) c_)), (10, .v (.slice A3_ ((tagsK W l (Tree.mk n1 s2 b3 l4 u5) k2 ++ dm).length) c3_)), (11, .v (.int .i64 ((tagsN W l (Tree.mk n1 s2 b3 l4 u5) k2 + cn : Nat) : Int))), (14, .v (.int .i64 ((k2 : Nat) : Int))), (17, .v (.slice A389 ((W (Fld.mk k266 y267 y268 y269 y270 y271 y272 l273) (Tree.at_ (Tree.mk n1 s2 b3 l4 u5) q)).length) c390)), (51, .v (.int .i64 (((knownI l).toNat : Nat) : Int))), (52, .v (.int .i64 ((k2 : Nat) : Int))), (55, .v (.slice A l.length c)), (56, .v (.int .i64 ((l.length : Nat) : Int))), (57, .v (.int .i64 ((q : Nat) : Int)))]) (by kernel_rfl) fun a398 hE399 => ?_)
              clear hE393
              refine ⟨fun h => absurd rfl h, ?_⟩
              refine anyC_done (by kernel_rfl) ?_ _
              refine then_normal ?_
              refine go_seq_region [0, 1, 2, 3, 4, 5, 6, 7, 8, 9, 10, 11, 12] (by kernel_rfl) ?_
              refine go_rn [0, 1, 2] [3, 4, 5, 6, 7, 8, 9, 10, 11, 12] [(0, .v (.slice A l.length c)), (1, .v (.int .i64 v)), (2, .v (.bool flex)), (7, .p 0 0), (9, .v (.slice A_ ((bodyB W l v (Tree.mk n1 s2 b3 l4 u5) 0).length) c_)), (11, .v (.int .i64 ((tagsN W l (Tree.mk n1 s2 b3 l4 u5) k2 + cn : Nat) : Int))), (14, .v (.int .i64 ((k2 : Nat) : Int))), (17, .v (.slice A389 ((W (Fld.mk k266 y267 y268 y269 y270 y271 y272 l273) (Tree.at_ (Tree.mk n1 s2 b3 l4 u5) q)).length) c390)), (51, .v (.int .i64 (((knownI l).toNat : Nat) : Int))), (52, .v (.int .i64 ((k2 : Nat) : Int))), (55, .v (.slice A l.length c)), (56, .v (.int .i64 ((l.length : Nat) : Int))), (57, .v (.int .i64 ((q : Nat) : Int))), (81, .v (.slice A3_ ((tagsK W l (Tree.mk n1 s2 b3 l4 u5) k2 ++ dm).length) c3_)), (83, .v (.int .u64 (IntKind.u64.wrap ((k2 : Nat) : Int))))] hW394 hE399 fun a400 hE401 => ?_
              clear hE399
              have he402 : IntKind.u64.wrap ((k2 : Nat) : Int) = ((k2 : Nat) : Int) := by simp only [wrap_u64, wrap_u32, wrap_u16, IntKind.wrap_i64, IntKind.wrap_i32]; omega
              have hE404 := EnvOk.pick hE401 (ks := [0, 1, 2, 7, 9, 11, 14, 17, 51, 52, 55, 56, 57, 81, 83]) (env' := [(0, .v (.slice A l.length c)), (1, .v (.int .i64 v)), (2, .v (.bool flex)), (7, .p 0 0), (9, .v (.slice A_ ((bodyB W l v (Tree.mk n1 s2 b3 l4 u5) 0).length) c_)), (11, .v (.int .i64 ((tagsN W l (Tree.mk n1 s2 b3 l4 u5) k2 + cn : Nat) : Int))), (14, .v (.int .i64 ((k2 : Nat) : Int))), (17, .v (.slice A389 ((W (Fld.mk k266 y267 y268 y269 y270 y271 y272 l273) (Tree.at_ (Tree.mk n1 s2 b3 l4 u5) q)).length) c390)), (51, .v (.int .i64 (((knownI l).toNat : Nat) : Int))), (52, .v (.int .i64 ((k2 : Nat) : Int))), (55, .v (.slice A l.length c)), (56, .v (.int .i64 ((l.length : Nat) : Int))), (57, .v (.int .i64 ((q : Nat) : Int))), (81, .v (.slice A3_ ((tagsK W l (Tree.mk n1 s2 b3 l4 u5) k2 ++ dm).length) c3_)), (83, .v (.int .u64 (IntKind.u64.wrap ((k2 : Nat) : Int))))]) (by kernel_rfl)
              have hE403 := hE404.cast (env' := [(0, .v (.slice A l.length c)), (1, .v (.int .i64 v)), (2, .v (.bool flex)), (7, .p 0 0), (9, .v (.slice A_ ((bodyB W l v (Tree.mk n1 s2 b3 l4 u5) 0).length) c_)), (11, .v (.int .i64 ((tagsN W l (Tree.mk n1 s2 b3 l4 u5) k2 + cn : Nat) : Int))), (14, .v (.int .i64 ((k2 : Nat) : Int))), (17, .v (.slice A389 ((W (Fld.mk k266 y267 y268 y269 y270 y271 y272 l273) (Tree.at_ (Tree.mk n1 s2 b3 l4 u5) q)).length) c390)), (51, .v (.int .i64 (((knownI l).toNat : Nat) : Int))), (52, .v (.int .i64 ((k2 : Nat) : Int))), (55, .v (.slice A l.length c)), (56, .v (.int .i64 ((l.length : Nat) : Int))), (57, .v (.int .i64 ((q : Nat) : Int))), (81, .v (.slice A3_ ((tagsK W l (Tree.mk n1 s2 b3 l4 u5) k2 ++ dm).length) c3_)), (83, .v (.int .u64 ((k2 : Nat) : Int)))]) (by rw [he402])
              clear hE401 hE404
              refine of_op (wpOp_call hE403 (f := 93) (vs := [.int .u64 ((k2 : Nat) : Int)]) (d := 84) (by kernel_rfl) Tryz.call93 (sUvarint k2 (by omega) _) ?_)
              rintro e_ w409 ⟨A407, c408, rfl, ho406, hs405⟩
              refine ⟨_, rfl, fun a410 hE411 => ?_⟩
              obtain ⟨hW412, hF413⟩ := hW394.frFresh hs405 (brow A407 c408 5 (uv k2)) (Nat.le_refl _) ho406
              clear hE403 hW394
              refine of_op (wpOp_append hW412 hE411 (k := 1) (d := 85) (t := 22) (e := 5) (size := 1) (bytes := 1) (A := A3_) (As := A407) (m0 := ((tagsK W l (Tree.mk n1 s2 b3 l4 u5) k2 ++ dm).length)) (c := c3_) (m := ((uv k2).length)) (cs := c408) (xs := (bc (tagsK W l (Tree.mk n1 s2 b3 l4 u5) k2 ++ dm))) (news := bc (uv k2)) (by kernel_rfl) (by kernel_rfl) rfl (own_src (hW412.own 3 _ rfl) (bc_one _)) (own_cap (hW412.own 3 _ rfl)) (by have h_ := congrArg List.length hB2; rw [tagB_pos he264 (by omega) (by simpa using hc349)] at h_; simp only [List.length_append] at h_ ⊢; omega) fun A414 c415 a416 w417 hF418 hW419 hE420 => ?_)
              clear hE411 hW412
              have er421 : (⟨A414, c415, 5, 1, (tagsK W l (Tree.mk n1 s2 b3 l4 u5) k2 ++ dm).length + (uv k2).length, bc (tagsK W l (Tree.mk n1 s2 b3 l4 u5) k2 ++ dm) ++ bc (uv k2)⟩ : Rw) = brow A414 c415 5 (tagsK W l (Tree.mk n1 s2 b3 l4 u5) k2 ++ dm ++ (uv k2)) := brow_eq (rfl) rfl
              obtain ⟨hW422, hF424⟩ := hW419.rowEq 1 [brow A_ c_ 5 (bodyB W l v (Tree.mk n1 s2 b3 l4 u5) 0), brow A414 c415 5 (tagsK W l (Tree.mk n1 s2 b3 l4 u5) k2 ++ dm ++ (uv k2)), brow A389 c390 5 (W (Fld.mk k266 y267 y268 y269 y270 y271 y272 l273) (Tree.at_ (Tree.mk n1 s2 b3 l4 u5) q)), brow A407 c408 5 (uv k2)] er421
              clear hW419
              have hE425 := EnvOk.pick hE420 (ks := [0, 1, 2, 7, 9, 11, 14, 17, 51, 52, 55, 56, 57, 81, 83, 84, 85]) (env' := [(0, .v (.slice A l.length c)), (1, .v (.int .i64 v)), (2, .v (.bool flex)), (7, .p 0 0), (9, .v (.slice A_ ((bodyB W l v (Tree.mk n1 s2 b3 l4 u5) 0).length) c_)), (11, .v (.int .i64 ((tagsN W l (Tree.mk n1 s2 b3 l4 u5) k2 + cn : Nat) : Int))), (14, .v (.int .i64 ((k2 : Nat) : Int))), (17, .v (.slice A389 ((W (Fld.mk k266 y267 y268 y269 y270 y271 y272 l273) (Tree.at_ (Tree.mk n1 s2 b3 l4 u5) q)).length) c390)), (51, .v (.int .i64 (((knownI l).toNat : Nat) : Int))), (52, .v (.int .i64 ((k2 : Nat) : Int))), (55, .v (.slice A l.length c)), (56, .v (.int .i64 ((l.length : Nat) : Int))), (57, .v (.int .i64 ((q : Nat) : Int))), (81, .v (.slice A3_ ((tagsK W l (Tree.mk n1 s2 b3 l4 u5) k2 ++ dm).length) c3_)), (83, .v (.int .u64 ((k2 : Nat) : Int))), (84, .v (.slice A407 ((uv k2).length) c408)), (85, .v (.slice A414 ((tagsK W l (Tree.mk n1 s2 b3 l4 u5) k2 ++ dm).length + (uv k2).length) c415))]) (by kernel_rfl)
              have hE423 := hE425.cast (env' := [(0, .v (.slice A l.length c)), (1, .v (.int .i64 v)), (2, .v (.bool flex)), (7, .p 0 0), (9, .v (.slice A_ ((bodyB W l v (Tree.mk n1 s2 b3 l4 u5) 0).length) c_)), (11, .v (.int .i64 ((tagsN W l (Tree.mk n1 s2 b3 l4 u5) k2 + cn : Nat) : Int))), (14, .v (.int .i64 ((k2 : Nat) : Int))), (17, .v (.slice A389 ((W (Fld.mk k266 y267 y268 y269 y270 y271 y272 l273) (Tree.at_ (Tree.mk n1 s2 b3 l4 u5) q)).length) c390)), (51, .v (.int .i64 (((knownI l).toNat : Nat) : Int))), (52, .v (.int .i64 ((k2 : Nat) : Int))), (55, .v (.slice A l.length c)), (56, .v (.int .i64 ((l.length : Nat) : Int))), (57, .v (.int .i64 ((q : Nat) : Int))), (81, .v (.slice A3_ ((tagsK W l (Tree.mk n1 s2 b3 l4 u5) k2 ++ dm).length) c3_)), (83, .v (.int .u64 ((k2 : Nat) : Int))), (84, .v (.slice A407 ((uv k2).length) c408)), (85, .v (.slice A414 ((tagsK W l (Tree.mk n1 s2 b3 l4 u5) k2 ++ dm ++ (uv k2)).length) c415))]) (by simp only [List.length_append, List.length_cons, List.length_nil, Nat.zero_add])
              clear hE420
              clear hE425
              refine go_rn [5, 6, 7] [8, 9, 10, 11, 12] [(0, .v (.slice A l.length c)), (1, .v (.int .i64 v)), (2, .v (.bool flex)), (7, .p 0 0), (9, .v (.slice A_ ((bodyB W l v (Tree.mk n1 s2 b3 l4 u5) 0).length) c_)), (11, .v (.int .i64 ((tagsN W l (Tree.mk n1 s2 b3 l4 u5) k2 + cn : Nat) : Int))), (14, .v (.int .i64 ((k2 : Nat) : Int))), (17, .v (.slice A389 ((W (Fld.mk k266 y267 y268 y269 y270 y271 y272 l273) (Tree.at_ (Tree.mk n1 s2 b3 l4 u5) q)).length) c390)), (51, .v (.int .i64 (((knownI l).toNat : Nat) : Int))), (52, .v (.int .i64 ((k2 : Nat) : Int))), (55, .v (.slice A l.length c)), (56, .v (.int .i64 ((l.length : Nat) : Int))), (57, .v (.int .i64 ((q : Nat) : Int))), (85, .v (.slice A414 ((tagsK W l (Tree.mk n1 s2 b3 l4 u5) k2 ++ dm ++ (uv k2)).length) c415)), (88, .v (.int .u64 (IntKind.u64.wrap (((W (Fld.mk k266 y267 y268 y269 y270 y271 y272 l273) (Tree.at_ (Tree.mk n1 s2 b3 l4 u5) q)).length : Nat) : Int))))] hW422 hE423 fun a426 hE427 => ?_
              clear hE423
              have he428 : IntKind.u64.wrap (((W (Fld.mk k266 y267 y268 y269 y270 y271 y272 l273) (Tree.at_ (Tree.mk n1 s2 b3 l4 u5) q)).length : Nat) : Int) = (((W (Fld.mk k266 y267 y268 y269 y270 y271 y272 l273) (Tree.at_ (Tree.mk n1 s2 b3 l4 u5) q)).length : Nat) : Int) := by simp only [wrap_u64, wrap_u32, wrap_u16, IntKind.wrap_i64, IntKind.wrap_i32]; omega
              have hE430 := EnvOk.pick hE427 (ks := [0, 1, 2, 7, 9, 11, 14, 17, 51, 52, 55, 56, 57, 85, 88]) (env' := [(0, .v (.slice A l.length c)), (1, .v (.int .i64 v)), (2, .v (.bool flex)), (7, .p 0 0), (9, .v (.slice A_ ((bodyB W l v (Tree.mk n1 s2 b3 l4 u5) 0).length) c_)), (11, .v (.int .i64 ((tagsN W l (Tree.mk n1 s2 b3 l4 u5) k2 + cn : Nat) : Int))), (14, .v (.int .i64 ((k2 : Nat) : Int))), (17, .v (.slice A389 ((W (Fld.mk k266 y267 y268 y269 y270 y271 y272 l273) (Tree.at_ (Tree.mk n1 s2 b3 l4 u5) q)).length) c390)), (51, .v (.int .i64 (((knownI l).toNat : Nat) : Int))), (52, .v (.int .i64 ((k2 : Nat) : Int))), (55, .v (.slice A l.length c)), (56, .v (.int .i64 ((l.length : Nat) : Int))), (57, .v (.int .i64 ((q : Nat) : Int))), (85, .v (.slice A414 ((tagsK W l (Tree.mk n1 s2 b3 l4 u5) k2 ++ dm ++ (uv k2)).length) c415)), (88, .v (.int .u64 (IntKind.u64.wrap (((W (Fld.mk k266 y267 y268 y269 y270 y271 y272 l273) (Tree.at_ (Tree.mk n1 s2 b3 l4 u5) q)).length : Nat) : Int))))]) (by kernel_rfl)
              have hE429 := hE430.cast (env' := [(0, .v (.slice A l.length c)), (1, .v (.int .i64 v)), (2, .v (.bool flex)), (7, .p 0 0), (9, .v (.slice A_ ((bodyB W l v (Tree.mk n1 s2 b3 l4 u5) 0).length) c_)), (11, .v (.int .i64 ((tagsN W l (Tree.mk n1 s2 b3 l4 u5) k2 + cn : Nat) : Int))), (14, .v (.int .i64 ((k2 : Nat) : Int))), (17, .v (.slice A389 ((W (Fld.mk k266 y267 y268 y269 y270 y271 y272 l273) (Tree.at_ (Tree.mk n1 s2 b3 l4 u5) q)).length) c390)), (51, .v (.int .i64 (((knownI l).toNat : Nat) : Int))), (52, .v (.int .i64 ((k2 : Nat) : Int))), (55, .v (.slice A l.length c)), (56, .v (.int .i64 ((l.length : Nat) : Int))), (57, .v (.int .i64 ((q : Nat) : Int))), (85, .v (.slice A414 ((tagsK W l (Tree.mk n1 s2 b3 l4 u5) k2 ++ dm ++ (uv k2)).length) c415)), (88, .v (.int .u64 (((W (Fld.mk k266 y267 y268 y269 y270 y271 y272 l273) (Tree.at_ (Tree.mk n1 s2 b3 l4 u5) q)).length : Nat) : Int)))]) (by rw [he428])
              clear hE427 hE430
              refine of_op (wpOp_call hE429 (f := 93) (vs := [.int .u64 (((W (Fld.mk k266 y267 y268 y269 y270 y271 y272 l273) (Tree.at_ (Tree.mk n1 s2 b3 l4 u5) q)).length : Nat) : Int)]) (d := 89) (by kernel_rfl) Tryz.call93 (sUvarint ((W (Fld.mk k266 y267 y268 y269 y270 y271 y272 l273) (Tree.at_ (Tree.mk n1 s2 b3 l4 u5) q)).length) (by omega) _) ?_)
              rintro e_ w435 ⟨A433, c434, rfl, ho432, hs431⟩
              refine ⟨_, rfl, fun a436 hE437 => ?_⟩
              obtain ⟨hW438, hF439⟩ := hW422.frFresh hs431 (brow A433 c434 5 (uv ((W (Fld.mk k266 y267 y268 y269 y270 y271 y272 l273) (Tree.at_ (Tree.mk n1 s2 b3 l4 u5) q)).length))) (Nat.le_refl _) ho432
              clear hE429 hW422
              refine of_op (wpOp_append hW438 hE437 (k := 1) (d := 90) (t := 22) (e := 5) (size := 1) (bytes := 1) (A := A414) (As := A433) (m0 := ((tagsK W l (Tree.mk n1 s2 b3 l4 u5) k2 ++ dm ++ (uv k2)).length)) (c := c415) (m := ((uv ((W (Fld.mk k266 y267 y268 y269 y270 y271 y272 l273) (Tree.at_ (Tree.mk n1 s2 b3 l4 u5) q)).length)).length)) (cs := c434) (xs := (bc (tagsK W l (Tree.mk n1 s2 b3 l4 u5) k2 ++ dm ++ (uv k2)))) (news := bc (uv ((W (Fld.mk k266 y267 y268 y269 y270 y271 y272 l273) (Tree.at_ (Tree.mk n1 s2 b3 l4 u5) q)).length))) (by kernel_rfl) (by kernel_rfl) rfl (own_src (hW438.own 4 _ rfl) (bc_one _)) (own_cap (hW438.own 4 _ rfl)) (by have h_ := congrArg List.length hB2; rw [tagB_pos he264 (by omega) (by simpa using hc349)] at h_; simp only [List.length_append] at h_ ⊢; omega) fun A440 c441 a442 w443 hF444 hW445 hE446 => ?_)
              clear hE437 hW438
              have er447 : (⟨A440, c441, 5, 1, (tagsK W l (Tree.mk n1 s2 b3 l4 u5) k2 ++ dm ++ (uv k2)).length + (uv ((W (Fld.mk k266 y267 y268 y269 y270 y271 y272 l273) (Tree.at_ (Tree.mk n1 s2 b3 l4 u5) q)).length)).length, bc (tagsK W l (Tree.mk n1 s2 b3 l4 u5) k2 ++ dm ++ (uv k2)) ++ bc (uv ((W (Fld.mk k266 y267 y268 y269 y270 y271 y272 l273) (Tree.at_ (Tree.mk n1 s2 b3 l4 u5) q)).length))⟩ : Rw) = brow A440 c441 5 (tagsK W l (Tree.mk n1 s2 b3 l4 u5) k2 ++ dm ++ (uv k2) ++ (uv ((W (Fld.mk k266 y267 y268 y269 y270 y271 y272 l273) (Tree.at_ (Tree.mk n1 s2 b3 l4 u5) q)).length))) := brow_eq (rfl) rfl
              obtain ⟨hW448, hF450⟩ := hW445.rowEq 1 [brow A_ c_ 5 (bodyB W l v (Tree.mk n1 s2 b3 l4 u5) 0), brow A440 c441 5 (tagsK W l (Tree.mk n1 s2 b3 l4 u5) k2 ++ dm ++ (uv k2) ++ (uv ((W (Fld.mk k266 y267 y268 y269 y270 y271 y272 l273) (Tree.at_ (Tree.mk n1 s2 b3 l4 u5) q)).length))), brow A389 c390 5 (W (Fld.mk k266 y267 y268 y269 y270 y271 y272 l273) (Tree.at_ (Tree.mk n1 s2 b3 l4 u5) q)), brow A407 c408 5 (uv k2), brow A433 c434 5 (uv ((W (Fld.mk k266 y267 y268 y269 y270 y271 y272 l273) (Tree.at_ (Tree.mk n1 s2 b3 l4 u5) q)).length))] er447
              clear hW445
              have hE451 := EnvOk.pick hE446 (ks := [0, 1, 2, 7, 9, 11, 14, 17, 51, 52, 55, 56, 57, 85, 88, 89, 90]) (env' := [(0, .v (.slice A l.length c)), (1, .v (.int .i64 v)), (2, .v (.bool flex)), (7, .p 0 0), (9, .v (.slice A_ ((bodyB W l v (Tree.mk n1 s2 b3 l4 u5) 0).length) c_)), (11, .v (.int .i64 ((tagsN W l (Tree.mk n1 s2 b3 l4 u5) k2 + cn : Nat) : Int))), (14, .v (.int .i64 ((k2 : Nat) : Int))), (17, .v (.slice A389 ((W (Fld.mk k266 y267 y268 y269 y270 y271 y272 l273) (Tree.at_ (Tree.mk n1 s2 b3 l4 u5) q)).length) c390)), (51, .v (.int .i64 (((knownI l).toNat : Nat) : Int))), (52, .v (.int .i64 ((k2 : Nat) : Int))), (55, .v (.slice A l.length c)), (56, .v (.int .i64 ((l.length : Nat) : Int))), (57, .v (.int .i64 ((q : Nat) : Int))), (85, .v (.slice A414 ((tagsK W l (Tree.mk n1 s2 b3 l4 u5) k2 ++ dm ++ (uv k2)).length) c415)), (88, .v (.int .u64 (((W (Fld.mk k266 y267 y268 y269 y270 y271 y272 l273) (Tree.at_ (Tree.mk n1 s2 b3 l4 u5) q)).length : Nat) : Int))), (89, .v (.slice A433 ((uv ((W (Fld.mk k266 y267 y268 y269 y270 y271 y272 l273) (Tree.at_ (Tree.mk n1 s2 b3 l4 u5) q)).length)).length) c434)), (90, .v (.slice A440 ((tagsK W l (Tree.mk n1 s2 b3 l4 u5) k2 ++ dm ++ (uv k2)).length + (uv ((W (Fld.mk k266 y267 y268 y269 y270 y271 y272 l273) (Tree.at_ (Tree.mk n1 s2 b3 l4 u5) q)).length)).length) c441))]) (by kernel_rfl)
              have hE449 := hE451.cast (env' := [(0, .v (.slice A l.length c)), (1, .v (.int .i64 v)), (2, .v (.bool flex)), (7, .p 0 0), (9, .v (.slice A_ ((bodyB W l v (Tree.mk n1 s2 b3 l4 u5) 0).length) c_)), (11, .v (.int .i64 ((tagsN W l (Tree.mk n1 s2 b3 l4 u5) k2 + cn : Nat) : Int))), (14, .v (.int .i64 ((k2 : Nat) : Int))), (17, .v (.slice A389 ((W (Fld.mk k266 y267 y268 y269 y270 y271 y272 l273) (Tree.at_ (Tree.mk n1 s2 b3 l4 u5) q)).length) c390)), (51, .v (.int .i64 (((knownI l).toNat : Nat) : Int))), (52, .v (.int .i64 ((k2 : Nat) : Int))), (55, .v (.slice A l.length c)), (56, .v (.int .i64 ((l.length : Nat) : Int))), (57, .v (.int .i64 ((q : Nat) : Int))), (85, .v (.slice A414 ((tagsK W l (Tree.mk n1 s2 b3 l4 u5) k2 ++ dm ++ (uv k2)).length) c415)), (88, .v (.int .u64 (((W (Fld.mk k266 y267 y268 y269 y270 y271 y272 l273) (Tree.at_ (Tree.mk n1 s2 b3 l4 u5) q)).length : Nat) : Int))), (89, .v (.slice A433 ((uv ((W (Fld.mk k266 y267 y268 y269 y270 y271 y272 l273) (Tree.at_ (Tree.mk n1 s2 b3 l4 u5) q)).length)).length) c434)), (90, .v (.slice A440 ((tagsK W l (Tree.mk n1 s2 b3 l4 u5) k2 ++ dm ++ (uv k2) ++ (uv ((W (Fld.mk k266 y267 y268 y269 y270 y271 y272 l273) (Tree.at_ (Tree.mk n1 s2 b3 l4 u5) q)).length))).length) c441))]) (by simp only [List.length_append, List.length_cons, List.length_nil, Nat.zero_add])
              clear hE446
              clear hE451
              refine go_rn [10] [11, 12] [(0, .v (.slice A l.length c)), (1, .v (.int .i64 v)), (2, .v (.bool flex)), (7, .p 0 0), (9, .v (.slice A_ ((bodyB W l v (Tree.mk n1 s2 b3 l4 u5) 0).length) c_)), (11, .v (.int .i64 ((tagsN W l (Tree.mk n1 s2 b3 l4 u5) k2 + cn : Nat) : Int))), (14, .v (.int .i64 ((k2 : Nat) : Int))), (51, .v (.int .i64 (((knownI l).toNat : Nat) : Int))), (52, .v (.int .i64 ((k2 : Nat) : Int))), (55, .v (.slice A l.length c)), (56, .v (.int .i64 ((l.length : Nat) : Int))), (57, .v (.int .i64 ((q : Nat) : Int))), (90, .v (.slice A440 ((tagsK W l (Tree.mk n1 s2 b3 l4 u5) k2 ++ dm ++ (uv k2) ++ (uv ((W (Fld.mk k266 y267 y268 y269 y270 y271 y272 l273) (Tree.at_ (Tree.mk n1 s2 b3 l4 u5) q)).length))).length) c441)), (91, .v (.slice A389 ((W (Fld.mk k266 y267 y268 y269 y270 y271 y272 l273) (Tree.at_ (Tree.mk n1 s2 b3 l4 u5) q)).length) c390))] hW448 hE449 fun a452 hE453 => ?_
              clear hE449
              refine of_op (wpOp_append hW448 hE453 (k := 1) (d := 92) (t := 22) (e := 5) (size := 1) (bytes := 1) (A := A440) (As := A389) (m0 := ((tagsK W l (Tree.mk n1 s2 b3 l4 u5) k2 ++ dm ++ (uv k2) ++ (uv ((W (Fld.mk k266 y267 y268 y269 y270 y271 y272 l273) (Tree.at_ (Tree.mk n1 s2 b3 l4 u5) q)).length))).length)) (c := c441) (m := ((W (Fld.mk k266 y267 y268 y269 y270 y271 y272 l273) (Tree.at_ (Tree.mk n1 s2 b3 l4 u5) q)).length)) (cs := c390) (xs := (bc (tagsK W l (Tree.mk n1 s2 b3 l4 u5) k2 ++ dm ++ (uv k2) ++ (uv ((W (Fld.mk k266 y267 y268 y269 y270 y271 y272 l273) (Tree.at_ (Tree.mk n1 s2 b3 l4 u5) q)).length))))) (news := bc (W (Fld.mk k266 y267 y268 y269 y270 y271 y272 l273) (Tree.at_ (Tree.mk n1 s2 b3 l4 u5) q))) (by kernel_rfl) (by kernel_rfl) rfl (own_src (hW448.own 2 _ rfl) (bc_one _)) (own_cap (hW448.own 2 _ rfl)) (by have h_ := congrArg List.length hB2; rw [tagB_pos he264 (by omega) (by simpa using hc349)] at h_; simp only [List.length_append] at h_ ⊢; omega) fun A454 c455 a456 w457 hF458 hW459 hE460 => ?_)
              clear hE453 hW448
              have er461 : (⟨A454, c455, 5, 1, (tagsK W l (Tree.mk n1 s2 b3 l4 u5) k2 ++ dm ++ (uv k2) ++ (uv ((W (Fld.mk k266 y267 y268 y269 y270 y271 y272 l273) (Tree.at_ (Tree.mk n1 s2 b3 l4 u5) q)).length))).length + (W (Fld.mk k266 y267 y268 y269 y270 y271 y272 l273) (Tree.at_ (Tree.mk n1 s2 b3 l4 u5) q)).length, bc (tagsK W l (Tree.mk n1 s2 b3 l4 u5) k2 ++ dm ++ (uv k2) ++ (uv ((W (Fld.mk k266 y267 y268 y269 y270 y271 y272 l273) (Tree.at_ (Tree.mk n1 s2 b3 l4 u5) q)).length))) ++ bc (W (Fld.mk k266 y267 y268 y269 y270 y271 y272 l273) (Tree.at_ (Tree.mk n1 s2 b3 l4 u5) q))⟩ : Rw) = brow A454 c455 5 (tagsK W l (Tree.mk n1 s2 b3 l4 u5) k2 ++ dm ++ (uv k2) ++ (uv ((W (Fld.mk k266 y267 y268 y269 y270 y271 y272 l273) (Tree.at_ (Tree.mk n1 s2 b3 l4 u5) q)).length)) ++ (W (Fld.mk k266 y267 y268 y269 y270 y271 y272 l273) (Tree.at_ (Tree.mk n1 s2 b3 l4 u5) q))) := brow_eq (rfl) rfl
              obtain ⟨hW462, hF464⟩ := hW459.rowEq 1 [brow A_ c_ 5 (bodyB W l v (Tree.mk n1 s2 b3 l4 u5) 0), brow A454 c455 5 (tagsK W l (Tree.mk n1 s2 b3 l4 u5) k2 ++ dm ++ (uv k2) ++ (uv ((W (Fld.mk k266 y267 y268 y269 y270 y271 y272 l273) (Tree.at_ (Tree.mk n1 s2 b3 l4 u5) q)).length)) ++ (W (Fld.mk k266 y267 y268 y269 y270 y271 y272 l273) (Tree.at_ (Tree.mk n1 s2 b3 l4 u5) q))), brow A389 c390 5 (W (Fld.mk k266 y267 y268 y269 y270 y271 y272 l273) (Tree.at_ (Tree.mk n1 s2 b3 l4 u5) q)), brow A407 c408 5 (uv k2), brow A433 c434 5 (uv ((W (Fld.mk k266 y267 y268 y269 y270 y271 y272 l273) (Tree.at_ (Tree.mk n1 s2 b3 l4 u5) q)).length))] er461
              clear hW459
              have hE465 := EnvOk.pick hE460 (ks := [0, 1, 2, 7, 9, 11, 14, 51, 52, 55, 56, 57, 90, 91, 92]) (env' := [(0, .v (.slice A l.length c)), (1, .v (.int .i64 v)), (2, .v (.bool flex)), (7, .p 0 0), (9, .v (.slice A_ ((bodyB W l v (Tree.mk n1 s2 b3 l4 u5) 0).length) c_)), (11, .v (.int .i64 ((tagsN W l (Tree.mk n1 s2 b3 l4 u5) k2 + cn : Nat) : Int))), (14, .v (.int .i64 ((k2 : Nat) : Int))), (51, .v (.int .i64 (((knownI l).toNat : Nat) : Int))), (52, .v (.int .i64 ((k2 : Nat) : Int))), (55, .v (.slice A l.length c)), (56, .v (.int .i64 ((l.length : Nat) : Int))), (57, .v (.int .i64 ((q : Nat) : Int))), (90, .v (.slice A440 ((tagsK W l (Tree.mk n1 s2 b3 l4 u5) k2 ++ dm ++ (uv k2) ++ (uv ((W (Fld.mk k266 y267 y268 y269 y270 y271 y272 l273) (Tree.at_ (Tree.mk n1 s2 b3 l4 u5) q)).length))).length) c441)), (91, .v (.slice A389 ((W (Fld.mk k266 y267 y268 y269 y270 y271 y272 l273) (Tree.at_ (Tree.mk n1 s2 b3 l4 u5) q)).length) c390)), (92, .v (.slice A454 ((tagsK W l (Tree.mk n1 s2 b3 l4 u5) k2 ++ dm ++ (uv k2) ++ (uv ((W (Fld.mk k266 y267 y268 y269 y270 y271 y272 l273) (Tree.at_ (Tree.mk n1 s2 b3 l4 u5) q)).length))).length + (W (Fld.mk k266 y267 y268 y269 y270 y271 y272 l273) (Tree.at_ (Tree.mk n1 s2 b3 l4 u5) q)).length) c455))]) (by kernel_rfl)
              have hE463 := hE465.cast (env' := [(0, .v (.slice A l.length c)), (1, .v (.int .i64 v)), (2, .v (.bool flex)), (7, .p 0 0), (9, .v (.slice A_ ((bodyB W l v (Tree.mk n1 s2 b3 l4 u5) 0).length) c_)), (11, .v (.int .i64 ((tagsN W l (Tree.mk n1 s2 b3 l4 u5) k2 + cn : Nat) : Int))), (14, .v (.int .i64 ((k2 : Nat) : Int))), (51, .v (.int .i64 (((knownI l).toNat : Nat) : Int))), (52, .v (.int .i64 ((k2 : Nat) : Int))), (55, .v (.slice A l.length c)), (56, .v (.int .i64 ((l.length : Nat) : Int))), (57, .v (.int .i64 ((q : Nat) : Int))), (90, .v (.slice A440 ((tagsK W l (Tree.mk n1 s2 b3 l4 u5) k2 ++ dm ++ (uv k2) ++ (uv ((W (Fld.mk k266 y267 y268 y269 y270 y271 y272 l273) (Tree.at_ (Tree.mk n1 s2 b3 l4 u5) q)).length))).length) c441)), (91, .v (.slice A389 ((W (Fld.mk k266 y267 y268 y269 y270 y271 y272 l273) (Tree.at_ (Tree.mk n1 s2 b3 l4 u5) q)).length) c390)), (92, .v (.slice A454 ((tagsK W l (Tree.mk n1 s2 b3 l4 u5) k2 ++ dm ++ (uv k2) ++ (uv ((W (Fld.mk k266 y267 y268 y269 y270 y271 y272 l273) (Tree.at_ (Tree.mk n1 s2 b3 l4 u5) q)).length)) ++ (W (Fld.mk k266 y267 y268 y269 y270 y271 y272 l273) (Tree.at_ (Tree.mk n1 s2 b3 l4 u5) q))).length) c455))]) (by simp only [List.length_append, List.length_cons, List.length_nil, Nat.zero_add])
              clear hE460
              clear hE465
              refine go_rn [12] [] [(0, .v (.slice A l.length c)), (1, .v (.int .i64 v)), (2, .v (.bool flex)), (7, .p 0 0), (9, .v (.slice A_ ((bodyB W l v (Tree.mk n1 s2 b3 l4 u5) 0).length) c_)), (10, .v (.slice A454 ((tagsK W l (Tree.mk n1 s2 b3 l4 u5) k2 ++ dm ++ (uv k2) ++ (uv ((W (Fld.mk k266 y267 y268 y269 y270 y271 y272 l273) (Tree.at_ (Tree.mk n1 s2 b3 l4 u5) q)).length)) ++ (W (Fld.mk k266 y267 y268 y269 y270 y271 y272 l273) (Tree.at_ (Tree.mk n1 s2 b3 l4 u5) q))).length) c455)), (11, .v (.int .i64 ((tagsN W l (Tree.mk n1 s2 b3 l4 u5) k2 + cn : Nat) : Int))), (14, .v (.int .i64 ((k2 : Nat) : Int))), (51, .v (.int .i64 (((knownI l).toNat : Nat) : Int))), (52, .v (.int .i64 ((k2 : Nat) : Int))), (55, .v (.slice A l.length c)), (56, .v (.int .i64 ((l.length : Nat) : Int))), (57, .v (.int .i64 ((q : Nat) : Int)))] hW462 hE463 fun a466 hE467 => ?_
              clear hE463
              refine wpOps_nil ?_
              refine then_normal ?_
              refine go_region [0, 1, 2] (by kernel_rfl) ?_
              refine go_rn [0, 1, 2] [] [(0, .v (.slice A l.length c)), (1, .v (.int .i64 v)), (2, .v (.bool flex)), (7, .p 0 0), (9, .v (.slice A_ ((bodyB W l v (Tree.mk n1 s2 b3 l4 u5) 0).length) c_)), (10, .v (.slice A454 ((tagsK W l (Tree.mk n1 s2 b3 l4 u5) k2 ++ dm ++ (uv k2) ++ (uv ((W (Fld.mk k266 y267 y268 y269 y270 y271 y272 l273) (Tree.at_ (Tree.mk n1 s2 b3 l4 u5) q)).length)) ++ (W (Fld.mk k266 y267 y268 y269 y270 y271 y272 l273) (Tree.at_ (Tree.mk n1 s2 b3 l4 u5) q))).length) c455)), (11, .v (.int .i64 (IntKind.i64.wrap (((tagsN W l (Tree.mk n1 s2 b3 l4 u5) k2 + cn : Nat) : Int) + 1)))), (14, .v (.int .i64 ((k2 : Nat) : Int))), (51, .v (.int .i64 (((knownI l).toNat : Nat) : Int))), (52, .v (.int .i64 ((k2 : Nat) : Int))), (55, .v (.slice A l.length c)), (56, .v (.int .i64 ((l.length : Nat) : Int))), (57, .v (.int .i64 ((q : Nat) : Int)))] hW462 hE467 fun a468 hE469 => ?_
              clear hE467
              refine wpOps_nil ?_
              refine block_normal ?_
              refine then_normal ?_
              refine go_region [0, 1] (by kernel_rfl) ?_
              refine go_rn [0, 1] [] [(0, .v (.slice A l.length c)), (1, .v (.int .i64 v)), (2, .v (.bool flex)), (7, .p 0 0), (9, .v (.slice A_ ((bodyB W l v (Tree.mk n1 s2 b3 l4 u5) 0).length) c_)), (10, .v (.slice A454 ((tagsK W l (Tree.mk n1 s2 b3 l4 u5) k2 ++ dm ++ (uv k2) ++ (uv ((W (Fld.mk k266 y267 y268 y269 y270 y271 y272 l273) (Tree.at_ (Tree.mk n1 s2 b3 l4 u5) q)).length)) ++ (W (Fld.mk k266 y267 y268 y269 y270 y271 y272 l273) (Tree.at_ (Tree.mk n1 s2 b3 l4 u5) q))).length) c455)), (11, .v (.int .i64 (IntKind.i64.wrap (((tagsN W l (Tree.mk n1 s2 b3 l4 u5) k2 + cn : Nat) : Int) + 1)))), (14, .v (.int .i64 ((k2 : Nat) : Int))), (51, .v (.int .i64 (((knownI l).toNat : Nat) : Int))), (52, .v (.int .i64 ((k2 : Nat) : Int))), (55, .v (.slice A l.length c)), (56, .v (.int .i64 ((l.length : Nat) : Int))), (57, .v (.int .i64 (IntKind.i64.wrap (((q : Nat) : Int) + 1))))] hW462 hE469 fun a470 hE471 => ?_
              clear hE469
              refine wpOps_nil ?_
              refine then_normal ?_
              obtain ⟨hE472, hW473, hF474⟩ := hW462.cutB hE471 1 [⟨b21, 0, [.int .i64 n1, .slice A6 s2.length c7, .bool b3, .slice A8 l4.length c9, .slice A10 u5.length c11], true⟩] [(0, .v (.slice A l.length c)), (1, .v (.int .i64 v)), (2, .v (.bool flex)), (7, .p 0 0), (9, .v (.slice A_ ((bodyB W l v (Tree.mk n1 s2 b3 l4 u5) 0).length) c_)), (10, .v (.slice A454 ((tagsK W l (Tree.mk n1 s2 b3 l4 u5) k2 ++ dm ++ (uv k2) ++ (uv ((W (Fld.mk k266 y267 y268 y269 y270 y271 y272 l273) (Tree.at_ (Tree.mk n1 s2 b3 l4 u5) q)).length)) ++ (W (Fld.mk k266 y267 y268 y269 y270 y271 y272 l273) (Tree.at_ (Tree.mk n1 s2 b3 l4 u5) q))).length) c455)), (11, .v (.int .i64 (IntKind.i64.wrap (((tagsN W l (Tree.mk n1 s2 b3 l4 u5) k2 + cn : Nat) : Int) + 1)))), (14, .v (.int .i64 ((k2 : Nat) : Int))), (51, .v (.int .i64 (((knownI l).toNat : Nat) : Int))), (52, .v (.int .i64 ((k2 : Nat) : Int))), (55, .v (.slice A l.length c)), (56, .v (.int .i64 ((l.length : Nat) : Int))), (57, .v (.int .i64 (IntKind.i64.wrap (((q : Nat) : Int) + 1))))]
              obtain ⟨hW475, hF476⟩ := hW473.cutR 2 [brow A_ c_ 5 (bodyB W l v (Tree.mk n1 s2 b3 l4 u5) 0), brow A454 c455 5 (tagsK W l (Tree.mk n1 s2 b3 l4 u5) k2 ++ dm ++ (uv k2) ++ (uv ((W (Fld.mk k266 y267 y268 y269 y270 y271 y272 l273) (Tree.at_ (Tree.mk n1 s2 b3 l4 u5) q)).length)) ++ (W (Fld.mk k266 y267 y268 y269 y270 y271 y272 l273) (Tree.at_ (Tree.mk n1 s2 b3 l4 u5) q)))]
              have er477 : (tagsK W l (Tree.mk n1 s2 b3 l4 u5) k2 ++ dm ++ (uv k2) ++ (uv ((W (Fld.mk k266 y267 y268 y269 y270 y271 y272 l273) (Tree.at_ (Tree.mk n1 s2 b3 l4 u5) q)).length)) ++ (W (Fld.mk k266 y267 y268 y269 y270 y271 y272 l273) (Tree.at_ (Tree.mk n1 s2 b3 l4 u5) q))) = (tagsK W l (Tree.mk n1 s2 b3 l4 u5) k2 ++ (dm ++ (uv k2 ++ uv (W (Fld.mk k266 y267 y268 y269 y270 y271 y272 l273) (Tree.at_ (Tree.mk n1 s2 b3 l4 u5) q)).length ++ W (Fld.mk k266 y267 y268 y269 y270 y271 y272 l273) (Tree.at_ (Tree.mk n1 s2 b3 l4 u5) q)))) := by simp only [List.append_assoc]
              have er478 := congrArg (brow A454 c455 5) er477
              obtain ⟨hW479, hF480⟩ := hW475.rowEq 1 [brow A_ c_ 5 (bodyB W l v (Tree.mk n1 s2 b3 l4 u5) 0), brow A454 c455 5 (tagsK W l (Tree.mk n1 s2 b3 l4 u5) k2 ++ (dm ++ (uv k2 ++ uv (W (Fld.mk k266 y267 y268 y269 y270 y271 y272 l273) (Tree.at_ (Tree.mk n1 s2 b3 l4 u5) q)).length ++ W (Fld.mk k266 y267 y268 y269 y270 y271 y272 l273) (Tree.at_ (Tree.mk n1 s2 b3 l4 u5) q))))] er478
              clear hW475
              rw [er477] at hE472
              have he481 : IntKind.i64.wrap (((q : Nat) : Int) + 1) = ((q + 1 : Nat) : Int) := wrap_succ (by omega)
              rw [he481] at hE472
              have he482 : IntKind.i64.wrap (((tagsN W l (Tree.mk n1 s2 b3 l4 u5) k2 + cn : Nat) : Int) + 1) = ((tagsN W l (Tree.mk n1 s2 b3 l4 u5) k2 + (cn + 1) : Nat) : Int) := by rw [wrap_i64 (by omega) (by omega)]; omega
              rw [he482] at hE472
              exact ⟨l.length - (q + 1), by omega, q + 1, A454, c455, (dm ++ (uv k2 ++ uv (W (Fld.mk k266 y267 y268 y269 y270 y271 y272 l273) (Tree.at_ (Tree.mk n1 s2 b3 l4 u5) q)).length ++ W (Fld.mk k266 y267 y268 y269 y270 y271 y272 l273) (Tree.at_ (Tree.mk n1 s2 b3 l4 u5) q))), (cn + 1), rfl, by omega, by rw [List.append_assoc, ← tagB_pos he264 (by omega) (by simpa using hc349)]; exact hB2, by rw [Nat.add_assoc, ← tagN_pos he264 (by omega) (by simpa using hc349)]; exact hN2, hE472.pk, hW479, (Fr.trans (Fr.trans (Fr.trans (Fr.trans (Fr.trans (Fr.trans (Fr.trans (Fr.trans (Fr.trans (Fr.trans (Fr.trans (Fr.trans (Fr.trans (Fr.trans (Fr.trans (Fr.trans (Fr.trans (Fr.trans (Fr.trans hF251 hF290) hF296) hF300) hF338) hF345) hF352) hF385) hF395) hF413) hF418) hF424) hF439) hF444) hF450) hF458) hF464) hF474) hF476) hF480)⟩
            ·
              refine wp_skip ?_
              refine block_normal ?_
              refine then_normal ?_
              refine go_region [0, 1] (by kernel_rfl) ?_
              refine go_rn [0, 1] [] [(0, .v (.slice A l.length c)), (1, .v (.int .i64 v)), (2, .v (.bool flex)), (7, .p 0 0), (9, .v (.slice A_ ((bodyB W l v (Tree.mk n1 s2 b3 l4 u5) 0).length) c_)), (10, .v (.slice A3_ ((tagsK W l (Tree.mk n1 s2 b3 l4 u5) k2 ++ dm).length) c3_)), (11, .v (.int .i64 ((tagsN W l (Tree.mk n1 s2 b3 l4 u5) k2 + cn : Nat) : Int))), (14, .v (.int .i64 ((k2 : Nat) : Int))), (51, .v (.int .i64 (((knownI l).toNat : Nat) : Int))), (52, .v (.int .i64 ((k2 : Nat) : Int))), (55, .v (.slice A l.length c)), (56, .v (.int .i64 ((l.length : Nat) : Int))), (57, .v (.int .i64 (IntKind.i64.wrap (((q : Nat) : Int) + 1))))] hW344 hE348 fun a484 hE485 => ?_
              clear hE348
              refine wpOps_nil ?_
              refine then_normal ?_
              obtain ⟨hE486, hW487, hF488⟩ := hW344.cutB hE485 1 [⟨b21, 0, [.int .i64 n1, .slice A6 s2.length c7, .bool b3, .slice A8 l4.length c9, .slice A10 u5.length c11], true⟩] [(0, .v (.slice A l.length c)), (1, .v (.int .i64 v)), (2, .v (.bool flex)), (7, .p 0 0), (9, .v (.slice A_ ((bodyB W l v (Tree.mk n1 s2 b3 l4 u5) 0).length) c_)), (10, .v (.slice A3_ ((tagsK W l (Tree.mk n1 s2 b3 l4 u5) k2 ++ dm).length) c3_)), (11, .v (.int .i64 ((tagsN W l (Tree.mk n1 s2 b3 l4 u5) k2 + cn : Nat) : Int))), (14, .v (.int .i64 ((k2 : Nat) : Int))), (51, .v (.int .i64 (((knownI l).toNat : Nat) : Int))), (52, .v (.int .i64 ((k2 : Nat) : Int))), (55, .v (.slice A l.length c)), (56, .v (.int .i64 ((l.length : Nat) : Int))), (57, .v (.int .i64 (IntKind.i64.wrap (((q : Nat) : Int) + 1))))]
              have he489 : IntKind.i64.wrap (((q : Nat) : Int) + 1) = ((q + 1 : Nat) : Int) := wrap_succ (by omega)
              rw [he489] at hE486
              exact ⟨l.length - (q + 1), by omega, q + 1, A3_, c3_, dm, cn, rfl, by omega, by rw [← tagB_neg2 he264 (by simpa using hc349)]; exact hB2, by rw [← tagN_neg2 he264 (by simpa using hc349)]; exact hN2, hE486.pk, hW487, (Fr.trans (Fr.trans (Fr.trans (Fr.trans (Fr.trans (Fr.trans hF251 hF290) hF296) hF300) hF338) hF345) hF488)⟩
          ·
            have hf490 : y270 ≠ ((k2 : Nat) : Int) := by simpa using hc305
            have hE491 := hE304.cast (env' := [(0, .v (.slice A l.length c)), (1, .v (.int .i64 v)), (2, .v (.bool flex)), (7, .p 0 0), (9, .v (.slice A_ ((bodyB W l v (Tree.mk n1 s2 b3 l4 u5) 0).length) c_)), (10, .v (.slice A3_ ((tagsK W l (Tree.mk n1 s2 b3 l4 u5) k2 ++ dm).length) c3_)), (11, .v (.int .i64 ((tagsN W l (Tree.mk n1 s2 b3 l4 u5) k2 + cn : Nat) : Int))), (14, .v (.int .i64 ((k2 : Nat) : Int))), (15, .v (.int .i64 ((q : Nat) : Int))), (16, .p 1 0), (51, .v (.int .i64 (((knownI l).toNat : Nat) : Int))), (52, .v (.int .i64 ((k2 : Nat) : Int))), (55, .v (.slice A l.length c)), (56, .v (.int .i64 ((l.length : Nat) : Int))), (57, .v (.int .i64 ((q : Nat) : Int))), (66, .v (.bool false))]) (by rw [hc305])
            clear hE304
            refine go_rnD [5, 6, 7, 8, 9, 10, 11] [(0, .v (.slice A l.length c)), (1, .v (.int .i64 v)), (2, .v (.bool flex)), (7, .p 0 0), (9, .v (.slice A_ ((bodyB W l v (Tree.mk n1 s2 b3 l4 u5) 0).length) c_)), (10, .v (.slice A3_ ((tagsK W l (Tree.mk n1 s2 b3 l4 u5) k2 ++ dm).length) c3_)), (11, .v (.int .i64 ((tagsN W l (Tree.mk n1 s2 b3 l4 u5) k2 + cn : Nat) : Int))), (14, .v (.int .i64 ((k2 : Nat) : Int))), (15, .v (.int .i64 ((q : Nat) : Int))), (16, .p 1 0), (51, .v (.int .i64 (((knownI l).toNat : Nat) : Int))), (52, .v (.int .i64 ((k2 : Nat) : Int))), (55, .v (.slice A l.length c)), (56, .v (.int .i64 ((l.length : Nat) : Int))), (57, .v (.int .i64 ((q : Nat) : Int))), (73, .v (.bool false))] 0 (panicFree_then (panicFree_block (panicFree_then (panicFree_then (panicFree_block (panicFree_block (panicFree_then (panicFree_then (panicFree_block (panicFree_then panicFree_body)))))))))) (fun _ h => h.cells) hT302 hE491 fun a492 hE493 => ?_
            clear hE491
            refine anyC_done (by kernel_rfl) ?_ _
            refine then_normal ?_
            refine cond_false hE493 (b := false) (by kernel_rfl) rfl ?_
            refine wp_skip ?_
            refine block_normal ?_
            refine then_normal ?_
            refine go_region [0, 1] (by kernel_rfl) ?_
            refine go_rn [0, 1] [] [(0, .v (.slice A l.length c)), (1, .v (.int .i64 v)), (2, .v (.bool flex)), (7, .p 0 0), (9, .v (.slice A_ ((bodyB W l v (Tree.mk n1 s2 b3 l4 u5) 0).length) c_)), (10, .v (.slice A3_ ((tagsK W l (Tree.mk n1 s2 b3 l4 u5) k2 ++ dm).length) c3_)), (11, .v (.int .i64 ((tagsN W l (Tree.mk n1 s2 b3 l4 u5) k2 + cn : Nat) : Int))), (14, .v (.int .i64 ((k2 : Nat) : Int))), (51, .v (.int .i64 (((knownI l).toNat : Nat) : Int))), (52, .v (.int .i64 ((k2 : Nat) : Int))), (55, .v (.slice A l.length c)), (56, .v (.int .i64 ((l.length : Nat) : Int))), (57, .v (.int .i64 (IntKind.i64.wrap (((q : Nat) : Int) + 1))))] hW301 hE493 fun a494 hE495 => ?_
            clear hE493
            refine wpOps_nil ?_
            refine then_normal ?_
            obtain ⟨hE496, hW497, hF498⟩ := hW301.cutB hE495 1 [⟨b21, 0, [.int .i64 n1, .slice A6 s2.length c7, .bool b3, .slice A8 l4.length c9, .slice A10 u5.length c11], true⟩] [(0, .v (.slice A l.length c)), (1, .v (.int .i64 v)), (2, .v (.bool flex)), (7, .p 0 0), (9, .v (.slice A_ ((bodyB W l v (Tree.mk n1 s2 b3 l4 u5) 0).length) c_)), (10, .v (.slice A3_ ((tagsK W l (Tree.mk n1 s2 b3 l4 u5) k2 ++ dm).length) c3_)), (11, .v (.int .i64 ((tagsN W l (Tree.mk n1 s2 b3 l4 u5) k2 + cn : Nat) : Int))), (14, .v (.int .i64 ((k2 : Nat) : Int))), (51, .v (.int .i64 (((knownI l).toNat : Nat) : Int))), (52, .v (.int .i64 ((k2 : Nat) : Int))), (55, .v (.slice A l.length c)), (56, .v (.int .i64 ((l.length : Nat) : Int))), (57, .v (.int .i64 (IntKind.i64.wrap (((q : Nat) : Int) + 1))))]
            have he499 : IntKind.i64.wrap (((q : Nat) : Int) + 1) = ((q + 1 : Nat) : Int) := wrap_succ (by omega)
            rw [he499] at hE496
            exact ⟨l.length - (q + 1), by omega, q + 1, A3_, c3_, dm, cn, rfl, by omega, by rw [← tagB_neg1 he264 (by omega)]; exact hB2, by rw [← tagN_neg1 he264 (by omega)]; exact hN2, hE496.pk, hW497, (Fr.trans (Fr.trans (Fr.trans (Fr.trans hF251 hF290) hF296) hF300) hF498)⟩
        ·
          have hf500 := of_decide_eq_false hc254
          refine wp_exit ?_
          refine then_exit ?_
          refine then_exit ?_
          refine block_exit ?_
          refine block_normal ?_
          refine then_normal ?_
          refine go_region [0, 1] (by kernel_rfl) ?_
          refine go_rn [0, 1] [] [(0, .v (.slice A l.length c)), (1, .v (.int .i64 v)), (2, .v (.bool flex)), (7, .p 0 0), (9, .v (.slice A_ ((bodyB W l v (Tree.mk n1 s2 b3 l4 u5) 0).length) c_)), (10, .v (.slice A3_ ((tagsK W l (Tree.mk n1 s2 b3 l4 u5) k2 ++ dm).length) c3_)), (11, .v (.int .i64 ((tagsN W l (Tree.mk n1 s2 b3 l4 u5) k2 + cn : Nat) : Int))), (51, .v (.int .i64 (((knownI l).toNat : Nat) : Int))), (52, .v (.int .i64 (IntKind.i64.wrap (((k2 : Nat) : Int) + 1))))] hW248 hE253 fun a501 hE502 => ?_
          clear hE253
          refine wpOps_nil ?_
          refine then_normal ?_
          have er503 : (tagsK W l (Tree.mk n1 s2 b3 l4 u5) k2 ++ dm) = (tagsK W l (Tree.mk n1 s2 b3 l4 u5) (k2 + 1)) := by rw [tagsK, ← hB2, tagB_end (by omega), List.append_nil]
          have er504 := congrArg (brow A3_ c3_ 5) er503
          obtain ⟨hW505, hF506⟩ := hW248.rowEq 1 [brow A_ c_ 5 (bodyB W l v (Tree.mk n1 s2 b3 l4 u5) 0), brow A3_ c3_ 5 (tagsK W l (Tree.mk n1 s2 b3 l4 u5) (k2 + 1))] er504
          clear hW248
          rw [er503] at hE502
          have he507 : IntKind.i64.wrap (((k2 : Nat) : Int) + 1) = ((k2 + 1 : Nat) : Int) := wrap_succ (by omega)
          rw [he507] at hE502
          have he508 : ((tagsN W l (Tree.mk n1 s2 b3 l4 u5) k2 + cn : Nat) : Int) = ((tagsN W l (Tree.mk n1 s2 b3 l4 u5) (k2 + 1) : Nat) : Int) := by rw [tagsN, ← hN2, tagN_end (by omega), Nat.add_zero]
          rw [he508] at hE502
          exact ⟨(knownI l).toNat - (k2 + 1), by omega, k2 + 1, A3_, c3_, rfl, by omega, hE502.pk, hW505, (Fr.trans (Fr.trans (Fr.trans hF231 hF243) hF251) hF506)⟩
      ·
        have hf509 := of_decide_eq_false hc234
        refine wp_exit ?_
        refine then_exit ?_
        refine then_exit ?_
        refine block_exit ?_
        refine then_normal ?_
        refine wp_seq ?_
        refine go_seq_region [0, 1, 2, 3, 4, 5] (by kernel_rfl) ?_
        refine go_rn [0, 1, 2] [3, 4, 5] [(9, .v (.slice A_ ((bodyB W l v (Tree.mk n1 s2 b3 l4 u5) 0).length) c_)), (10, .v (.slice A2_ ((tagsK W l (Tree.mk n1 s2 b3 l4 u5) k2).length) c2_)), (11, .v (.int .i64 ((tagsN W l (Tree.mk n1 s2 b3 l4 u5) k2 : Nat) : Int))), (97, .v (.slice A l.length c)), (99, .v (.slice A10 u5.length c11))] hW228 hE233 fun a510 hE511 => ?_
        clear hE233
        refine of_op (wpOp_call hE511 (f := 38) (vs := [.slice A l.length c, .slice A10 u5.length c11]) (d := 100) (by kernel_rfl) Tryz.call38 (sUnknown _ _ l _ _ u5 _ _ ⟨xfs, (h1.move hW228.step nilM hW228.imm), (fun i_ x_ h_ => ((h2 i_ x_ h_).move hW228.step nilM hW228.imm))⟩ (h17.move hW228.step nilM hW228.imm)) ?_)
        rintro e_ w516 ⟨A514, c515, rfl, hr513, hs512⟩
        have hr517 := hr513.move (Step.refl _ Nil) nilM (hW228.laid (G := F) hs512)
        refine ⟨_, rfl, fun a518 hE519 => ?_⟩
        have hW520 := hW228.next_nil hs512
        have hF521 := hW228.frN hs512
        clear hE511
        refine go_rn [4, 5] [] [(9, .v (.slice A_ ((bodyB W l v (Tree.mk n1 s2 b3 l4 u5) 0).length) c_)), (10, .v (.slice A2_ ((tagsK W l (Tree.mk n1 s2 b3 l4 u5) k2).length) c2_)), (11, .v (.int .i64 ((tagsN W l (Tree.mk n1 s2 b3 l4 u5) k2 : Nat) : Int))), (100, .v (.slice A514 ((unknownT l u5).length) c515)), (101, .v (.int .i64 (((unknownT l u5).length : Nat) : Int))), (102, .v (.int .i64 0))] hW520 hE519 fun a522 hE523 => ?_
        clear hE519
        refine wpOps_nil ?_
        refine then_normal ?_
        refine wp_block ?_
        obtain ⟨cs524, h525, h526⟩ := hr517.ex
        have hsm527 := h525.small
        have hkk2 : k2 = (knownI l).toNat := by omega
        have hc2 := hcnt k2
        have hm2 := hmono k2 (by omega)
        have er528 : (tagsK W l (Tree.mk n1 s2 b3 l4 u5) k2) = (tagsK W l (Tree.mk n1 s2 b3 l4 u5) k2 ++ tagsB ((unknownT l u5).take 0)) := (List.append_nil _).symm
        have er529 := congrArg (brow A2_ c2_ 5) er528
        obtain ⟨hW530, hF531⟩ := hW520.rowEq 1 [brow A_ c_ 5 (bodyB W l v (Tree.mk n1 s2 b3 l4 u5) 0), brow A2_ c2_ 5 (tagsK W l (Tree.mk n1 s2 b3 l4 u5) k2 ++ tagsB ((unknownT l u5).take 0))] er529
        clear hW520
        rw [er528] at hE523
        refine wp_loop_ghost (fun n_ a_ w_ => ∃ (k : Nat) (A4_ : Option Addr) (c4_ : Nat), n_ = (unknownT l u5).length - k ∧ k ≤ (unknownT l u5).length ∧ LInv hW530 132 [⟨b21, 0, [.int .i64 n1, .slice A6 s2.length c7, .bool b3, .slice A8 l4.length c9, .slice A10 u5.length c11], true⟩] [brow A_ c_ 5 (bodyB W l v (Tree.mk n1 s2 b3 l4 u5) 0), brow A4_ c4_ 5 (tagsK W l (Tree.mk n1 s2 b3 l4 u5) k2 ++ tagsB ((unknownT l u5).take k))] [(9, .v (.slice A_ ((bodyB W l v (Tree.mk n1 s2 b3 l4 u5) 0).length) c_)), (10, .v (.slice A4_ ((tagsK W l (Tree.mk n1 s2 b3 l4 u5) k2 ++ tagsB ((unknownT l u5).take k)).length) c4_)), (11, .v (.int .i64 ((tagsN W l (Tree.mk n1 s2 b3 l4 u5) k2 + k : Nat) : Int))), (100, .v (.slice A514 ((unknownT l u5).length) c515)), (101, .v (.int .i64 (((unknownT l u5).length : Nat) : Int))), (102, .v (.int .i64 ((k : Nat) : Int)))] a_ w_) ((unknownT l u5).length) ⟨0, A2_, c2_, by omega, by omega, hE523.pk, hW530, Fr.refl _ _ _⟩ ?_
        clear hE523
        rintro n532 a533 w534 ⟨k, A4_, c4_, hn537, hk538, hE535, hW536, hF539⟩
        refine go_sp [(9, .v (.slice A_ ((bodyB W l v (Tree.mk n1 s2 b3 l4 u5) 0).length) c_)), (10, .v (.slice A4_ ((tagsK W l (Tree.mk n1 s2 b3 l4 u5) k2 ++ tagsB ((unknownT l u5).take k)).length) c4_)), (11, .v (.int .i64 ((tagsN W l (Tree.mk n1 s2 b3 l4 u5) k2 + k : Nat) : Int))), (100, .v (.slice A514 ((unknownT l u5).length) c515)), (101, .v (.int .i64 (((unknownT l u5).length : Nat) : Int))), (102, .v (.int .i64 ((k : Nat) : Int))), (103, .v (.bool (decide (((k : Nat) : Int) < (((unknownT l u5).length : Nat) : Int)))))] hW536 hE535 fun a540 hE541 => ?_
        clear hE535
        refine wp_seq ?_
        refine cond_of hE541 (b := decide (((k : Nat) : Int) < (((unknownT l u5).length : Nat) : Int))) (by kernel_rfl) (fun hc542 => ?_) (fun hc542 => ?_)
        ·
          have hf543 := of_decide_eq_true hc542
          refine wp_skip ?_
          refine then_normal ?_
          refine wp_seq ?_
          refine wp_block ?_
          refine go_seq_region [0, 1, 2, 3] (by kernel_rfl) ?_
          obtain ⟨b544, o545, hA546, hl547, hat548⟩ := Slots.get h525 (i := k) (by omega)
          obtain ⟨⟨k549, s550⟩, he551⟩ : ∃ x, (unknownT l u5)[k]? = some x := ⟨_, List.getElem?_eq_getElem (by omega)⟩
          obtain ⟨⟨A552, c553, hcs554, hb555⟩, h556, h557⟩ := h526 k k549 s550 he551
          rw [hcs554] at hat548
          refine of_op (wpOp_index hE541 (t := 24) (A := A514) (m := (unknownT l u5).length) (q := ((k : Nat) : Int)) (d := 104) (by kernel_rfl) (e := 63) (size := 2) (bytes := 32) (by kernel_rfl) hA546 rfl (by omega) fun a558 hE559 => ?_)
          clear hE541
          refine of_op (wpOp_load hE559 (t := 63) (b := b544) (o := o545 + k * 2) (d := 105) (by kernel_rfl) (cs := [.int .u32 k549, .slice A552 s550.length c553]) (v := .agg #[.int .u32 k549, .slice A552 s550.length c553]) (by kernel_rfl) (AtF.move hat548 (Fr.trans hF531 hF539).step immM (Fr.trans hF531 hF539).to').at_ fun a560 hE561 => ?_)
          clear hE559
          refine of_op (wpOp_alloc hW536 hE561 (d := 19) (cs := [.int .u32 0, .slice none 0 0]) (by kernel_rfl) fun b562 a563 w564 hb565 hz566 hF567 hW568 hE569 => ?_)
          clear hE561 hW536
          refine of_op (wpOp_store hW568 hE569 (oi := 1) (cs := [.int .u32 k549, .slice A552 s550.length c553]) (by kernel_rfl) fun w570 hF571 hW572 hE573 => ?_)
          clear hE569 hW568
          refine wpOps_nil ?_
          refine then_normal ?_
          refine go_seq_region [0, 1, 2, 3] (by kernel_rfl) ?_
          refine go_rn [0, 1] [2, 3] [(9, .v (.slice A_ ((bodyB W l v (Tree.mk n1 s2 b3 l4 u5) 0).length) c_)), (10, .v (.slice A4_ ((tagsK W l (Tree.mk n1 s2 b3 l4 u5) k2 ++ tagsB ((unknownT l u5).take k)).length) c4_)), (11, .v (.int .i64 ((tagsN W l (Tree.mk n1 s2 b3 l4 u5) k2 + k : Nat) : Int))), (19, .p 1 0), (100, .v (.slice A514 ((unknownT l u5).length) c515)), (101, .v (.int .i64 (((unknownT l u5).length : Nat) : Int))), (102, .v (.int .i64 ((k : Nat) : Int))), (107, .v (.slice A552 s550.length c553))] hW572 hE573 fun a574 hE575 => ?_
          clear hE573
          have hwl577 := whole_le s550
          refine of_op (wpOp_call hE575 (f := 39) (vs := [.slice A552 s550.length c553]) (d := 108) (by kernel_rfl) Tryz.call39 (sWhole _ _ s550 (hb555.move (Fr.trans (Fr.trans (Fr.trans hF531 hF539) hF567) hF571).step immM (Fr.trans (Fr.trans (Fr.trans hF531 hF539) hF567) hF571).to').le _) ?_)
          rintro e_ w578 ⟨rfl, hs576⟩
          refine ⟨_, rfl, fun a579 hE580 => ?_⟩
          have hW581 := hW572.next_nil hs576
          have hF582 := hW572.frN hs576
          clear hE575 hW572
          refine go_rn [3] [] [(9, .v (.slice A_ ((bodyB W l v (Tree.mk n1 s2 b3 l4 u5) 0).length) c_)), (10, .v (.slice A4_ ((tagsK W l (Tree.mk n1 s2 b3 l4 u5) k2 ++ tagsB ((unknownT l u5).take k)).length) c4_)), (11, .v (.int .i64 ((tagsN W l (Tree.mk n1 s2 b3 l4 u5) k2 + k : Nat) : Int))), (19, .p 1 0), (20, .v (.slice A552 ((whole s550).length) c553)), (100, .v (.slice A514 ((unknownT l u5).length) c515)), (101, .v (.int .i64 (((unknownT l u5).length : Nat) : Int))), (102, .v (.int .i64 ((k : Nat) : Int)))] hW581 hE580 fun a583 hE584 => ?_
          clear hE580
          refine wpOps_nil ?_
          refine then_normal ?_
          refine go_seq_region [0, 1, 2, 3, 4, 5, 6, 7, 8, 9, 10, 11, 12, 13] (by kernel_rfl) ?_
          refine go_rn [0, 1, 2, 3] [4, 5, 6, 7, 8, 9, 10, 11, 12, 13] [(9, .v (.slice A_ ((bodyB W l v (Tree.mk n1 s2 b3 l4 u5) 0).length) c_)), (11, .v (.int .i64 ((tagsN W l (Tree.mk n1 s2 b3 l4 u5) k2 + k : Nat) : Int))), (20, .v (.slice A552 ((whole s550).length) c553)), (100, .v (.slice A514 ((unknownT l u5).length) c515)), (101, .v (.int .i64 (((unknownT l u5).length : Nat) : Int))), (102, .v (.int .i64 ((k : Nat) : Int))), (109, .v (.slice A4_ ((tagsK W l (Tree.mk n1 s2 b3 l4 u5) k2 ++ tagsB ((unknownT l u5).take k)).length) c4_)), (112, .v (.int .u64 (IntKind.u64.wrap k549)))] hW581 hE584 fun a585 hE586 => ?_
          clear hE584
          have he587 : IntKind.u64.wrap k549 = ((k549.toNat : Nat) : Int) := by simp only [wrap_u64, wrap_u32, wrap_u16, IntKind.wrap_i64, IntKind.wrap_i32]; omega
          have hE589 := EnvOk.pick hE586 (ks := [9, 11, 20, 100, 101, 102, 109, 112]) (env' := [(9, .v (.slice A_ ((bodyB W l v (Tree.mk n1 s2 b3 l4 u5) 0).length) c_)), (11, .v (.int .i64 ((tagsN W l (Tree.mk n1 s2 b3 l4 u5) k2 + k : Nat) : Int))), (20, .v (.slice A552 ((whole s550).length) c553)), (100, .v (.slice A514 ((unknownT l u5).length) c515)), (101, .v (.int .i64 (((unknownT l u5).length : Nat) : Int))), (102, .v (.int .i64 ((k : Nat) : Int))), (109, .v (.slice A4_ ((tagsK W l (Tree.mk n1 s2 b3 l4 u5) k2 ++ tagsB ((unknownT l u5).take k)).length) c4_)), (112, .v (.int .u64 (IntKind.u64.wrap k549)))]) (by kernel_rfl)
          have hE588 := hE589.cast (env' := [(9, .v (.slice A_ ((bodyB W l v (Tree.mk n1 s2 b3 l4 u5) 0).length) c_)), (11, .v (.int .i64 ((tagsN W l (Tree.mk n1 s2 b3 l4 u5) k2 + k : Nat) : Int))), (20, .v (.slice A552 ((whole s550).length) c553)), (100, .v (.slice A514 ((unknownT l u5).length) c515)), (101, .v (.int .i64 (((unknownT l u5).length : Nat) : Int))), (102, .v (.int .i64 ((k : Nat) : Int))), (109, .v (.slice A4_ ((tagsK W l (Tree.mk n1 s2 b3 l4 u5) k2 ++ tagsB ((unknownT l u5).take k)).length) c4_)), (112, .v (.int .u64 ((k549.toNat : Nat) : Int)))]) (by rw [he587])
          clear hE586 hE589
          refine of_op (wpOp_call hE588 (f := 93) (vs := [.int .u64 ((k549.toNat : Nat) : Int)]) (d := 113) (by kernel_rfl) Tryz.call93 (sUvarint k549.toNat (by omega) _) ?_)
          rintro e_ w594 ⟨A592, c593, rfl, ho591, hs590⟩
          refine ⟨_, rfl, fun a595 hE596 => ?_⟩
          obtain ⟨hW597, hF598⟩ := hW581.frFresh hs590 (brow A592 c593 5 (uv k549.toNat)) (Nat.le_refl _) ho591
          clear hE588 hW581
          refine of_op (wpOp_append hW597 hE596 (k := 1) (d := 114) (t := 22) (e := 5) (size := 1) (bytes := 1) (A := A4_) (As := A592) (m0 := ((tagsK W l (Tree.mk n1 s2 b3 l4 u5) k2 ++ tagsB ((unknownT l u5).take k)).length)) (c := c4_) (m := ((uv k549.toNat).length)) (cs := c593) (xs := (bc (tagsK W l (Tree.mk n1 s2 b3 l4 u5) k2 ++ tagsB ((unknownT l u5).take k)))) (news := bc (uv k549.toNat)) (by kernel_rfl) (by kernel_rfl) rfl (own_src (hW597.own 2 _ rfl) (bc_one _)) (own_cap (hW597.own 2 _ rfl)) (by have h_ := tagsB_le (l := (unknownT l u5)) (k + 1); rw [tagsB_succ he551] at h_; simp only [List.length_append] at h_ ⊢; omega) fun A599 c600 a601 w602 hF603 hW604 hE605 => ?_)
          clear hE596 hW597
          have er606 : (⟨A599, c600, 5, 1, (tagsK W l (Tree.mk n1 s2 b3 l4 u5) k2 ++ tagsB ((unknownT l u5).take k)).length + (uv k549.toNat).length, bc (tagsK W l (Tree.mk n1 s2 b3 l4 u5) k2 ++ tagsB ((unknownT l u5).take k)) ++ bc (uv k549.toNat)⟩ : Rw) = brow A599 c600 5 (tagsK W l (Tree.mk n1 s2 b3 l4 u5) k2 ++ tagsB ((unknownT l u5).take k) ++ (uv k549.toNat)) := brow_eq (rfl) rfl
          obtain ⟨hW607, hF609⟩ := hW604.rowEq 1 [brow A_ c_ 5 (bodyB W l v (Tree.mk n1 s2 b3 l4 u5) 0), brow A599 c600 5 (tagsK W l (Tree.mk n1 s2 b3 l4 u5) k2 ++ tagsB ((unknownT l u5).take k) ++ (uv k549.toNat)), brow A592 c593 5 (uv k549.toNat)] er606
          clear hW604
          have hE610 := EnvOk.pick hE605 (ks := [9, 11, 20, 100, 101, 102, 109, 112, 113, 114]) (env' := [(9, .v (.slice A_ ((bodyB W l v (Tree.mk n1 s2 b3 l4 u5) 0).length) c_)), (11, .v (.int .i64 ((tagsN W l (Tree.mk n1 s2 b3 l4 u5) k2 + k : Nat) : Int))), (20, .v (.slice A552 ((whole s550).length) c553)), (100, .v (.slice A514 ((unknownT l u5).length) c515)), (101, .v (.int .i64 (((unknownT l u5).length : Nat) : Int))), (102, .v (.int .i64 ((k : Nat) : Int))), (109, .v (.slice A4_ ((tagsK W l (Tree.mk n1 s2 b3 l4 u5) k2 ++ tagsB ((unknownT l u5).take k)).length) c4_)), (112, .v (.int .u64 ((k549.toNat : Nat) : Int))), (113, .v (.slice A592 ((uv k549.toNat).length) c593)), (114, .v (.slice A599 ((tagsK W l (Tree.mk n1 s2 b3 l4 u5) k2 ++ tagsB ((unknownT l u5).take k)).length + (uv k549.toNat).length) c600))]) (by kernel_rfl)
          have hE608 := hE610.cast (env' := [(9, .v (.slice A_ ((bodyB W l v (Tree.mk n1 s2 b3 l4 u5) 0).length) c_)), (11, .v (.int .i64 ((tagsN W l (Tree.mk n1 s2 b3 l4 u5) k2 + k : Nat) : Int))), (20, .v (.slice A552 ((whole s550).length) c553)), (100, .v (.slice A514 ((unknownT l u5).length) c515)), (101, .v (.int .i64 (((unknownT l u5).length : Nat) : Int))), (102, .v (.int .i64 ((k : Nat) : Int))), (109, .v (.slice A4_ ((tagsK W l (Tree.mk n1 s2 b3 l4 u5) k2 ++ tagsB ((unknownT l u5).take k)).length) c4_)), (112, .v (.int .u64 ((k549.toNat : Nat) : Int))), (113, .v (.slice A592 ((uv k549.toNat).length) c593)), (114, .v (.slice A599 ((tagsK W l (Tree.mk n1 s2 b3 l4 u5) k2 ++ tagsB ((unknownT l u5).take k) ++ (uv k549.toNat)).length) c600))]) (by simp only [List.length_append, List.length_cons, List.length_nil, Nat.zero_add])
          clear hE605
          clear hE610
          refine go_rn [6, 7, 8] [9, 10, 11, 12, 13] [(9, .v (.slice A_ ((bodyB W l v (Tree.mk n1 s2 b3 l4 u5) 0).length) c_)), (11, .v (.int .i64 ((tagsN W l (Tree.mk n1 s2 b3 l4 u5) k2 + k : Nat) : Int))), (20, .v (.slice A552 ((whole s550).length) c553)), (100, .v (.slice A514 ((unknownT l u5).length) c515)), (101, .v (.int .i64 (((unknownT l u5).length : Nat) : Int))), (102, .v (.int .i64 ((k : Nat) : Int))), (114, .v (.slice A599 ((tagsK W l (Tree.mk n1 s2 b3 l4 u5) k2 ++ tagsB ((unknownT l u5).take k) ++ (uv k549.toNat)).length) c600)), (117, .v (.int .u64 (IntKind.u64.wrap (((whole s550).length : Nat) : Int))))] hW607 hE608 fun a611 hE612 => ?_
          clear hE608
          have he613 : IntKind.u64.wrap (((whole s550).length : Nat) : Int) = (((whole s550).length : Nat) : Int) := by simp only [wrap_u64, wrap_u32, wrap_u16, IntKind.wrap_i64, IntKind.wrap_i32]; omega
          have hE615 := EnvOk.pick hE612 (ks := [9, 11, 20, 100, 101, 102, 114, 117]) (env' := [(9, .v (.slice A_ ((bodyB W l v (Tree.mk n1 s2 b3 l4 u5) 0).length) c_)), (11, .v (.int .i64 ((tagsN W l (Tree.mk n1 s2 b3 l4 u5) k2 + k : Nat) : Int))), (20, .v (.slice A552 ((whole s550).length) c553)), (100, .v (.slice A514 ((unknownT l u5).length) c515)), (101, .v (.int .i64 (((unknownT l u5).length : Nat) : Int))), (102, .v (.int .i64 ((k : Nat) : Int))), (114, .v (.slice A599 ((tagsK W l (Tree.mk n1 s2 b3 l4 u5) k2 ++ tagsB ((unknownT l u5).take k) ++ (uv k549.toNat)).length) c600)), (117, .v (.int .u64 (IntKind.u64.wrap (((whole s550).length : Nat) : Int))))]) (by kernel_rfl)
          have hE614 := hE615.cast (env' := [(9, .v (.slice A_ ((bodyB W l v (Tree.mk n1 s2 b3 l4 u5) 0).length) c_)), (11, .v (.int .i64 ((tagsN W l (Tree.mk n1 s2 b3 l4 u5) k2 + k : Nat) : Int))), (20, .v (.slice A552 ((whole s550).length) c553)), (100, .v (.slice A514 ((unknownT l u5).length) c515)), (101, .v (.int .i64 (((unknownT l u5).length : Nat) : Int))), (102, .v (.int .i64 ((k : Nat) : Int))), (114, .v (.slice A599 ((tagsK W l (Tree.mk n1 s2 b3 l4 u5) k2 ++ tagsB ((unknownT l u5).take k) ++ (uv k549.toNat)).length) c600)), (117, .v (.int .u64 (((whole s550).length : Nat) : Int)))]) (by rw [he613])
          clear hE612 hE615
          refine of_op (wpOp_call hE614 (f := 93) (vs := [.int .u64 (((whole s550).length : Nat) : Int)]) (d := 118) (by kernel_rfl) Tryz.call93 (sUvarint ((whole s550).length) (by omega) _) ?_)
          rintro e_ w620 ⟨A618, c619, rfl, ho617, hs616⟩
          refine ⟨_, rfl, fun a621 hE622 => ?_⟩
          obtain ⟨hW623, hF624⟩ := hW607.frFresh hs616 (brow A618 c619 5 (uv ((whole s550).length))) (Nat.le_refl _) ho617
          clear hE614 hW607
          refine of_op (wpOp_append hW623 hE622 (k := 1) (d := 119) (t := 22) (e := 5) (size := 1) (bytes := 1) (A := A599) (As := A618) (m0 := ((tagsK W l (Tree.mk n1 s2 b3 l4 u5) k2 ++ tagsB ((unknownT l u5).take k) ++ (uv k549.toNat)).length)) (c := c600) (m := ((uv ((whole s550).length)).length)) (cs := c619) (xs := (bc (tagsK W l (Tree.mk n1 s2 b3 l4 u5) k2 ++ tagsB ((unknownT l u5).take k) ++ (uv k549.toNat)))) (news := bc (uv ((whole s550).length))) (by kernel_rfl) (by kernel_rfl) rfl (own_src (hW623.own 3 _ rfl) (bc_one _)) (own_cap (hW623.own 3 _ rfl)) (by have h_ := tagsB_le (l := (unknownT l u5)) (k + 1); rw [tagsB_succ he551] at h_; simp only [List.length_append] at h_ ⊢; omega) fun A625 c626 a627 w628 hF629 hW630 hE631 => ?_)
          clear hE622 hW623
          have er632 : (⟨A625, c626, 5, 1, (tagsK W l (Tree.mk n1 s2 b3 l4 u5) k2 ++ tagsB ((unknownT l u5).take k) ++ (uv k549.toNat)).length + (uv ((whole s550).length)).length, bc (tagsK W l (Tree.mk n1 s2 b3 l4 u5) k2 ++ tagsB ((unknownT l u5).take k) ++ (uv k549.toNat)) ++ bc (uv ((whole s550).length))⟩ : Rw) = brow A625 c626 5 (tagsK W l (Tree.mk n1 s2 b3 l4 u5) k2 ++ tagsB ((unknownT l u5).take k) ++ (uv k549.toNat) ++ (uv ((whole s550).length))) := brow_eq (rfl) rfl
          obtain ⟨hW633, hF635⟩ := hW630.rowEq 1 [brow A_ c_ 5 (bodyB W l v (Tree.mk n1 s2 b3 l4 u5) 0), brow A625 c626 5 (tagsK W l (Tree.mk n1 s2 b3 l4 u5) k2 ++ tagsB ((unknownT l u5).take k) ++ (uv k549.toNat) ++ (uv ((whole s550).length))), brow A592 c593 5 (uv k549.toNat), brow A618 c619 5 (uv ((whole s550).length))] er632
          clear hW630
          have hE636 := EnvOk.pick hE631 (ks := [9, 11, 20, 100, 101, 102, 114, 117, 118, 119]) (env' := [(9, .v (.slice A_ ((bodyB W l v (Tree.mk n1 s2 b3 l4 u5) 0).length) c_)), (11, .v (.int .i64 ((tagsN W l (Tree.mk n1 s2 b3 l4 u5) k2 + k : Nat) : Int))), (20, .v (.slice A552 ((whole s550).length) c553)), (100, .v (.slice A514 ((unknownT l u5).length) c515)), (101, .v (.int .i64 (((unknownT l u5).length : Nat) : Int))), (102, .v (.int .i64 ((k : Nat) : Int))), (114, .v (.slice A599 ((tagsK W l (Tree.mk n1 s2 b3 l4 u5) k2 ++ tagsB ((unknownT l u5).take k) ++ (uv k549.toNat)).length) c600)), (117, .v (.int .u64 (((whole s550).length : Nat) : Int))), (118, .v (.slice A618 ((uv ((whole s550).length)).length) c619)), (119, .v (.slice A625 ((tagsK W l (Tree.mk n1 s2 b3 l4 u5) k2 ++ tagsB ((unknownT l u5).take k) ++ (uv k549.toNat)).length + (uv ((whole s550).length)).length) c626))]) (by kernel_rfl)
          have hE634 := hE636.cast (env' := [(9, .v (.slice A_ ((bodyB W l v (Tree.mk n1 s2 b3 l4 u5) 0).length) c_)), (11, .v (.int .i64 ((tagsN W l (Tree.mk n1 s2 b3 l4 u5) k2 + k : Nat) : Int))), (20, .v (.slice A552 ((whole s550).length) c553)), (100, .v (.slice A514 ((unknownT l u5).length) c515)), (101, .v (.int .i64 (((unknownT l u5).length : Nat) : Int))), (102, .v (.int .i64 ((k : Nat) : Int))), (114, .v (.slice A599 ((tagsK W l (Tree.mk n1 s2 b3 l4 u5) k2 ++ tagsB ((unknownT l u5).take k) ++ (uv k549.toNat)).length) c600)), (117, .v (.int .u64 (((whole s550).length : Nat) : Int))), (118, .v (.slice A618 ((uv ((whole s550).length)).length) c619)), (119, .v (.slice A625 ((tagsK W l (Tree.mk n1 s2 b3 l4 u5) k2 ++ tagsB ((unknownT l u5).take k) ++ (uv k549.toNat) ++ (uv ((whole s550).length))).length) c626))]) (by simp only [List.length_append, List.length_cons, List.length_nil, Nat.zero_add])
          clear hE631
          clear hE636
          refine go_rn [11] [12, 13] [(9, .v (.slice A_ ((bodyB W l v (Tree.mk n1 s2 b3 l4 u5) 0).length) c_)), (11, .v (.int .i64 ((tagsN W l (Tree.mk n1 s2 b3 l4 u5) k2 + k : Nat) : Int))), (100, .v (.slice A514 ((unknownT l u5).length) c515)), (101, .v (.int .i64 (((unknownT l u5).length : Nat) : Int))), (102, .v (.int .i64 ((k : Nat) : Int))), (119, .v (.slice A625 ((tagsK W l (Tree.mk n1 s2 b3 l4 u5) k2 ++ tagsB ((unknownT l u5).take k) ++ (uv k549.toNat) ++ (uv ((whole s550).length))).length) c626)), (120, .v (.slice A552 ((whole s550).length) c553))] hW633 hE634 fun a637 hE638 => ?_
          clear hE634
          refine of_op (wpOp_append hW633 hE638 (k := 1) (d := 121) (t := 22) (e := 5) (size := 1) (bytes := 1) (A := A625) (As := A552) (m0 := ((tagsK W l (Tree.mk n1 s2 b3 l4 u5) k2 ++ tagsB ((unknownT l u5).take k) ++ (uv k549.toNat) ++ (uv ((whole s550).length))).length)) (c := c626) (m := ((whole s550).length)) (cs := c553) (xs := (bc (tagsK W l (Tree.mk n1 s2 b3 l4 u5) k2 ++ tagsB ((unknownT l u5).take k) ++ (uv k549.toNat) ++ (uv ((whole s550).length))))) (news := bc (whole s550)) (by kernel_rfl) (by kernel_rfl) rfl ((hb555.take 32767).move (Fr.trans (Fr.trans (Fr.trans (Fr.trans (Fr.trans (Fr.trans (Fr.trans (Fr.trans (Fr.trans (Fr.trans hF531 hF539) hF567) hF571) hF582) hF598) hF603) hF609) hF624) hF629) hF635).step immM (Fr.trans (Fr.trans (Fr.trans (Fr.trans (Fr.trans (Fr.trans (Fr.trans (Fr.trans (Fr.trans (Fr.trans hF531 hF539) hF567) hF571) hF582) hF598) hF603) hF609) hF624) hF629) hF635).to').src ((hb555.take 32767).move (Fr.trans (Fr.trans (Fr.trans (Fr.trans (Fr.trans (Fr.trans (Fr.trans (Fr.trans (Fr.trans (Fr.trans hF531 hF539) hF567) hF571) hF582) hF598) hF603) hF609) hF624) hF629) hF635).step immM (Fr.trans (Fr.trans (Fr.trans (Fr.trans (Fr.trans (Fr.trans (Fr.trans (Fr.trans (Fr.trans (Fr.trans hF531 hF539) hF567) hF571) hF582) hF598) hF603) hF609) hF624) hF629) hF635).to').cap (by have h_ := tagsB_le (l := (unknownT l u5)) (k + 1); rw [tagsB_succ he551] at h_; simp only [List.length_append] at h_ ⊢; omega) fun A639 c640 a641 w642 hF643 hW644 hE645 => ?_)
          clear hE638 hW633
          have er646 : (⟨A639, c640, 5, 1, (tagsK W l (Tree.mk n1 s2 b3 l4 u5) k2 ++ tagsB ((unknownT l u5).take k) ++ (uv k549.toNat) ++ (uv ((whole s550).length))).length + (whole s550).length, bc (tagsK W l (Tree.mk n1 s2 b3 l4 u5) k2 ++ tagsB ((unknownT l u5).take k) ++ (uv k549.toNat) ++ (uv ((whole s550).length))) ++ bc (whole s550)⟩ : Rw) = brow A639 c640 5 (tagsK W l (Tree.mk n1 s2 b3 l4 u5) k2 ++ tagsB ((unknownT l u5).take k) ++ (uv k549.toNat) ++ (uv ((whole s550).length)) ++ (whole s550)) := brow_eq (rfl) rfl
          obtain ⟨hW647, hF649⟩ := hW644.rowEq 1 [brow A_ c_ 5 (bodyB W l v (Tree.mk n1 s2 b3 l4 u5) 0), brow A639 c640 5 (tagsK W l (Tree.mk n1 s2 b3 l4 u5) k2 ++ tagsB ((unknownT l u5).take k) ++ (uv k549.toNat) ++ (uv ((whole s550).length)) ++ (whole s550)), brow A592 c593 5 (uv k549.toNat), brow A618 c619 5 (uv ((whole s550).length))] er646
          clear hW644
          have hE650 := EnvOk.pick hE645 (ks := [9, 11, 100, 101, 102, 119, 120, 121]) (env' := [(9, .v (.slice A_ ((bodyB W l v (Tree.mk n1 s2 b3 l4 u5) 0).length) c_)), (11, .v (.int .i64 ((tagsN W l (Tree.mk n1 s2 b3 l4 u5) k2 + k : Nat) : Int))), (100, .v (.slice A514 ((unknownT l u5).length) c515)), (101, .v (.int .i64 (((unknownT l u5).length : Nat) : Int))), (102, .v (.int .i64 ((k : Nat) : Int))), (119, .v (.slice A625 ((tagsK W l (Tree.mk n1 s2 b3 l4 u5) k2 ++ tagsB ((unknownT l u5).take k) ++ (uv k549.toNat) ++ (uv ((whole s550).length))).length) c626)), (120, .v (.slice A552 ((whole s550).length) c553)), (121, .v (.slice A639 ((tagsK W l (Tree.mk n1 s2 b3 l4 u5) k2 ++ tagsB ((unknownT l u5).take k) ++ (uv k549.toNat) ++ (uv ((whole s550).length))).length + (whole s550).length) c640))]) (by kernel_rfl)
          have hE648 := hE650.cast (env' := [(9, .v (.slice A_ ((bodyB W l v (Tree.mk n1 s2 b3 l4 u5) 0).length) c_)), (11, .v (.int .i64 ((tagsN W l (Tree.mk n1 s2 b3 l4 u5) k2 + k : Nat) : Int))), (100, .v (.slice A514 ((unknownT l u5).length) c515)), (101, .v (.int .i64 (((unknownT l u5).length : Nat) : Int))), (102, .v (.int .i64 ((k : Nat) : Int))), (119, .v (.slice A625 ((tagsK W l (Tree.mk n1 s2 b3 l4 u5) k2 ++ tagsB ((unknownT l u5).take k) ++ (uv k549.toNat) ++ (uv ((whole s550).length))).length) c626)), (120, .v (.slice A552 ((whole s550).length) c553)), (121, .v (.slice A639 ((tagsK W l (Tree.mk n1 s2 b3 l4 u5) k2 ++ tagsB ((unknownT l u5).take k) ++ (uv k549.toNat) ++ (uv ((whole s550).length)) ++ (whole s550)).length) c640))]) (by simp only [List.length_append, List.length_cons, List.length_nil, Nat.zero_add])
          clear hE645
          clear hE650
          refine go_rn [13] [] [(9, .v (.slice A_ ((bodyB W l v (Tree.mk n1 s2 b3 l4 u5) 0).length) c_)), (10, .v (.slice A639 ((tagsK W l (Tree.mk n1 s2 b3 l4 u5) k2 ++ tagsB ((unknownT l u5).take k) ++ (uv k549.toNat) ++ (uv ((whole s550).length)) ++ (whole s550)).length) c640)), (11, .v (.int .i64 ((tagsN W l (Tree.mk n1 s2 b3 l4 u5) k2 + k : Nat) : Int))), (100, .v (.slice A514 ((unknownT l u5).length) c515)), (101, .v (.int .i64 (((unknownT l u5).length : Nat) : Int))), (102, .v (.int .i64 ((k : Nat) : Int)))] hW647 hE648 fun a651 hE652 => ?_
          clear hE648
          refine wpOps_nil ?_
          refine then_normal ?_
          refine go_region [0, 1, 2] (by kernel_rfl) ?_
          refine go_rn [0, 1, 2] [] [(9, .v (.slice A_ ((bodyB W l v (Tree.mk n1 s2 b3 l4 u5) 0).length) c_)), (10, .v (.slice A639 ((tagsK W l (Tree.mk n1 s2 b3 l4 u5) k2 ++ tagsB ((unknownT l u5).take k) ++ (uv k549.toNat) ++ (uv ((whole s550).length)) ++ (whole s550)).length) c640)), (11, .v (.int .i64 (IntKind.i64.wrap (((tagsN W l (Tree.mk n1 s2 b3 l4 u5) k2 + k : Nat) : Int) + 1)))), (100, .v (.slice A514 ((unknownT l u5).length) c515)), (101, .v (.int .i64 (((unknownT l u5).length : Nat) : Int))), (102, .v (.int .i64 ((k : Nat) : Int)))] hW647 hE652 fun a653 hE654 => ?_
          clear hE652
          refine wpOps_nil ?_
          refine block_normal ?_
          refine then_normal ?_
          refine go_region [0, 1] (by kernel_rfl) ?_
          refine go_rn [0, 1] [] [(9, .v (.slice A_ ((bodyB W l v (Tree.mk n1 s2 b3 l4 u5) 0).length) c_)), (10, .v (.slice A639 ((tagsK W l (Tree.mk n1 s2 b3 l4 u5) k2 ++ tagsB ((unknownT l u5).take k) ++ (uv k549.toNat) ++ (uv ((whole s550).length)) ++ (whole s550)).length) c640)), (11, .v (.int .i64 (IntKind.i64.wrap (((tagsN W l (Tree.mk n1 s2 b3 l4 u5) k2 + k : Nat) : Int) + 1)))), (100, .v (.slice A514 ((unknownT l u5).length) c515)), (101, .v (.int .i64 (((unknownT l u5).length : Nat) : Int))), (102, .v (.int .i64 (IntKind.i64.wrap (((k : Nat) : Int) + 1))))] hW647 hE654 fun a655 hE656 => ?_
          clear hE654
          refine wpOps_nil ?_
          refine then_normal ?_
          obtain ⟨hE657, hW658, hF659⟩ := hW647.cutB hE656 1 [⟨b21, 0, [.int .i64 n1, .slice A6 s2.length c7, .bool b3, .slice A8 l4.length c9, .slice A10 u5.length c11], true⟩] [(9, .v (.slice A_ ((bodyB W l v (Tree.mk n1 s2 b3 l4 u5) 0).length) c_)), (10, .v (.slice A639 ((tagsK W l (Tree.mk n1 s2 b3 l4 u5) k2 ++ tagsB ((unknownT l u5).take k) ++ (uv k549.toNat) ++ (uv ((whole s550).length)) ++ (whole s550)).length) c640)), (11, .v (.int .i64 (IntKind.i64.wrap (((tagsN W l (Tree.mk n1 s2 b3 l4 u5) k2 + k : Nat) : Int) + 1)))), (100, .v (.slice A514 ((unknownT l u5).length) c515)), (101, .v (.int .i64 (((unknownT l u5).length : Nat) : Int))), (102, .v (.int .i64 (IntKind.i64.wrap (((k : Nat) : Int) + 1))))]
          obtain ⟨hW660, hF661⟩ := hW658.cutR 2 [brow A_ c_ 5 (bodyB W l v (Tree.mk n1 s2 b3 l4 u5) 0), brow A639 c640 5 (tagsK W l (Tree.mk n1 s2 b3 l4 u5) k2 ++ tagsB ((unknownT l u5).take k) ++ (uv k549.toNat) ++ (uv ((whole s550).length)) ++ (whole s550))]
          have er662 : (tagsK W l (Tree.mk n1 s2 b3 l4 u5) k2 ++ tagsB ((unknownT l u5).take k) ++ (uv k549.toNat) ++ (uv ((whole s550).length)) ++ (whole s550)) = (tagsK W l (Tree.mk n1 s2 b3 l4 u5) k2 ++ tagsB ((unknownT l u5).take (k + 1))) := by rw [tagsB_succ he551]; simp only [List.append_assoc]
          have er663 := congrArg (brow A639 c640 5) er662
          obtain ⟨hW664, hF665⟩ := hW660.rowEq 1 [brow A_ c_ 5 (bodyB W l v (Tree.mk n1 s2 b3 l4 u5) 0), brow A639 c640 5 (tagsK W l (Tree.mk n1 s2 b3 l4 u5) k2 ++ tagsB ((unknownT l u5).take (k + 1)))] er663
          clear hW660
          rw [er662] at hE657
          have he666 : IntKind.i64.wrap (((k : Nat) : Int) + 1) = ((k + 1 : Nat) : Int) := wrap_succ (by omega)
          rw [he666] at hE657
          have he667 : IntKind.i64.wrap (((tagsN W l (Tree.mk n1 s2 b3 l4 u5) k2 + k : Nat) : Int) + 1) = ((tagsN W l (Tree.mk n1 s2 b3 l4 u5) k2 + (k + 1) : Nat) : Int) := by rw [wrap_i64 (by omega) (by omega)]; omega
          rw [he667] at hE657
          exact ⟨(unknownT l u5).length - (k + 1), by omega, k + 1, A639, c640, rfl, by omega, hE657.pk, hW664, (Fr.trans (Fr.trans (Fr.trans (Fr.trans (Fr.trans (Fr.trans (Fr.trans (Fr.trans (Fr.trans (Fr.trans (Fr.trans (Fr.trans (Fr.trans (Fr.trans hF539 hF567) hF571) hF582) hF598) hF603) hF609) hF624) hF629) hF635) hF643) hF649) hF659) hF661) hF665)⟩
        ·
          have hf668 := of_decide_eq_false hc542
          refine wp_exit ?_
          refine then_exit ?_
          refine then_exit ?_
          refine block_exit ?_
          refine then_normal ?_
          refine go_seq_region [0, 1, 2, 3, 4, 5, 6, 7] (by kernel_rfl) ?_
          refine go_rn [0, 1, 2] [3, 4, 5, 6, 7] [(10, .v (.slice A4_ ((tagsK W l (Tree.mk n1 s2 b3 l4 u5) k2 ++ tagsB ((unknownT l u5).take k)).length) c4_)), (125, .v (.slice A_ ((bodyB W l v (Tree.mk n1 s2 b3 l4 u5) 0).length) c_)), (127, .v (.int .u64 (IntKind.u64.wrap ((tagsN W l (Tree.mk n1 s2 b3 l4 u5) k2 + k : Nat) : Int))))] hW536 hE541 fun a669 hE670 => ?_
          clear hE541
          have he671 : IntKind.u64.wrap ((tagsN W l (Tree.mk n1 s2 b3 l4 u5) k2 + k : Nat) : Int) = ((tagsN W l (Tree.mk n1 s2 b3 l4 u5) k2 + k : Nat) : Int) := by simp only [wrap_u64, wrap_u32, wrap_u16, IntKind.wrap_i64, IntKind.wrap_i32]; omega
          have hE673 := EnvOk.pick hE670 (ks := [10, 125, 127]) (env' := [(10, .v (.slice A4_ ((tagsK W l (Tree.mk n1 s2 b3 l4 u5) k2 ++ tagsB ((unknownT l u5).take k)).length) c4_)), (125, .v (.slice A_ ((bodyB W l v (Tree.mk n1 s2 b3 l4 u5) 0).length) c_)), (127, .v (.int .u64 (IntKind.u64.wrap ((tagsN W l (Tree.mk n1 s2 b3 l4 u5) k2 + k : Nat) : Int))))]) (by kernel_rfl)
          have hE672 := hE673.cast (env' := [(10, .v (.slice A4_ ((tagsK W l (Tree.mk n1 s2 b3 l4 u5) k2 ++ tagsB ((unknownT l u5).take k)).length) c4_)), (125, .v (.slice A_ ((bodyB W l v (Tree.mk n1 s2 b3 l4 u5) 0).length) c_)), (127, .v (.int .u64 ((tagsN W l (Tree.mk n1 s2 b3 l4 u5) k2 + k : Nat) : Int)))]) (by rw [he671])
          clear hE670 hE673
          refine of_op (wpOp_call hE672 (f := 93) (vs := [.int .u64 ((tagsN W l (Tree.mk n1 s2 b3 l4 u5) k2 + k : Nat) : Int)]) (d := 128) (by kernel_rfl) Tryz.call93 (sUvarint (tagsN W l (Tree.mk n1 s2 b3 l4 u5) k2 + k) (by omega) _) ?_)
          rintro e_ w678 ⟨A676, c677, rfl, ho675, hs674⟩
          refine ⟨_, rfl, fun a679 hE680 => ?_⟩
          obtain ⟨hW681, hF682⟩ := hW536.frFresh hs674 (brow A676 c677 5 (uv (tagsN W l (Tree.mk n1 s2 b3 l4 u5) k2 + k))) (Nat.le_refl _) ho675
          clear hE672 hW536
          refine of_op (wpOp_append hW681 hE680 (k := 0) (d := 129) (t := 22) (e := 5) (size := 1) (bytes := 1) (A := A_) (As := A676) (m0 := ((bodyB W l v (Tree.mk n1 s2 b3 l4 u5) 0).length)) (c := c_) (m := ((uv (tagsN W l (Tree.mk n1 s2 b3 l4 u5) k2 + k)).length)) (cs := c677) (xs := (bc (bodyB W l v (Tree.mk n1 s2 b3 l4 u5) 0))) (news := bc (uv (tagsN W l (Tree.mk n1 s2 b3 l4 u5) k2 + k))) (by kernel_rfl) (by kernel_rfl) rfl (own_src (hW681.own 2 _ rfl) (bc_one _)) (own_cap (hW681.own 2 _ rfl)) (by have hkk3 : k = (unknownT l u5).length := (by omega); subst hkk3; subst hkk2; simp only [List.length_append, List.take_length] at *; omega) fun A683 c684 a685 w686 hF687 hW688 hE689 => ?_)
          clear hE680 hW681
          have er690 : (⟨A683, c684, 5, 1, (bodyB W l v (Tree.mk n1 s2 b3 l4 u5) 0).length + (uv (tagsN W l (Tree.mk n1 s2 b3 l4 u5) k2 + k)).length, bc (bodyB W l v (Tree.mk n1 s2 b3 l4 u5) 0) ++ bc (uv (tagsN W l (Tree.mk n1 s2 b3 l4 u5) k2 + k))⟩ : Rw) = brow A683 c684 5 (bodyB W l v (Tree.mk n1 s2 b3 l4 u5) 0 ++ (uv (tagsN W l (Tree.mk n1 s2 b3 l4 u5) k2 + k))) := brow_eq (rfl) rfl
          obtain ⟨hW691, hF693⟩ := hW688.rowEq 0 [brow A683 c684 5 (bodyB W l v (Tree.mk n1 s2 b3 l4 u5) 0 ++ (uv (tagsN W l (Tree.mk n1 s2 b3 l4 u5) k2 + k))), brow A4_ c4_ 5 (tagsK W l (Tree.mk n1 s2 b3 l4 u5) k2 ++ tagsB ((unknownT l u5).take k)), brow A676 c677 5 (uv (tagsN W l (Tree.mk n1 s2 b3 l4 u5) k2 + k))] er690
          clear hW688
          have hE694 := EnvOk.pick hE689 (ks := [10, 125, 127, 128, 129]) (env' := [(10, .v (.slice A4_ ((tagsK W l (Tree.mk n1 s2 b3 l4 u5) k2 ++ tagsB ((unknownT l u5).take k)).length) c4_)), (125, .v (.slice A_ ((bodyB W l v (Tree.mk n1 s2 b3 l4 u5) 0).length) c_)), (127, .v (.int .u64 ((tagsN W l (Tree.mk n1 s2 b3 l4 u5) k2 + k : Nat) : Int))), (128, .v (.slice A676 ((uv (tagsN W l (Tree.mk n1 s2 b3 l4 u5) k2 + k)).length) c677)), (129, .v (.slice A683 ((bodyB W l v (Tree.mk n1 s2 b3 l4 u5) 0).length + (uv (tagsN W l (Tree.mk n1 s2 b3 l4 u5) k2 + k)).length) c684))]) (by kernel_rfl)
          have hE692 := hE694.cast (env' := [(10, .v (.slice A4_ ((tagsK W l (Tree.mk n1 s2 b3 l4 u5) k2 ++ tagsB ((unknownT l u5).take k)).length) c4_)), (125, .v (.slice A_ ((bodyB W l v (Tree.mk n1 s2 b3 l4 u5) 0).length) c_)), (127, .v (.int .u64 ((tagsN W l (Tree.mk n1 s2 b3 l4 u5) k2 + k : Nat) : Int))), (128, .v (.slice A676 ((uv (tagsN W l (Tree.mk n1 s2 b3 l4 u5) k2 + k)).length) c677)), (129, .v (.slice A683 ((bodyB W l v (Tree.mk n1 s2 b3 l4 u5) 0 ++ (uv (tagsN W l (Tree.mk n1 s2 b3 l4 u5) k2 + k))).length) c684))]) (by simp only [List.length_append, List.length_cons, List.length_nil, Nat.zero_add])
          clear hE689
          clear hE694
          refine go_rn [5] [6, 7] [(129, .v (.slice A683 ((bodyB W l v (Tree.mk n1 s2 b3 l4 u5) 0 ++ (uv (tagsN W l (Tree.mk n1 s2 b3 l4 u5) k2 + k))).length) c684)), (130, .v (.slice A4_ ((tagsK W l (Tree.mk n1 s2 b3 l4 u5) k2 ++ tagsB ((unknownT l u5).take k)).length) c4_))] hW691 hE692 fun a695 hE696 => ?_
          clear hE692
          refine of_op (wpOp_append hW691 hE696 (k := 0) (d := 131) (t := 22) (e := 5) (size := 1) (bytes := 1) (A := A683) (As := A4_) (m0 := ((bodyB W l v (Tree.mk n1 s2 b3 l4 u5) 0 ++ (uv (tagsN W l (Tree.mk n1 s2 b3 l4 u5) k2 + k))).length)) (c := c684) (m := ((tagsK W l (Tree.mk n1 s2 b3 l4 u5) k2 ++ tagsB ((unknownT l u5).take k)).length)) (cs := c4_) (xs := (bc (bodyB W l v (Tree.mk n1 s2 b3 l4 u5) 0 ++ (uv (tagsN W l (Tree.mk n1 s2 b3 l4 u5) k2 + k))))) (news := bc (tagsK W l (Tree.mk n1 s2 b3 l4 u5) k2 ++ tagsB ((unknownT l u5).take k))) (by kernel_rfl) (by kernel_rfl) rfl (own_src (hW691.own 1 _ rfl) (bc_one _)) (own_cap (hW691.own 1 _ rfl)) (by have hkk3 : k = (unknownT l u5).length := (by omega); subst hkk3; subst hkk2; simp only [List.length_append, List.take_length] at *; omega) fun A697 c698 a699 w700 hF701 hW702 hE703 => ?_)
          clear hE696 hW691
          have er704 : (⟨A697, c698, 5, 1, (bodyB W l v (Tree.mk n1 s2 b3 l4 u5) 0 ++ (uv (tagsN W l (Tree.mk n1 s2 b3 l4 u5) k2 + k))).length + (tagsK W l (Tree.mk n1 s2 b3 l4 u5) k2 ++ tagsB ((unknownT l u5).take k)).length, bc (bodyB W l v (Tree.mk n1 s2 b3 l4 u5) 0 ++ (uv (tagsN W l (Tree.mk n1 s2 b3 l4 u5) k2 + k))) ++ bc (tagsK W l (Tree.mk n1 s2 b3 l4 u5) k2 ++ tagsB ((unknownT l u5).take k))⟩ : Rw) = brow A697 c698 5 (bodyB W l v (Tree.mk n1 s2 b3 l4 u5) 0 ++ (uv (tagsN W l (Tree.mk n1 s2 b3 l4 u5) k2 + k)) ++ (tagsK W l (Tree.mk n1 s2 b3 l4 u5) k2 ++ tagsB ((unknownT l u5).take k))) := brow_eq (rfl) rfl
          obtain ⟨hW705, hF707⟩ := hW702.rowEq 0 [brow A697 c698 5 (bodyB W l v (Tree.mk n1 s2 b3 l4 u5) 0 ++ (uv (tagsN W l (Tree.mk n1 s2 b3 l4 u5) k2 + k)) ++ (tagsK W l (Tree.mk n1 s2 b3 l4 u5) k2 ++ tagsB ((unknownT l u5).take k))), brow A4_ c4_ 5 (tagsK W l (Tree.mk n1 s2 b3 l4 u5) k2 ++ tagsB ((unknownT l u5).take k)), brow A676 c677 5 (uv (tagsN W l (Tree.mk n1 s2 b3 l4 u5) k2 + k))] er704
          clear hW702
          have hE708 := EnvOk.pick hE703 (ks := [129, 130, 131]) (env' := [(129, .v (.slice A683 ((bodyB W l v (Tree.mk n1 s2 b3 l4 u5) 0 ++ (uv (tagsN W l (Tree.mk n1 s2 b3 l4 u5) k2 + k))).length) c684)), (130, .v (.slice A4_ ((tagsK W l (Tree.mk n1 s2 b3 l4 u5) k2 ++ tagsB ((unknownT l u5).take k)).length) c4_)), (131, .v (.slice A697 ((bodyB W l v (Tree.mk n1 s2 b3 l4 u5) 0 ++ (uv (tagsN W l (Tree.mk n1 s2 b3 l4 u5) k2 + k))).length + (tagsK W l (Tree.mk n1 s2 b3 l4 u5) k2 ++ tagsB ((unknownT l u5).take k)).length) c698))]) (by kernel_rfl)
          have hE706 := hE708.cast (env' := [(129, .v (.slice A683 ((bodyB W l v (Tree.mk n1 s2 b3 l4 u5) 0 ++ (uv (tagsN W l (Tree.mk n1 s2 b3 l4 u5) k2 + k))).length) c684)), (130, .v (.slice A4_ ((tagsK W l (Tree.mk n1 s2 b3 l4 u5) k2 ++ tagsB ((unknownT l u5).take k)).length) c4_)), (131, .v (.slice A697 ((bodyB W l v (Tree.mk n1 s2 b3 l4 u5) 0 ++ (uv (tagsN W l (Tree.mk n1 s2 b3 l4 u5) k2 + k)) ++ (tagsK W l (Tree.mk n1 s2 b3 l4 u5) k2 ++ tagsB ((unknownT l u5).take k))).length) c698))]) (by simp only [List.length_append, List.length_cons, List.length_nil, Nat.zero_add])
          clear hE703
          clear hE708
          refine go_rn [7] [] [(8, .v (.slice A697 ((bodyB W l v (Tree.mk n1 s2 b3 l4 u5) 0 ++ (uv (tagsN W l (Tree.mk n1 s2 b3 l4 u5) k2 + k)) ++ (tagsK W l (Tree.mk n1 s2 b3 l4 u5) k2 ++ tagsB ((unknownT l u5).take k))).length) c698))] hW705 hE706 fun a709 hE710 => ?_
          clear hE706
          refine wpOps_nil ?_
          refine then_normal ?_
          refine wp_ret ?_
          refine leave hE710 hW705.cells (v := .slice A697 ((bodyB W l v (Tree.mk n1 s2 b3 l4 u5) 0 ++ (uv (tagsN W l (Tree.mk n1 s2 b3 l4 u5) k2 + k)) ++ (tagsK W l (Tree.mk n1 s2 b3 l4 u5) k2 ++ tagsB ((unknownT l u5).take k))).length) c698) (by kernel_rfl) ?_
          have hkk3 : k = (unknownT l u5).length := by omega
          exact fresh_end hW705 (k := 0) rfl (by rw [show flex = true by simpa using hc201, partW_flex, hkk3, hkk2, List.take_length])

end Go.Proofs.YtbjopfcbpobnpaaGreat.ME

/- Contracts: printed by tools/sp.py. Own work. -/
namespace Go.Proofs.YtbjopfcbpobnpaaGreat.ME
open Go
set_option linter.unusedVariables false
set_option linter.unusedSimpArgs false
set_option maxRecDepth 20000

theorem sPartOK : ∀ d, PartOK d
  | 0 => fun A c l v flex ct t w F hl hd ht hr => sPart (fun _ _ => []) A c l v flex ct t w F (fun cf f ct t w F hm hf ht hr => by
      obtain ⟨i, hi⟩ := List.mem_iff_getElem?.1 hm
      have h := depths_get hi
      obtain ⟨k, x1, x2, x3, x4, x5, x6, l, A, c, xs, rfl, _⟩ := hf.open_
      rw [depth_mk] at h; omega) hl ht hr
  | d + 1 => fun A c l v flex ct t w F hl hd ht hr => sPart (fun f t => fieldD d f v flex t) A c l v flex ct t w F (fun cf f ct t w F hm hf ht hr => sField (sPartOK d) cf f v flex ct t w F hf (by
      obtain ⟨i, hi⟩ := List.mem_iff_getElem?.1 hm
      have h := depths_get hi
      obtain ⟨k, x1, x2, x3, x4, x5, x6, l, A, c, xs, rfl, _⟩ := hf.open_
      rw [depth_mk] at h
      show depths l ≤ d
      omega) ht hr) hl ht hr

theorem sWrite {d : Nat} (A : Option Addr) (c : Nat) (l : List Fld) (x v : Int) (ct : List Value) (t : Tree) (w : World) (F : Nat → Nat → Prop) (hl : FldsR w F A c l) (hd : depths l ≤ d) (ht : TreeR w F ct t) (hroom : (writeB d l x v t).length ≤ 1099511627776) :
    Calls Tryz.prog 16 #[.agg #[.slice A l.length c, .int .i64 x], .int .i64 v, .agg ct.toArray] w (FreshB w 5 (writeB d l x v t)) := by
  obtain ⟨xfs, h1, h2⟩ := hl.ex
  have hsm := h1.small
  obtain ⟨n1, s2, b3, l4, u5, A6, c7, A8, c9, A10, c11, xs12, rfl, rfl, h14, h15, h16, h17⟩ := ht.open_
  have hsm19 := h14.small
  have hsm20 := h15.small
  refine enter (n := 21) Tryz.func16 rfl Tryz.ntmps16 (by kernel_rfl) fun a hE => ?_
  have hW := WOk.start w Nil
  refine go_seq_region [0, 1, 2] (by kernel_rfl) ?_
  refine of_op (wpOp_box hW hE (d := 3) (cs := [.slice A l.length c, .int .i64 x]) (by kernel_rfl) fun b21 a22 w23 hb24 hz25 hF26 hW27 hE28 => ?_)
  clear hE hW
  refine of_op (wpOp_box hW27 hE28 (d := 5) (cs := [.int .i64 n1, .slice A6 s2.length c7, .bool b3, .slice A8 l4.length c9, .slice A10 u5.length c11]) (by kernel_rfl) fun b29 a30 w31 hb32 hz33 hF34 hW35 hE36 => ?_)
  clear hE28 hW27
  refine go_rn [2] [] [(1, .v (.int .i64 v)), (3, .p 0 0), (5, .p 1 0)] hW35 hE36 fun a37 hE38 => ?_
  clear hE36
  refine wpOps_nil ?_
  refine then_normal ?_
  refine go_seq_region [0, 1, 2, 3, 4, 5, 6, 7, 8, 9, 10, 11, 12, 13, 14] (by kernel_rfl) ?_
  refine go_rn [0, 1, 2, 3, 4, 5, 6] [7, 8, 9, 10, 11, 12, 13, 14] [(1, .v (.int .i64 v)), (3, .p 0 0), (5, .p 1 0), (8, .v (.slice A l.length c)), (9, .v (.int .i64 v)), (13, .v (.bool (decide (x ≥ 0))))] hW35 hE38 fun a39 hE40 => ?_
  clear hE38
  refine (Bool.eq_false_or_eq_true (decide (x ≥ 0))).elim (fun hc41 => ?_) (fun hc41 => ?_)
  ·
    have hf42 := of_decide_eq_true hc41
    have hE43 := hE40.cast (env' := [(1, .v (.int .i64 v)), (3, .p 0 0), (5, .p 1 0), (8, .v (.slice A l.length c)), (9, .v (.int .i64 v)), (13, .v (.bool true))]) (by rw [hc41])
    clear hE40
    refine go_rn [7, 8, 9, 10, 11, 12] [13, 14] [(8, .v (.slice A l.length c)), (9, .v (.int .i64 v)), (18, .v (.bool (decide (v ≥ x)))), (19, .v (.agg #[.int .i64 n1, .slice A6 s2.length c7, .bool b3, .slice A8 l4.length c9, .slice A10 u5.length c11]))] hW35 hE43 fun a44 hE45 => ?_
    clear hE43
    refine of_op (wpOp_call hE45 (f := 40) (vs := [.slice A l.length c, .int .i64 v, .bool (decide (v ≥ x)), .agg #[.int .i64 n1, .slice A6 s2.length c7, .bool b3, .slice A8 l4.length c9, .slice A10 u5.length c11]]) (d := 20) (by kernel_rfl) Tryz.call40 (sPartOK _ _ _ l v (decide (v ≥ x)) _ (Tree.mk n1 s2 b3 l4 u5) _ _ ⟨xfs, (h1.move hW35.step nilM hW35.imm), (fun i_ x_ h_ => ((h2 i_ x_ h_).move hW35.step nilM hW35.imm))⟩ hd (ht.move hW35.step nilM hW35.imm) (by simpa [writeB, hc41] using hroom)) ?_)
    rintro e_ w50 ⟨A48, c49, rfl, ho47, hs46⟩
    refine ⟨_, rfl, fun a51 hE52 => ?_⟩
    obtain ⟨hW53, hF54⟩ := hW35.frFresh hs46 (brow A48 c49 5 (partB d l v (decide (v ≥ x)) (Tree.mk n1 s2 b3 l4 u5))) (Nat.le_refl _) ho47
    clear hE45 hW35
    refine go_rn [14] [] [(6, .v (.slice A48 ((partB d l v (decide (v ≥ x)) (Tree.mk n1 s2 b3 l4 u5)).length) c49))] hW53 hE52 fun a55 hE56 => ?_
    clear hE52
    refine wpOps_nil ?_
    refine then_normal ?_
    refine wp_ret ?_
    refine leave hE56 hW53.cells (v := .slice A48 ((partB d l v (decide (v ≥ x)) (Tree.mk n1 s2 b3 l4 u5)).length) c49) (by kernel_rfl) ?_
    exact fresh_end hW53 (k := 0) rfl (by simp [writeB, hc41])
  ·
    have hf57 := of_decide_eq_false hc41
    have hE58 := hE40.cast (env' := [(1, .v (.int .i64 v)), (3, .p 0 0), (5, .p 1 0), (8, .v (.slice A l.length c)), (9, .v (.int .i64 v)), (13, .v (.bool false))]) (by rw [hc41])
    clear hE40
    refine go_rn [7, 8, 9, 10, 11, 12] [13, 14] [(8, .v (.slice A l.length c)), (9, .v (.int .i64 v)), (18, .v (.bool false)), (19, .v (.agg #[.int .i64 n1, .slice A6 s2.length c7, .bool b3, .slice A8 l4.length c9, .slice A10 u5.length c11]))] hW35 hE58 fun a59 hE60 => ?_
    clear hE58
    refine of_op (wpOp_call hE60 (f := 40) (vs := [.slice A l.length c, .int .i64 v, .bool false, .agg #[.int .i64 n1, .slice A6 s2.length c7, .bool b3, .slice A8 l4.length c9, .slice A10 u5.length c11]]) (d := 20) (by kernel_rfl) Tryz.call40 (sPartOK _ _ _ l v false _ (Tree.mk n1 s2 b3 l4 u5) _ _ ⟨xfs, (h1.move hW35.step nilM hW35.imm), (fun i_ x_ h_ => ((h2 i_ x_ h_).move hW35.step nilM hW35.imm))⟩ hd (ht.move hW35.step nilM hW35.imm) (by simpa [writeB, hc41] using hroom)) ?_)
    rintro e_ w65 ⟨A63, c64, rfl, ho62, hs61⟩
    refine ⟨_, rfl, fun a66 hE67 => ?_⟩
    obtain ⟨hW68, hF69⟩ := hW35.frFresh hs61 (brow A63 c64 5 (partB d l v false (Tree.mk n1 s2 b3 l4 u5))) (Nat.le_refl _) ho62
    clear hE60 hW35
    refine go_rn [14] [] [(6, .v (.slice A63 ((partB d l v false (Tree.mk n1 s2 b3 l4 u5)).length) c64))] hW68 hE67 fun a70 hE71 => ?_
    clear hE67
    refine wpOps_nil ?_
    refine then_normal ?_
    refine wp_ret ?_
    refine leave hE71 hW68.cells (v := .slice A63 ((partB d l v false (Tree.mk n1 s2 b3 l4 u5)).length) c64) (by kernel_rfl) ?_
    exact fresh_end hW68 (k := 0) rfl (by simp [writeB, hc41])

end Go.Proofs.YtbjopfcbpobnpaaGreat.ME

/- Contracts: printed by tools/sp.py. Own work. -/
namespace Go.Proofs.YtbjopfcbpobnpaaGreat.ME
open Go
set_option linter.unusedVariables false
set_option linter.unusedSimpArgs false
set_option maxRecDepth 20000

/-- a tree, given over: a tree at most m deep -/
def GivenOK (m : Nat) : Prop := ∀ (ct : List Value) (t : Tree) (w : World) (F : Nat → Nat → Prop), TreeR w F ct t → t.depth ≤ m →
    Calls Tryz.prog 14 #[.agg ct.toArray] w (GivesT w F t)

theorem lGiven_step {m : Nat} (hg : GivenOK m) (ct : List Value) (t : Tree) (w : World) (F : Nat → Nat → Prop) (ht : TreeR w F ct t) (hd : t.depth ≤ m + 1) :
    Calls Tryz.prog 14 #[.agg ct.toArray] w (GivesT w F t) := by
  obtain ⟨n1, s2, b3, l4, u5, A6, c7, A8, c9, A10, c11, xs12, rfl, rfl, h14, h15, h16, h17⟩ := ht.open_
  have hsm19 := h14.small
  have hsm20 := h15.small
  obtain ⟨cs21, h22, h23⟩ := h17.ex
  have hsm24 := h22.small
  refine enter (n := 49) Tryz.func14 rfl Tryz.ntmps14 (by kernel_rfl) fun a hE => ?_
  have hW := WOk.start w Nil
  refine go_seq_region [0, 1] (by kernel_rfl) ?_
  refine of_op (wpOp_box hW hE (d := 1) (cs := [.int .i64 n1, .slice A6 s2.length c7, .bool b3, .slice A8 l4.length c9, .slice A10 u5.length c11]) (by kernel_rfl) fun b25 a26 w27 hb28 hz29 hF30 hW31 hE32 => ?_)
  clear hE hW
  refine of_op (wpOp_alloc hW31 hE32 (d := 2) (cs := [.int .i64 0, .slice none 0 0, .bool false, .slice none 0 0, .slice none 0 0]) (by kernel_rfl) fun b33 a34 w35 hb36 hz37 hF38 hW39 hE40 => ?_)
  clear hE32 hW31
  refine wpOps_nil ?_
  refine then_normal ?_
  refine go_seq_region [0, 1, 2, 3, 4, 5, 6, 7, 8] (by kernel_rfl) ?_
  refine go_rn [0, 1, 2, 3, 4, 5, 6] [7, 8] [(1, .p 0 0), (2, .p 1 0), (14, .v (.agg #[.int .i64 n1, .slice A6 s2.length c7, .bool b3, .slice none 0 0, .slice none 0 0]))] hW39 hE40 fun a41 hE42 => ?_
  clear hE40
  refine of_op (wpOp_alloc hW39 hE42 (d := 3) (cs := [.int .i64 0, .slice none 0 0, .bool false, .slice none 0 0, .slice none 0 0]) (by kernel_rfl) fun b43 a44 w45 hb46 hz47 hF48 hW49 hE50 => ?_)
  clear hE42 hW39
  refine of_op (wpOp_store hW49 hE50 (oi := 2) (cs := [.int .i64 n1, .slice A6 s2.length c7, .bool b3, .slice none 0 0, .slice none 0 0]) (by kernel_rfl) fun w51 hF52 hW53 hE54 => ?_)
  clear hE50 hW49
  refine wpOps_nil ?_
  refine then_normal ?_
  refine wp_seq ?_
  refine go_sp [(1, .p 0 0), (2, .p 1 0), (3, .p 2 0), (16, .v (.slice A8 l4.length c9)), (17, .v (.int .i64 ((l4.length : Nat) : Int))), (18, .v (.int .i64 0))] hW53 hE54 fun a55 hE56 => ?_
  clear hE54
  refine wp_block ?_
  have hW57 := hW53.addNil 39 5
  have hF58 := hW53.frNil 39 5
  clear hW53
  refine wp_loop_ghost (fun n_ a_ w_ => ∃ (k : Nat) (A_ : Option Addr) (c_ : Nat) (xs : List Value) (css : List (List Value)), n_ = l4.length - k ∧ k ≤ l4.length ∧ (Trees w_ (Imm F w w_ [⟨b25, 0, [.int .i64 n1, .slice A6 s2.length c7, .bool b3, .slice A8 l4.length c9, .slice A10 u5.length c11], true⟩, ⟨b33, 0, [.int .i64 0, .slice none 0 0, .bool false, .slice none 0 0, .slice none 0 0], true⟩, ⟨b43, 0, [.int .i64 n1, .slice A6 s2.length c7, .bool b3, .slice A_ k c_, .slice none 0 0], true⟩] [⟨A_, c_, 39, 5, k, xs⟩]) xs (l4.take k) css) ∧ LInv hW57 49 [⟨b25, 0, [.int .i64 n1, .slice A6 s2.length c7, .bool b3, .slice A8 l4.length c9, .slice A10 u5.length c11], true⟩, ⟨b33, 0, [.int .i64 0, .slice none 0 0, .bool false, .slice none 0 0, .slice none 0 0], true⟩, ⟨b43, 0, [.int .i64 n1, .slice A6 s2.length c7, .bool b3, .slice A_ k c_, .slice none 0 0], true⟩] [⟨A_, c_, 39, 5, k, xs⟩] [(1, .p 0 0), (2, .p 1 0), (3, .p 2 0), (16, .v (.slice A8 l4.length c9)), (17, .v (.int .i64 ((l4.length : Nat) : Int))), (18, .v (.int .i64 ((k : Nat) : Int)))] a_ w_) (l4.length) ⟨0, none, 0, [], [], by omega, by omega, Trees.nil _ _, hE56.pk, hW57, Fr.refl _ _ _⟩ ?_
  clear hE56
  rintro n59 a60 w61 ⟨k, A_, c_, xs, css, hn64, hk65, hT, hE62, hW63, hF66⟩
  refine go_sp [(1, .p 0 0), (2, .p 1 0), (3, .p 2 0), (16, .v (.slice A8 l4.length c9)), (17, .v (.int .i64 ((l4.length : Nat) : Int))), (18, .v (.int .i64 ((k : Nat) : Int))), (19, .v (.bool (decide (((k : Nat) : Int) < ((l4.length : Nat) : Int)))))] hW63 hE62 fun a67 hE68 => ?_
  clear hE62
  refine wp_seq ?_
  refine cond_of hE68 (b := decide (((k : Nat) : Int) < ((l4.length : Nat) : Int))) (by kernel_rfl) (fun hc69 => ?_) (fun hc69 => ?_)
  ·
    have hf70 := of_decide_eq_true hc69
    refine wp_skip ?_
    refine then_normal ?_
    refine wp_seq ?_
    refine wp_block ?_
    refine go_seq_region [0, 1, 2, 3] (by kernel_rfl) ?_
    obtain ⟨b71, o72, hA73, hl74, hat75⟩ := Slots.get h15 (i := k) (by omega)
    obtain ⟨x76, he77⟩ : ∃ x, l4[k]? = some x := ⟨_, List.getElem?_eq_getElem (by omega)⟩
    have hr78 := h16 k x76 he77
    obtain ⟨n79, s80, b81, l82, u83, A84, c85, A86, c87, A88, c89, xs90, rfl, hcs91, h92, h93, h94, h95⟩ := hr78.open_
    rw [hcs91] at hr78
    have hsm97 := h92.small
    have hsm98 := h93.small
    rw [hcs91] at hat75
    refine of_op (wpOp_index hE68 (t := 23) (A := A8) (m := l4.length) (q := ((k : Nat) : Int)) (d := 20) (by kernel_rfl) (e := 26) (size := 5) (bytes := 88) (by kernel_rfl) hA73 rfl (by omega) fun a99 hE100 => ?_)
    clear hE68
    refine of_op (wpOp_load hE100 (t := 26) (b := b71) (o := o72 + k * 5) (d := 21) (by kernel_rfl) (cs := [.int .i64 n79, .slice A84 s80.length c85, .bool b81, .slice A86 l82.length c87, .slice A88 u83.length c89]) (v := .agg #[.int .i64 n79, .slice A84 s80.length c85, .bool b81, .slice A86 l82.length c87, .slice A88 u83.length c89]) (by kernel_rfl) (AtF.move hat75 hW63.step nilM keepF).at_ fun a101 hE102 => ?_)
    clear hE100
    refine of_op (wpOp_alloc hW63 hE102 (d := 5) (cs := [.int .i64 0, .slice none 0 0, .bool false, .slice none 0 0, .slice none 0 0]) (by kernel_rfl) fun b103 a104 w105 hb106 hz107 hF108 hW109 hE110 => ?_)
    clear hE102 hW63
    refine of_op (wpOp_store hW109 hE110 (oi := 3) (cs := [.int .i64 n79, .slice A84 s80.length c85, .bool b81, .slice A86 l82.length c87, .slice A88 u83.length c89]) (by kernel_rfl) fun w111 hF112 hW113 hE114 => ?_)
    clear hE110 hW109
    refine wpOps_nil ?_
    refine then_normal ?_
    refine go_drawK 7 (by kernel_rfl) hW113 fun w115 hF116 hW117 hT118 => ?_
    clear hW113
    refine go_rnD [0, 1, 2] [(1, .p 0 0), (2, .p 1 0), (3, .p 2 0), (16, .v (.slice A8 l4.length c9)), (17, .v (.int .i64 ((l4.length : Nat) : Int))), (18, .v (.int .i64 ((k : Nat) : Int))), (23, .v (.slice A_ k c_)), (24, .v (.agg #[.int .i64 n79, .slice A84 s80.length c85, .bool b81, .slice A86 l82.length c87, .slice A88 u83.length c89]))] 5 (panicFree_block (panicFree_then (panicFree_then (panicFree_block (panicFree_then panicFree_body))))) (fun _ h => h.cells) hT118 hE114 fun a119 hE120 => ?_
    clear hE114
    refine anyC_op (i := 3) (by kernel_rfl) (wpOp_call hE120 (f := 14) (vs := [.agg #[.int .i64 n79, .slice A84 s80.length c85, .bool b81, .slice A86 l82.length c87, .slice A88 u83.length c89]]) (d := 25) (by kernel_rfl) Tryz.call14 ( hg _ _ _ _ (hr78.move hW117.step nilM hW117.imm) (by have h_ := deep_get he77; rw [tdepth_mk] at hd; omega)) ?_)
    rintro e_ w124 ⟨cs123, rfl, hr122, hs121⟩
    have hr125 := hr122.move (Step.refl _ Nil) nilM (hW117.laid (G := F) hs121)
    obtain ⟨n126, s127, b128, l129, u130, A131, c132, A133, c134, A135, c136, xs137, ht143, hcs138, h139, h140, h141, h142⟩ := hr125.open_
    rw [hcs138] at hr125
    have hsm144 := h139.small
    have hsm145 := h140.small
    rw [hcs138]
    refine ⟨_, rfl, fun a146 hE147 => ?_⟩
    have hW148 := hW117.next_nil hs121
    have hF149 := hW117.frN hs121
    clear hE120
    have hT150 := TT.ofW hF149 hW148
    refine ⟨fun _ => hT150, ?_⟩
    refine anyC_op (i := 4) (by kernel_rfl) (wpOp_lit hW148 hE147 (e := 39) (size := 5) (len := 1) (cs := [.int .i64 n126, .slice A131 s127.length c132, .bool b128, .slice A133 l129.length c134, .slice A135 u130.length c136]) (d := 26) (by kernel_rfl) (by kernel_rfl) fun b151 a152 w153 hb154 hz155 hF156 hW157 hE158 => ?_)
    clear hE147 hW148
    have hT159 := TT.ofW (Fr.trans hF149 hF156) hW157
    refine ⟨fun _ => hT159, ?_⟩
    refine anyC_op (i := 5) (by kernel_rfl) (wpOp_append hW157 hE158 (k := 0) (d := 27) (t := 36) (e := 39) (size := 5) (bytes := 88) (A := A_) (As := (some ⟨b151, 0, none⟩)) (m0 := k) (c := c_) (m := 1) (cs := 1) (xs := xs) (news := [.int .i64 n126, .slice A131 s127.length c132, .bool b128, .slice A133 l129.length c134, .slice A135 u130.length c136]) (by kernel_rfl) (by kernel_rfl) rfl (own_src (hW157.own 1 _ rfl) (allOne_ok (by kernel_rfl))) (own_cap (hW157.own 1 _ rfl)) (by omega) fun A160 c161 a162 w163 hF164 hW165 hE166 => ?_)
    clear hE158 hW157
    have hT167 := TT.ofW (Fr.trans (Fr.trans hF149 hF156) hF164) hW165
    refine ⟨fun _ => hT167, ?_⟩
    refine go_rnD [6] [(1, .p 0 0), (2, .p 1 0), (3, .p 2 0), (16, .v (.slice A8 l4.length c9)), (17, .v (.int .i64 ((l4.length : Nat) : Int))), (18, .v (.int .i64 ((k : Nat) : Int))), (27, .v (.slice A160 (k + 1) c161)), (28, .p 2 3)] 1 (panicFree_block (panicFree_then (panicFree_then (panicFree_block (panicFree_then panicFree_body))))) (fun _ h => h.cells) hT167 hE166 fun a168 hE169 => ?_
    clear hE166
    refine anyC_op (i := 7) (by kernel_rfl) (wpOp_store hW165 hE169 (oi := 2) (cs := [.int .i64 n1, .slice A6 s2.length c7, .bool b3, .slice A160 (k + 1) c161, .slice none 0 0]) (by kernel_rfl) fun w170 hF171 hW172 hE173 => ?_)
    clear hE169 hW165
    refine ⟨fun h => absurd rfl h, ?_⟩
    refine anyC_done (by kernel_rfl) ?_ _
    refine block_normal ?_
    refine then_normal ?_
    refine go_region [0, 1] (by kernel_rfl) ?_
    refine go_rn [0, 1] [] [(1, .p 0 0), (2, .p 1 0), (3, .p 2 0), (16, .v (.slice A8 l4.length c9)), (17, .v (.int .i64 ((l4.length : Nat) : Int))), (18, .v (.int .i64 (IntKind.i64.wrap (((k : Nat) : Int) + 1))))] hW172 hE173 fun a174 hE175 => ?_
    clear hE173
    refine wpOps_nil ?_
    refine then_normal ?_
    obtain ⟨hE176, hW177, hF178⟩ := hW172.cutB hE175 3 [⟨b25, 0, [.int .i64 n1, .slice A6 s2.length c7, .bool b3, .slice A8 l4.length c9, .slice A10 u5.length c11], true⟩, ⟨b33, 0, [.int .i64 0, .slice none 0 0, .bool false, .slice none 0 0, .slice none 0 0], true⟩, ⟨b43, 0, [.int .i64 n1, .slice A6 s2.length c7, .bool b3, .slice A160 (k + 1) c161, .slice none 0 0], true⟩] [(1, .p 0 0), (2, .p 1 0), (3, .p 2 0), (16, .v (.slice A8 l4.length c9)), (17, .v (.int .i64 ((l4.length : Nat) : Int))), (18, .v (.int .i64 (IntKind.i64.wrap (((k : Nat) : Int) + 1))))]
    obtain ⟨hW179, hF180⟩ := hW177.cutR 1 [⟨A160, c161, 39, 5, k + 1, xs ++ [.int .i64 n126, .slice A131 s127.length c132, .bool b128, .slice A133 l129.length c134, .slice A135 u130.length c136]⟩]
    have he181 : IntKind.i64.wrap (((k : Nat) : Int) + 1) = ((k + 1 : Nat) : Int) := wrap_succ (by omega)
    rw [he181] at hE176
    exact ⟨l4.length - (k + 1), by omega, k + 1, A160, c161, xs ++ [Value.int .i64 n126, .slice A131 s127.length c132, .bool b128, .slice A133 l129.length c134, .slice A135 u130.length c136], (css ++ [[Value.int .i64 n126, .slice A131 s127.length c132, .bool b128, .slice A133 l129.length c134, .slice A135 u130.length c136]]), rfl, by omega, by rw [take_succ_of he77]; exact (hT.move (Fr.trans (Fr.trans (Fr.trans (Fr.trans (Fr.trans (Fr.trans (Fr.trans (Fr.trans hF108 hF112) hF116) hF149) hF156) hF164) hF171) hF178) hF180).step immM (Fr.trans (Fr.trans (Fr.trans (Fr.trans (Fr.trans (Fr.trans (Fr.trans (Fr.trans hF108 hF112) hF116) hF149) hF156) hF164) hF171) hF178) hF180).to').snoc (hr125.move (Fr.trans (Fr.trans (Fr.trans (Fr.trans hF156 hF164) hF171) hF178) hF180).step immM (Fr.trans (Fr.trans (Fr.trans (Fr.trans hF156 hF164) hF171) hF178) hF180).to'), hE176.pk, hW179, (Fr.trans (Fr.trans (Fr.trans (Fr.trans (Fr.trans (Fr.trans (Fr.trans (Fr.trans (Fr.trans hF66 hF108) hF112) hF116) hF149) hF156) hF164) hF171) hF178) hF180)⟩
  ·
    have hf182 := of_decide_eq_false hc69
    refine wp_exit ?_
    refine then_exit ?_
    refine then_exit ?_
    refine block_exit ?_
    refine then_normal ?_
    refine wp_seq ?_
    refine go_sp [(2, .p 1 0), (3, .p 2 0), (31, .v (.slice A10 u5.length c11)), (32, .v (.int .i64 ((u5.length : Nat) : Int))), (33, .v (.int .i64 0))] hW63 hE68 fun a183 hE184 => ?_
    clear hE68
    refine wp_block ?_
    have hk0 : k = l4.length := by omega
    have hW185 := hW63.addNil 64 2
    have hF186 := hW63.frNil 64 2
    clear hW63
    refine wp_loop_ghost (fun n_ a_ w_ => ∃ (q : Nat) (A5_ : Option Addr) (c5_ : Nat) (ys : List Value) (dss : List (List Value)), n_ = u5.length - q ∧ q ≤ u5.length ∧ (Tags w_ (Imm F w w_ [⟨b25, 0, [.int .i64 n1, .slice A6 s2.length c7, .bool b3, .slice A8 l4.length c9, .slice A10 u5.length c11], true⟩, ⟨b33, 0, [.int .i64 0, .slice none 0 0, .bool false, .slice none 0 0, .slice none 0 0], true⟩, ⟨b43, 0, [.int .i64 n1, .slice A6 s2.length c7, .bool b3, .slice A_ k c_, .slice A5_ q c5_], true⟩] [⟨A_, c_, 39, 5, k, xs⟩, ⟨A5_, c5_, 64, 2, q, ys⟩]) ys (u5.take q) dss) ∧ LInv hW185 49 [⟨b25, 0, [.int .i64 n1, .slice A6 s2.length c7, .bool b3, .slice A8 l4.length c9, .slice A10 u5.length c11], true⟩, ⟨b33, 0, [.int .i64 0, .slice none 0 0, .bool false, .slice none 0 0, .slice none 0 0], true⟩, ⟨b43, 0, [.int .i64 n1, .slice A6 s2.length c7, .bool b3, .slice A_ k c_, .slice A5_ q c5_], true⟩] [⟨A_, c_, 39, 5, k, xs⟩, ⟨A5_, c5_, 64, 2, q, ys⟩] [(2, .p 1 0), (3, .p 2 0), (31, .v (.slice A10 u5.length c11)), (32, .v (.int .i64 ((u5.length : Nat) : Int))), (33, .v (.int .i64 ((q : Nat) : Int)))] a_ w_) (u5.length) ⟨0, none, 0, [], [], by omega, by omega, Tags.nil _ _, hE184.pk, hW185, Fr.refl _ _ _⟩ ?_
    clear hE184
    rintro n187 a188 w189 ⟨q, A5_, c5_, ys, dss, hn192, hk193, hU, hE190, hW191, hF194⟩
    refine go_sp [(2, .p 1 0), (3, .p 2 0), (31, .v (.slice A10 u5.length c11)), (32, .v (.int .i64 ((u5.length : Nat) : Int))), (33, .v (.int .i64 ((q : Nat) : Int))), (34, .v (.bool (decide (((q : Nat) : Int) < ((u5.length : Nat) : Int)))))] hW191 hE190 fun a195 hE196 => ?_
    clear hE190
    refine wp_seq ?_
    refine cond_of hE196 (b := decide (((q : Nat) : Int) < ((u5.length : Nat) : Int))) (by kernel_rfl) (fun hc197 => ?_) (fun hc197 => ?_)
    ·
      have hf198 := of_decide_eq_true hc197
      refine wp_skip ?_
      refine then_normal ?_
      refine wp_seq ?_
      refine wp_block ?_
      refine go_seq_region [0, 1, 2, 3] (by kernel_rfl) ?_
      obtain ⟨b199, o200, hA201, hl202, hat203⟩ := Slots.get h22 (i := q) (by omega)
      obtain ⟨⟨k204, s205⟩, he206⟩ : ∃ x, u5[q]? = some x := ⟨_, List.getElem?_eq_getElem (by omega)⟩
      obtain ⟨⟨A207, c208, hcs209, hb210⟩, h211, h212⟩ := h23 q k204 s205 he206
      rw [hcs209] at hat203
      refine of_op (wpOp_index hE196 (t := 24) (A := A10) (m := u5.length) (q := ((q : Nat) : Int)) (d := 35) (by kernel_rfl) (e := 63) (size := 2) (bytes := 32) (by kernel_rfl) hA201 rfl (by omega) fun a213 hE214 => ?_)
      clear hE196
      refine of_op (wpOp_load hE214 (t := 63) (b := b199) (o := o200 + q * 2) (d := 36) (by kernel_rfl) (cs := [.int .u32 k204, .slice A207 s205.length c208]) (v := .agg #[.int .u32 k204, .slice A207 s205.length c208]) (by kernel_rfl) (AtF.move hat203 hW191.step nilM keepF).at_ fun a215 hE216 => ?_)
      clear hE214
      refine of_op (wpOp_alloc hW191 hE216 (d := 7) (cs := [.int .u32 0, .slice none 0 0]) (by kernel_rfl) fun b217 a218 w219 hb220 hz221 hF222 hW223 hE224 => ?_)
      clear hE216 hW191
      refine of_op (wpOp_store hW223 hE224 (oi := 3) (cs := [.int .u32 k204, .slice A207 s205.length c208]) (by kernel_rfl) fun w225 hF226 hW227 hE228 => ?_)
      clear hE224 hW223
      refine wpOps_nil ?_
      refine then_normal ?_
      refine go_region [0, 1, 2, 3, 4, 5, 6, 7, 8, 9, 10] (by kernel_rfl) ?_
      refine go_rn [0, 1, 2, 3, 4, 5, 6] [7, 8, 9, 10] [(2, .p 1 0), (3, .p 2 0), (31, .v (.slice A10 u5.length c11)), (32, .v (.int .i64 ((u5.length : Nat) : Int))), (33, .v (.int .i64 ((q : Nat) : Int))), (38, .v (.slice A5_ q c5_)), (43, .v (.agg #[.int .u32 k204, .slice A207 s205.length c208]))] hW227 hE228 fun a229 hE230 => ?_
      clear hE228
      refine wpOps_push hW227 hE230 (k := 1) (e := 64) (size := 2) (len := 1) (cs := [.int .u32 k204, .slice A207 s205.length c208]) (d1 := 44) (d := 45) (by kernel_rfl) (t := 37) (bytes := 32) (by kernel_rfl) (fun _ => by kernel_rfl) rfl (by kernel_rfl) (by omega) fun A231 c232 a233 w234 hF235 hW236 ⟨_, hE237⟩ => ?_
      clear hE230 hW227
      refine go_rn [9] [10] [(2, .p 1 0), (3, .p 2 0), (31, .v (.slice A10 u5.length c11)), (32, .v (.int .i64 ((u5.length : Nat) : Int))), (33, .v (.int .i64 ((q : Nat) : Int))), (45, .v (.slice A231 (q + 1) c232)), (46, .p 2 4)] hW236 hE237 fun a238 hE239 => ?_
      clear hE237
      refine of_op (wpOp_store hW236 hE239 (oi := 2) (cs := [.int .i64 n1, .slice A6 s2.length c7, .bool b3, .slice A_ k c_, .slice A231 (q + 1) c232]) (by kernel_rfl) fun w240 hF241 hW242 hE243 => ?_)
      clear hE239 hW236
      refine wpOps_nil ?_
      refine block_normal ?_
      refine then_normal ?_
      refine go_region [0, 1] (by kernel_rfl) ?_
      refine go_rn [0, 1] [] [(2, .p 1 0), (3, .p 2 0), (31, .v (.slice A10 u5.length c11)), (32, .v (.int .i64 ((u5.length : Nat) : Int))), (33, .v (.int .i64 (IntKind.i64.wrap (((q : Nat) : Int) + 1))))] hW242 hE243 fun a244 hE245 => ?_
      clear hE243
      refine wpOps_nil ?_
      refine then_normal ?_
      obtain ⟨hE246, hW247, hF248⟩ := hW242.cutB hE245 3 [⟨b25, 0, [.int .i64 n1, .slice A6 s2.length c7, .bool b3, .slice A8 l4.length c9, .slice A10 u5.length c11], true⟩, ⟨b33, 0, [.int .i64 0, .slice none 0 0, .bool false, .slice none 0 0, .slice none 0 0], true⟩, ⟨b43, 0, [.int .i64 n1, .slice A6 s2.length c7, .bool b3, .slice A_ k c_, .slice A231 (q + 1) c232], true⟩] [(2, .p 1 0), (3, .p 2 0), (31, .v (.slice A10 u5.length c11)), (32, .v (.int .i64 ((u5.length : Nat) : Int))), (33, .v (.int .i64 (IntKind.i64.wrap (((q : Nat) : Int) + 1))))]
      have he249 : IntKind.i64.wrap (((q : Nat) : Int) + 1) = ((q + 1 : Nat) : Int) := wrap_succ (by omega)
      rw [he249] at hE246
      exact ⟨u5.length - (q + 1), by omega, q + 1, A231, c232, ys ++ [Value.int .u32 k204, .slice A207 s205.length c208], (dss ++ [[Value.int .u32 k204, .slice A207 s205.length c208]]), rfl, by omega, by rw [take_succ_of he206]; exact (hU.move (Fr.trans (Fr.trans (Fr.trans (Fr.trans hF222 hF226) hF235) hF241) hF248).step immM (Fr.trans (Fr.trans (Fr.trans (Fr.trans hF222 hF226) hF235) hF241) hF248).to').snoc (c := [.int .u32 k204, .slice A207 s205.length c208]) (x := (k204, s205)) ⟨⟨_, _, rfl, (hb210.move hW247.step nilM hW247.imm)⟩, h211, h212⟩, hE246.pk, hW247, (Fr.trans (Fr.trans (Fr.trans (Fr.trans (Fr.trans hF194 hF222) hF226) hF235) hF241) hF248)⟩
    ·
      have hf250 := of_decide_eq_false hc197
      refine wp_exit ?_
      refine then_exit ?_
      refine then_exit ?_
      refine block_exit ?_
      refine then_normal ?_
      refine go_seq_region [0, 1] (by kernel_rfl) ?_
      refine go_rn [0] [1] [(2, .p 1 0), (48, .v (.agg #[.int .i64 n1, .slice A6 s2.length c7, .bool b3, .slice A_ k c_, .slice A5_ q c5_]))] hW191 hE196 fun a251 hE252 => ?_
      clear hE196
      refine of_op (wpOp_store hW191 hE252 (oi := 1) (cs := [.int .i64 n1, .slice A6 s2.length c7, .bool b3, .slice A_ k c_, .slice A5_ q c5_]) (by kernel_rfl) fun w253 hF254 hW255 hE256 => ?_)
      clear hE252 hW191
      refine wpOps_nil ?_
      refine then_normal ?_
      refine wp_ret ?_
      refine leave hE256 hW255.cells (v := .agg #[.int .i64 n1, .slice A6 s2.length c7, .bool b3, .slice A_ k c_, .slice A5_ q c5_]) (by kernel_rfl) ?_
      have hq0 : q = u5.length := by omega
      have hT' := (hT.move (Fr.trans (Fr.trans hF186 hF194) hF254).step immM (Fr.trans (Fr.trans hF186 hF194) hF254).to')
      have hU' := (hU.move hF254.step immM hF254.to')
      rw [show l4.take k = l4 by rw [hk0, List.take_length]] at hT'
      rw [show u5.take q = u5 by rw [hq0, List.take_length]] at hU'
      exact tree_end hW255 rfl (h14.move hW255.step nilM startFp) hk0 (trees_fp hW255 (k := 0) rfl hT' hk0 (by omega)) hq0 (tags_fp hW255 (k := 1) rfl hU' hq0 (by omega)) rfl

theorem lGiven : ∀ m, GivenOK m
  | 0 => fun ct t w F ht hd => by
    obtain ⟨n, s, b, l, u, A1, c1, A2, c2, A3, c3, xs, rfl, _⟩ := ht.open_
    rw [tdepth_mk] at hd; omega
  | m + 1 => lGiven_step (lGiven m)

end Go.Proofs.YtbjopfcbpobnpaaGreat.ME
