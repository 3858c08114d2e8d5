/- FnMakeDescribeLogDirsRequest: the statement: of every version and every tree of the bulk that the statement speaks of the law returns true, and leaves its arguments as they are. Own work. -/
import Derived.Test.YtbjopfcbpobnpaaWDlP3
/- Contracts: printed by tools/sp.py. Own work. -/
namespace Go.Proofs.Ytbjopfcbpobnpaa.ME
open Go
set_option linter.unusedVariables false
set_option linter.unusedSimpArgs false
set_option maxRecDepth 20000

theorem lFits3 (k : Int) (A : Option Addr) (m c : Nat) (w : World) : Calls Try.prog 92 #[.agg #[.int .u32 k, .slice A m c]] w (GivesB w) := by
  refine enter (n := 7) Try.func92 rfl Try.ntmps92 (by kernel_rfl) fun a hE => ?_
  have hW := WOk.start w Nil
  refine go_seq_region [0, 1] (by kernel_rfl) ?_
  refine of_op (wpOp_box hW hE (d := 1) (cs := [.int .u32 k, .slice A m c]) (by kernel_rfl) fun b1 a2 w3 hb4 hz5 hF6 hW7 hE8 => ?_)
  clear hE hW
  refine go_rn [1] [] [(1, .p 0 0)] hW7 hE8 fun a9 hE10 => ?_
  clear hE8
  refine wpOps_nil ?_
  refine then_normal ?_
  refine wp_seq ?_
  refine go_sp [(6, .v (.bool (decide (((m : Nat) : Int) > 2147483647))))] hW7 hE10 fun a11 hE12 => ?_
  clear hE10
  refine cond_of hE12 (b := decide (((m : Nat) : Int) > 2147483647)) (by kernel_rfl) (fun hc13 => ?_) (fun hc13 => ?_)
  ·
    have hf14 := of_decide_eq_true hc13
    refine go_sp [(2, .v (.bool false))] hW7 hE12 fun a15 hE16 => ?_
    clear hE12
    refine wp_ret ?_
    refine then_ret ?_
    refine leave hE16 hW7.cells (v := .bool false) (by kernel_rfl) ?_
    exact ⟨_, rfl, hW7.step⟩
  ·
    have hf17 := of_decide_eq_false hc13
    refine wp_skip ?_
    refine then_normal ?_
    refine go_sp [(2, .v (.bool true))] hW7 hE12 fun a18 hE19 => ?_
    clear hE12
    refine wp_ret ?_
    refine leave hE19 hW7.cells (v := .bool true) (by kernel_rfl) ?_
    exact ⟨_, rfl, hW7.step⟩

theorem lFits2 (A : Option Addr) (c : Nat) (u : List (Int × Bs)) (w : World) (F : Nat → Nat → Prop) (hu : TagsR w F A c u) : Calls Try.prog 41 #[.slice A u.length c] w (GivesB w) := by
  obtain ⟨xu, h1, h2⟩ := hu.ex
  have hsm := h1.small
  refine enter (n := 18) Try.func41 rfl Try.ntmps41 (by kernel_rfl) fun a hE => ?_
  have hW := WOk.start w Nil
  refine go_sp [(0, .v (.slice A u.length c))] hW hE fun a1 hE2 => ?_
  clear hE
  refine wp_seq ?_
  refine go_sp [(0, .v (.slice A u.length c)), (7, .v (.bool (decide (((u.length : Nat) : Int) > 2147483647))))] hW hE2 fun a3 hE4 => ?_
  clear hE2
  refine cond_of hE4 (b := decide (((u.length : Nat) : Int) > 2147483647)) (by kernel_rfl) (fun hc5 => ?_) (fun hc5 => ?_)
  ·
    have hf6 := of_decide_eq_true hc5
    refine go_sp [(2, .v (.bool false))] hW hE4 fun a7 hE8 => ?_
    clear hE4
    refine wp_ret ?_
    refine then_ret ?_
    refine leave hE8 hW.cells (v := .bool false) (by kernel_rfl) ?_
    exact ⟨_, rfl, hW.step⟩
  ·
    have hf9 := of_decide_eq_false hc5
    refine wp_skip ?_
    refine then_normal ?_
    refine wp_seq ?_
    refine go_sp [(8, .v (.slice A u.length c)), (9, .v (.int .i64 ((u.length : Nat) : Int))), (10, .v (.int .i64 0))] hW hE4 fun a10 hE11 => ?_
    clear hE4
    refine wp_block ?_
    refine wp_loop_ghost (fun n_ a_ w_ => ∃ (k : Nat), n_ = u.length - k ∧ k ≤ u.length ∧ LInv hW 18 [] [] [(8, .v (.slice A u.length c)), (9, .v (.int .i64 ((u.length : Nat) : Int))), (10, .v (.int .i64 ((k : Nat) : Int)))] a_ w_) (u.length) ⟨0, by omega, by omega, hE11.pk, hW, Fr.refl _ _ _⟩ ?_
    clear hE11
    rintro n12 a13 w14 ⟨k, hn17, hk18, hE15, hW16, hF19⟩
    refine go_sp [(8, .v (.slice A u.length c)), (9, .v (.int .i64 ((u.length : Nat) : Int))), (10, .v (.int .i64 ((k : Nat) : Int))), (11, .v (.bool (decide (((k : Nat) : Int) < ((u.length : Nat) : Int)))))] hW16 hE15 fun a20 hE21 => ?_
    clear hE15
    refine wp_seq ?_
    refine cond_of hE21 (b := decide (((k : Nat) : Int) < ((u.length : Nat) : Int))) (by kernel_rfl) (fun hc22 => ?_) (fun hc22 => ?_)
    ·
      have hf23 := of_decide_eq_true hc22
      refine wp_skip ?_
      refine then_normal ?_
      refine wp_seq ?_
      refine wp_block ?_
      refine go_seq_region [0, 1, 2, 3] (by kernel_rfl) ?_
      obtain ⟨b24, o25, hA26, hl27, hat28⟩ := Slots.get h1 (i := k) (by omega)
      obtain ⟨⟨k29, s30⟩, he31⟩ : ∃ x, u[k]? = some x := ⟨_, List.getElem?_eq_getElem (by omega)⟩
      obtain ⟨⟨A32, c33, hcs34, hb35⟩, h36, h37⟩ := h2 k k29 s30 he31
      rw [hcs34] at hat28
      refine of_op (wpOp_index hE21 (t := 24) (A := A) (m := u.length) (q := ((k : Nat) : Int)) (d := 12) (by kernel_rfl) (e := 61) (size := 2) (bytes := 32) (by kernel_rfl) hA26 rfl (by omega) fun a38 hE39 => ?_)
      clear hE21
      refine of_op (wpOp_load hE39 (t := 61) (b := b24) (o := o25 + k * 2) (d := 13) (by kernel_rfl) (cs := [.int .u32 k29, .slice A32 s30.length c33]) (v := .agg #[.int .u32 k29, .slice A32 s30.length c33]) (by kernel_rfl) (AtF.move hat28 hW16.step nilM keepF).at_ fun a40 hE41 => ?_)
      clear hE39
      refine of_op (wpOp_alloc hW16 hE41 (d := 4) (cs := [.int .u32 0, .slice none 0 0]) (by kernel_rfl) fun b42 a43 w44 hb45 hz46 hF47 hW48 hE49 => ?_)
      clear hE41 hW16
      refine of_op (wpOp_store hW48 hE49 (oi := 0) (cs := [.int .u32 k29, .slice A32 s30.length c33]) (by kernel_rfl) fun w50 hF51 hW52 hE53 => ?_)
      clear hE49 hW48
      refine wpOps_nil ?_
      refine then_normal ?_
      refine go_seq_region [0, 1, 2] (by kernel_rfl) ?_
      refine go_rn [0] [1, 2] [(8, .v (.slice A u.length c)), (9, .v (.int .i64 ((u.length : Nat) : Int))), (10, .v (.int .i64 ((k : Nat) : Int))), (14, .v (.agg #[.int .u32 k29, .slice A32 s30.length c33]))] hW52 hE53 fun a54 hE55 => ?_
      clear hE53
      refine of_op (wpOp_call hE55 (f := 92) (vs := [.agg #[.int .u32 k29, .slice A32 s30.length c33]]) (d := 15) (by kernel_rfl) Try.call92 (lFits3 _ _ _ _ _) ?_)
      rintro e_ w58 ⟨b57, rfl, hs56⟩
      refine ⟨_, rfl, fun a59 hE60 => ?_⟩
      have hW61 := hW52.next_nil hs56
      have hF62 := hW52.frN hs56
      clear hE55 hW52
      refine go_rn [2] [] [(8, .v (.slice A u.length c)), (9, .v (.int .i64 ((u.length : Nat) : Int))), (10, .v (.int .i64 ((k : Nat) : Int))), (16, .v (.bool (!b57)))] hW61 hE60 fun a63 hE64 => ?_
      clear hE60
      refine wpOps_nil ?_
      refine then_normal ?_
      refine cond_of hE64 (b := !b57) (by kernel_rfl) (fun hc65 => ?_) (fun hc65 => ?_)
      ·
        refine go_sp [(2, .v (.bool false))] hW61 hE64 fun a67 hE68 => ?_
        clear hE64
        refine wp_ret ?_
        refine block_ret ?_
        refine then_ret ?_
        refine then_ret ?_
        refine block_ret ?_
        refine then_ret ?_
        refine leave hE68 hW61.cells (v := .bool false) (by kernel_rfl) ?_
        exact ⟨_, rfl, hW61.step⟩
      ·
        refine wp_skip ?_
        refine block_normal ?_
        refine then_normal ?_
        refine go_region [0, 1] (by kernel_rfl) ?_
        refine go_rn [0, 1] [] [(8, .v (.slice A u.length c)), (9, .v (.int .i64 ((u.length : Nat) : Int))), (10, .v (.int .i64 (IntKind.i64.wrap (((k : Nat) : Int) + 1))))] hW61 hE64 fun a70 hE71 => ?_
        clear hE64
        refine wpOps_nil ?_
        refine then_normal ?_
        obtain ⟨hE72, hW73, hF74⟩ := hW61.cutB hE71 0 [] [(8, .v (.slice A u.length c)), (9, .v (.int .i64 ((u.length : Nat) : Int))), (10, .v (.int .i64 (IntKind.i64.wrap (((k : Nat) : Int) + 1))))]
        have he75 : IntKind.i64.wrap (((k : Nat) : Int) + 1) = ((k + 1 : Nat) : Int) := wrap_succ (by omega)
        rw [he75] at hE72
        exact ⟨u.length - (k + 1), by omega, k + 1, rfl, by omega, hE72.pk, hW73, (Fr.trans (Fr.trans (Fr.trans (Fr.trans hF19 hF47) hF51) hF62) hF74)⟩
    ·
      have hf76 := of_decide_eq_false hc22
      refine wp_exit ?_
      refine then_exit ?_
      refine then_exit ?_
      refine block_exit ?_
      refine then_normal ?_
      refine go_sp [(2, .v (.bool true))] hW16 hE21 fun a77 hE78 => ?_
      clear hE21
      refine wp_ret ?_
      refine leave hE78 hW16.cells (v := .bool true) (by kernel_rfl) ?_
      exact ⟨_, rfl, hW16.step⟩

theorem lFits1 (ct : List Value) (t : Tree) (w : World) (F : Nat → Nat → Prop) (ht : TreeR w F ct t) : Calls Try.prog 11 #[.agg ct.toArray] w (GivesB w) := by
  obtain ⟨n1, s2, b3, l4, u5, A6, c7, A8, c9, A10, c11, xs12, rfl, rfl, h14, h15, h16, h17⟩ := ht.open_
  have hsm19 := h14.small
  have hsm20 := h15.small
  refine enter (n := 15) Try.func11 rfl Try.ntmps11 (by kernel_rfl) fun a hE => ?_
  have hW := WOk.start w Nil
  refine go_seq_region [0, 1] (by kernel_rfl) ?_
  refine of_op (wpOp_box hW hE (d := 1) (cs := [.int .i64 n1, .slice A6 s2.length c7, .bool b3, .slice A8 l4.length c9, .slice A10 u5.length c11]) (by kernel_rfl) fun b21 a22 w23 hb24 hz25 hF26 hW27 hE28 => ?_)
  clear hE hW
  refine go_rn [1] [] [(1, .p 0 0)] hW27 hE28 fun a29 hE30 => ?_
  clear hE28
  refine wpOps_nil ?_
  refine then_normal ?_
  refine wp_seq ?_
  refine go_sp [(1, .p 0 0), (6, .v (.bool (decide (((s2.length : Nat) : Int) > 2147483647))))] hW27 hE30 fun a31 hE32 => ?_
  clear hE30
  refine cond_of hE32 (b := decide (((s2.length : Nat) : Int) > 2147483647)) (by kernel_rfl) (fun hc33 => ?_) (fun hc33 => ?_)
  ·
    have hf34 := of_decide_eq_true hc33
    refine go_sp [(2, .v (.bool false))] hW27 hE32 fun a35 hE36 => ?_
    clear hE32
    refine wp_ret ?_
    refine then_ret ?_
    refine leave hE36 hW27.cells (v := .bool false) (by kernel_rfl) ?_
    exact ⟨_, rfl, hW27.step⟩
  ·
    have hf37 := of_decide_eq_false hc33
    refine wp_skip ?_
    refine then_normal ?_
    refine wp_seq ?_
    refine go_sp [(1, .p 0 0), (10, .v (.bool (decide (((l4.length : Nat) : Int) > 2147483647))))] hW27 hE32 fun a38 hE39 => ?_
    clear hE32
    refine cond_of hE39 (b := decide (((l4.length : Nat) : Int) > 2147483647)) (by kernel_rfl) (fun hc40 => ?_) (fun hc40 => ?_)
    ·
      have hf41 := of_decide_eq_true hc40
      refine go_sp [(2, .v (.bool false))] hW27 hE39 fun a42 hE43 => ?_
      clear hE39
      refine wp_ret ?_
      refine then_ret ?_
      refine leave hE43 hW27.cells (v := .bool false) (by kernel_rfl) ?_
      exact ⟨_, rfl, hW27.step⟩
    ·
      have hf44 := of_decide_eq_false hc40
      refine wp_skip ?_
      refine then_normal ?_
      refine wp_seq ?_
      refine go_seq_region [0, 1, 2, 3] (by kernel_rfl) ?_
      refine go_rn [0, 1] [2, 3] [(12, .v (.slice A10 u5.length c11))] hW27 hE39 fun a45 hE46 => ?_
      clear hE39
      refine of_op (wpOp_call hE46 (f := 41) (vs := [.slice A10 u5.length c11]) (d := 13) (by kernel_rfl) Try.call41 (lFits2 _ _ u5 _ _ (h17.move hW27.step nilM hW27.imm)) ?_)
      rintro e_ w49 ⟨b48, rfl, hs47⟩
      refine ⟨_, rfl, fun a50 hE51 => ?_⟩
      have hW52 := hW27.next_nil hs47
      have hF53 := hW27.frN hs47
      clear hE46 hW27
      refine go_rn [3] [] [(14, .v (.bool (!b48)))] hW52 hE51 fun a54 hE55 => ?_
      clear hE51
      refine wpOps_nil ?_
      refine then_normal ?_
      refine cond_of hE55 (b := !b48) (by kernel_rfl) (fun hc56 => ?_) (fun hc56 => ?_)
      ·
        refine go_sp [(2, .v (.bool false))] hW52 hE55 fun a58 hE59 => ?_
        clear hE55
        refine wp_ret ?_
        refine then_ret ?_
        refine leave hE59 hW52.cells (v := .bool false) (by kernel_rfl) ?_
        exact ⟨_, rfl, hW52.step⟩
      ·
        refine wp_skip ?_
        refine then_normal ?_
        refine go_sp [(2, .v (.bool true))] hW52 hE55 fun a61 hE62 => ?_
        clear hE55
        refine wp_ret ?_
        refine leave hE62 hW52.cells (v := .bool true) (by kernel_rfl) ?_
        exact ⟨_, rfl, hW52.step⟩

theorem lVersion (x m : Int) (hx : 0 ≤ x) (hx' : x < 256) (hm : 0 ≤ m) (hm' : m < 32768) (w : World) : Calls Try.prog 14 #[.int .u8 x, .int .i64 m] w (Gives w (.int .i64 (Int.tmod x (m + 1)))) := by
  refine enter (n := 10) Try.func14 rfl Try.ntmps14 (by kernel_rfl) fun a hE => ?_
  have hW := WOk.start w Nil
  refine go_sp [(0, .v (.int .u8 x)), (1, .v (.int .i64 m))] hW hE fun a1 hE2 => ?_
  clear hE
  refine go_seq_region [0, 1, 2, 3, 4, 5] (by kernel_rfl) ?_
  refine go_rn [0, 1, 2, 3] [4, 5] [(6, .v (.int .i64 (IntKind.i64.wrap x))), (8, .v (.int .i64 (IntKind.i64.wrap (m + 1))))] hW hE2 fun a3 hE4 => ?_
  clear hE2
  refine of_op (wpOp_rem hE4 (k := .i64) (p := (IntKind.i64.wrap x)) (q := (IntKind.i64.wrap (m + 1))) (d := 9) (by kernel_rfl) (by simp only [IntKind.wrap_i64]; omega) fun a5 hE6 => ?_)
  clear hE4
  refine go_rn [5] [] [(4, .v (.int .i64 (Int.tmod (IntKind.i64.wrap x) (IntKind.i64.wrap (m + 1)))))] hW hE6 fun a7 hE8 => ?_
  clear hE6
  refine wpOps_nil ?_
  refine then_normal ?_
  refine wp_ret ?_
  refine leave hE8 hW.cells (v := .int .i64 (Int.tmod (IntKind.i64.wrap x) (IntKind.i64.wrap (m + 1)))) (by kernel_rfl) ?_
  exact ⟨by rw [wrap_i64 (by omega) (by omega), wrap_i64 (by omega) (by omega)], hW.step⟩

end Go.Proofs.Ytbjopfcbpobnpaa.ME

/- Printed by tools/mk.py. Own work. -/
namespace Go.Proofs.Ytbjopfcbpobnpaa.ME
open Go
open Go.RowKit
set_option linter.unusedVariables false
set_option linter.unusedSimpArgs false
set_option maxRecDepth 20000

def clDescribeLogDirsRequestTopic (d : DV) : List Value := [.string ((d.f 0).s), .slice ((d.f 1).A) ((d.f 1).l) ((d.f 1).c), .map d.m]
theorem oneDescribeLogDirsRequestTopic : ∀ d, ∀ u ∈ clDescribeLogDirsRequestTopic d, u.oneCell' = true := fun d => allOne_ok (by kernel_rfl)
theorem mvDescribeLogDirsRequestTopic : Moves okDescribeLogDirsRequestTopic := by
  intro w w' F F' M d hs hM hF h
  unfold okDescribeLogDirsRequestTopic at h ⊢
  obtain ⟨g0, ⟨g1, g1l, g1e⟩, t1, t2, t3, _⟩ := h
  exact ⟨g0, ⟨g1.move hs hM hF, g1l, g1e⟩, t1.move hs hM hF, t2, t3, trivial⟩

set_option maxHeartbeats 4000000 in
theorem eDescribeLogDirsRequestTopic (ct : List Value) (t : Tree) (w : World) (F : Nat → Nat → Prop) (ht : TreeR w F ct t) (hc : canDescribeLogDirsRequestTopic t) :
    Calls Try.prog 119 #[.agg ct.toArray] w (fun e w' => ∃ D : DV, e = .returned (.agg #[.string ((D.f 0).s), .slice ((D.f 1).A) ((D.f 1).l) ((D.f 1).c), .map D.m]) ∧ okDescribeLogDirsRequestTopic w' (Fp F w) D ∧ relDescribeLogDirsRequestTopic D t ∧ Step w w' Nil) := by
  obtain ⟨n1, s2, b3, l4, u5, A6, c7, A8, c9, A10, c11, xs12, rfl, rfl, h14, h15, h16, h17⟩ := ht.open_
  have hsm19 := h14.small
  have hsm20 := h15.small
  unfold canDescribeLogDirsRequestTopic at hc
  obtain ⟨c0, c1, cU, _⟩ := hc
  have hsort := cU.1
  replace hsort : Sorted u5 := hsort
  have hul : u5.length ≤ 1000000 := cU.2.1
  refine enter (n := 55) Try.func119 rfl Try.ntmps119 (by kernel_rfl) fun a hE => ?_
  have hW := WOk.start w Nil
  refine go_seq_region [0, 1] (by kernel_rfl) ?_
  refine of_op (wpOp_box hW hE (d := 1) (cs := [.int .i64 n1, .slice A6 s2.length c7, .bool b3, .slice A8 l4.length c9, .slice A10 u5.length c11]) (by kernel_rfl) fun b21 a22 w23 hb24 hz25 hF26 hW27 hE28 => ?_)
  clear hE hW
  refine of_op (wpOp_alloc hW27 hE28 (d := 2) (cs := [.string ByteArray.empty, .slice none 0 0, .map none]) (by kernel_rfl) fun b29 a30 w31 hb32 hz33 hF34 hW35 hE36 => ?_)
  clear hE28 hW27
  refine wpOps_nil ?_
  refine then_normal ?_
  refine go_seq_region [0] (by kernel_rfl) ?_
  refine of_op (wpOp_alloc hW35 hE36 (d := 3) (cs := [.string ByteArray.empty, .slice none 0 0, .map none]) (by kernel_rfl) fun b37 a38 w39 hb40 hz41 hF42 hW43 hE44 => ?_)
  clear hE36 hW35
  refine wpOps_nil ?_
  refine then_normal ?_
  refine go_seq_region [0, 1, 2, 3, 4, 5] (by kernel_rfl) ?_
  refine go_rn [0] [1, 2, 3, 4, 5] [(1, .p 0 0), (2, .p 1 0), (3, .p 2 0), (8, .v (.agg #[.int .i64 n1, .slice A6 s2.length c7, .bool b3, .slice A8 l4.length c9, .slice A10 u5.length c11]))] hW43 hE44 fun a45 hE46 => ?_
  clear hE44
  refine of_op (wpOp_call hE46 (f := 95) (vs := [.agg #[.int .i64 n1, .slice A6 s2.length c7, .bool b3, .slice A8 l4.length c9, .slice A10 u5.length c11], .int .i64 0]) (d := 9) (by kernel_rfl) Try.call95 (iAt _ _ 0 _ _ (ht.move hW43.step nilM hW43.imm)) ?_)
  rintro e_ w50 ⟨cs49, rfl, hr48, hs47⟩
  have hr51 := hr48.move hs47 nilM (fun b o h_ hb_ => hW43.laid (G := F) hs47 b o (.inl h_) (Nat.lt_of_lt_of_le hb_ hs47.size))
  obtain ⟨n52, s53, b54, l55, u56, A57, c58, A59, c60, A61, c62, xs63, ht69, hcs64, h65, h66, h67, h68⟩ := hr51.open_
  rw [hcs64] at hr51
  have hsm70 := h65.small
  have hsm71 := h66.small
  rw [hcs64]
  refine ⟨_, rfl, fun a72 hE73 => ?_⟩
  have hW74 := hW43.next_nil hs47
  have hF75 := hW43.frN hs47
  clear hE46
  refine go_rn [2] [3, 4, 5] [(1, .p 0 0), (2, .p 1 0), (3, .p 2 0), (10, .v (.slice A57 s53.length c58))] hW74 hE73 fun a76 hE77 => ?_
  clear hE73
  refine of_op (wpOp_conv hE77 (src := 22) (dst := 9) (e := 5) (d := 11) (by kernel_rfl) (by kernel_rfl) (by kernel_rfl) (by kernel_rfl) h65 fun a78 hE79 => ?_)
  clear hE77
  refine go_rn [4] [5] [(1, .p 0 0), (2, .p 1 0), (3, .p 2 0), (11, .v (.string (bs s53))), (12, .p 2 0)] hW74 hE79 fun a80 hE81 => ?_
  clear hE79
  refine of_op (wpOp_store hW74 hE81 (oi := 2) (cs := [.string (bs s53), .slice none 0 0, .map none]) (by kernel_rfl) fun w82 hF83 hW84 hE85 => ?_)
  clear hE81 hW74
  refine wpOps_nil ?_
  refine then_normal ?_
  refine wp_seq ?_
  refine go_seq_region [0, 1, 2, 3] (by kernel_rfl) ?_
  refine go_rn [0] [1, 2, 3] [(1, .p 0 0), (2, .p 1 0), (3, .p 2 0), (13, .v (.agg #[.int .i64 n1, .slice A6 s2.length c7, .bool b3, .slice A8 l4.length c9, .slice A10 u5.length c11]))] hW84 hE85 fun a86 hE87 => ?_
  clear hE85
  refine of_op (wpOp_call hE87 (f := 95) (vs := [.agg #[.int .i64 n1, .slice A6 s2.length c7, .bool b3, .slice A8 l4.length c9, .slice A10 u5.length c11], .int .i64 1]) (d := 14) (by kernel_rfl) Try.call95 (iAt _ _ 1 _ _ (ht.move hW84.step nilM hW84.imm)) ?_)
  rintro e_ w91 ⟨cs90, rfl, hr89, hs88⟩
  have hr92 := hr89.move hs88 nilM (fun b o h_ hb_ => hW84.laid (G := F) hs88 b o (.inl h_) (Nat.lt_of_lt_of_le hb_ hs88.size))
  obtain ⟨n93, s94, b95, l96, u97, A98, c99, A100, c101, A102, c103, xs104, ht110, hcs105, h106, h107, h108, h109⟩ := hr92.open_
  rw [hcs105] at hr92
  have hsm111 := h106.small
  have hsm112 := h107.small
  rw [hcs105]
  refine ⟨_, rfl, fun a113 hE114 => ?_⟩
  have hW115 := hW84.next_nil hs88
  have hF116 := hW84.frN hs88
  clear hE87
  refine go_rn [2, 3] [] [(1, .p 0 0), (2, .p 1 0), (3, .p 2 0), (16, .v (.bool (!b95)))] hW115 hE114 fun a117 hE118 => ?_
  clear hE114
  refine wpOps_nil ?_
  refine then_normal ?_
  refine wp_join (Mid := fun a_ w_ => ∃ (A_ : Option Addr) (c_ : Nat) (f_ : Nat → DV), A_.isNone = Tree.null (Tree.at_ (Tree.mk n1 s2 b3 l4 u5) 1) ∧ LstR w_ (Imm F w w_ [⟨b21, 0, [.int .i64 n1, .slice A6 s2.length c7, .bool b3, .slice A8 l4.length c9, .slice A10 u5.length c11], true⟩, ⟨b29, 0, [.string ByteArray.empty, .slice none 0 0, .map none], true⟩, ⟨b37, 0, [.string (bs s53), .slice A_ ((lst (Tree.at_ (Tree.mk n1 s2 b3 l4 u5) 1)).length) c_, .map none], true⟩] []) 1 (fun d => [.int .i32 d.n]) okNone (fun d t => d.n = IntKind.i32.wrap t.N) A_ c_ f_ (lst (Tree.at_ (Tree.mk n1 s2 b3 l4 u5) 1)) ∧ LInv hW115 55 [⟨b21, 0, [.int .i64 n1, .slice A6 s2.length c7, .bool b3, .slice A8 l4.length c9, .slice A10 u5.length c11], true⟩, ⟨b29, 0, [.string ByteArray.empty, .slice none 0 0, .map none], true⟩, ⟨b37, 0, [.string (bs s53), .slice A_ ((lst (Tree.at_ (Tree.mk n1 s2 b3 l4 u5) 1)).length) c_, .map none], true⟩] [] [(1, .p 0 0), (2, .p 1 0), (3, .p 2 0)] a_ w_) ?_ ?_
  ·
    refine cond_of hE118 (b := !b95) (by kernel_rfl) (fun hc119 => ?_) (fun hc119 => ?_)
    ·
      have hnull_ : Tree.null (Tree.at_ (Tree.mk n1 s2 b3 l4 u5) 1) = false := by rw [ht110]; show b95 = false; simpa using hc119
      refine go_seq_region [0, 1, 2, 3, 4, 5, 6] (by kernel_rfl) ?_
      refine go_rn [0] [1, 2, 3, 4, 5, 6] [(1, .p 0 0), (2, .p 1 0), (3, .p 2 0), (17, .v (.agg #[.int .i64 n1, .slice A6 s2.length c7, .bool b3, .slice A8 l4.length c9, .slice A10 u5.length c11]))] hW115 hE118 fun a121 hE122 => ?_
      clear hE118
      refine of_op (wpOp_call hE122 (f := 95) (vs := [.agg #[.int .i64 n1, .slice A6 s2.length c7, .bool b3, .slice A8 l4.length c9, .slice A10 u5.length c11], .int .i64 1]) (d := 18) (by kernel_rfl) Try.call95 (iAt _ _ 1 _ _ (ht.move hW115.step nilM hW115.imm)) ?_)
      rintro e_ w126 ⟨cs125, rfl, hr124, hs123⟩
      have hr127 := hr124.move hs123 nilM (fun b o h_ hb_ => hW115.laid (G := F) hs123 b o (.inl h_) (Nat.lt_of_lt_of_le hb_ hs123.size))
      obtain ⟨n128, s129, b130, l131, u132, A133, c134, A135, c136, A137, c138, xs139, ht145, hcs140, h141, h142, h143, h144⟩ := hr127.open_
      rw [hcs140] at hr127
      have hsm146 := h141.small
      have hsm147 := h142.small
      rw [hcs140]
      refine ⟨_, rfl, fun a148 hE149 => ?_⟩
      have hW150 := hW115.next_nil hs123
      have hF151 := hW115.frN hs123
      clear hE122
      have hl3_ : lst (Tree.at_ (Tree.mk n1 s2 b3 l4 u5) 1) = l131 := by rw [lst_of hnull_, ht145]; rfl
      have hb152 : l131.length ≤ 1000000 := by have h_ := c1; rw [hl3_] at h_; exact h_
      refine go_rn [2, 3] [4, 5, 6] [(1, .p 0 0), (2, .p 1 0), (3, .p 2 0), (20, .v (.int .i64 ((l131.length : Nat) : Int)))] hW150 hE149 fun a153 hE154 => ?_
      clear hE149
      refine of_op (wpOp_make0 hW150 hE154 (d := 21) (j := l131.length) (t := 130) (e := 21) (size := 1) (bytes := 4) (by kernel_rfl) (by kernel_rfl) rfl (rfl) (by omega) fun b155 a156 w157 hb158 hz159 hF160 hW161 hE162 => ?_)
      clear hE154 hW150
      refine go_rn [5] [6] [(1, .p 0 0), (2, .p 1 0), (3, .p 2 0), (21, .v (.slice (some ⟨b155, 0, none⟩) 0 l131.length)), (22, .p 2 1)] hW161 hE162 fun a163 hE164 => ?_
      clear hE162
      refine of_op (wpOp_store hW161 hE164 (oi := 2) (cs := [.string (bs s53), .slice (some ⟨b155, 0, none⟩) 0 l131.length, .map none]) (by kernel_rfl) fun w165 hF166 hW167 hE168 => ?_)
      clear hE164 hW161
      refine wpOps_nil ?_
      refine then_normal ?_
      refine go_seq_region [0, 1, 2, 3, 4] (by kernel_rfl) ?_
      refine go_rn [0] [1, 2, 3, 4] [(1, .p 0 0), (2, .p 1 0), (3, .p 2 0), (23, .v (.agg #[.int .i64 n1, .slice A6 s2.length c7, .bool b3, .slice A8 l4.length c9, .slice A10 u5.length c11]))] hW167 hE168 fun a169 hE170 => ?_
      clear hE168
      refine of_op (wpOp_call hE170 (f := 95) (vs := [.agg #[.int .i64 n1, .slice A6 s2.length c7, .bool b3, .slice A8 l4.length c9, .slice A10 u5.length c11], .int .i64 1]) (d := 24) (by kernel_rfl) Try.call95 (iAt _ _ 1 _ _ (ht.move hW167.step nilM hW167.imm)) ?_)
      rintro e_ w174 ⟨cs173, rfl, hr172, hs171⟩
      have hr175 := hr172.move hs171 nilM (fun b o h_ hb_ => hW167.laid (G := F) hs171 b o (.inl h_) (Nat.lt_of_lt_of_le hb_ hs171.size))
      obtain ⟨n176, s177, b178, l179, u180, A181, c182, A183, c184, A185, c186, xs187, ht193, hcs188, h189, h190, h191, h192⟩ := hr175.open_
      rw [hcs188] at hr175
      have hsm194 := h189.small
      have hsm195 := h190.small
      rw [hcs188]
      refine ⟨_, rfl, fun a196 hE197 => ?_⟩
      have hW198 := hW167.next_nil hs171
      have hF199 := hW167.frN hs171
      clear hE170
      have hl3_ : lst (Tree.at_ (Tree.mk n1 s2 b3 l4 u5) 1) = l179 := by rw [lst_of hnull_, ht193]; rfl
      have hb200 : l179.length ≤ 1000000 := by have h_ := c1; rw [hl3_] at h_; exact h_
      refine go_rn [2, 3, 4] [] [(1, .p 0 0), (2, .p 1 0), (3, .p 2 0), (25, .v (.slice A183 l179.length c184)), (26, .v (.int .i64 ((l179.length : Nat) : Int))), (27, .v (.int .i64 0))] hW198 hE197 fun a201 hE202 => ?_
      clear hE197
      refine wpOps_nil ?_
      refine then_normal ?_
      refine wp_block ?_
      refine wp_loop_ghost (fun n_ a_ w_ => ∃ (k : Nat) (A_ : Option Addr) (c_ : Nat) (xs_ : List Value) (ds_ : List DV), n_ = l179.length - k ∧ k ≤ l179.length ∧ (A_.isNone = false) ∧ (RowL w_ (Imm F w w_ [⟨b21, 0, [.int .i64 n1, .slice A6 s2.length c7, .bool b3, .slice A8 l4.length c9, .slice A10 u5.length c11], true⟩, ⟨b29, 0, [.string ByteArray.empty, .slice none 0 0, .map none], true⟩, ⟨b37, 0, [.string (bs s53), .slice A_ k c_, .map none], true⟩] [⟨A_, c_, 21, 1, k, xs_⟩]) 1 (fun d => [.int .i32 d.n]) okNone (fun d t => d.n = IntKind.i32.wrap t.N) xs_ ds_ (l179.take k)) ∧ LInv hW198 55 [⟨b21, 0, [.int .i64 n1, .slice A6 s2.length c7, .bool b3, .slice A8 l4.length c9, .slice A10 u5.length c11], true⟩, ⟨b29, 0, [.string ByteArray.empty, .slice none 0 0, .map none], true⟩, ⟨b37, 0, [.string (bs s53), .slice A_ k c_, .map none], true⟩] [⟨A_, c_, 21, 1, k, xs_⟩] [(1, .p 0 0), (2, .p 1 0), (3, .p 2 0), (25, .v (.slice A183 l179.length c184)), (26, .v (.int .i64 ((l179.length : Nat) : Int))), (27, .v (.int .i64 ((k : Nat) : Int)))] a_ w_) (l179.length) ⟨0, (some ⟨b155, 0, none⟩), l131.length, [], [], by omega, by omega, rfl, RowL.nil mvNone, hE202.pk, hW198, Fr.refl _ _ _⟩ ?_
      clear hE202
      rintro n203 a204 w205 ⟨k, A_, c_, xs_, ds_, hn208, hk209, hA, hR, hE206, hW207, hF210⟩
      refine go_sp [(1, .p 0 0), (2, .p 1 0), (3, .p 2 0), (25, .v (.slice A183 l179.length c184)), (26, .v (.int .i64 ((l179.length : Nat) : Int))), (27, .v (.int .i64 ((k : Nat) : Int))), (28, .v (.bool (decide (((k : Nat) : Int) < ((l179.length : Nat) : Int)))))] hW207 hE206 fun a211 hE212 => ?_
      clear hE206
      refine wp_seq ?_
      refine cond_of hE212 (b := decide (((k : Nat) : Int) < ((l179.length : Nat) : Int))) (by kernel_rfl) (fun hc213 => ?_) (fun hc213 => ?_)
      ·
        have hf214 := of_decide_eq_true hc213
        refine wp_skip ?_
        refine then_normal ?_
        refine wp_seq ?_
        refine wp_block ?_
        refine go_seq_region [0, 1, 2, 3] (by kernel_rfl) ?_
        obtain ⟨b215, o216, hA217, hl218, hat219⟩ := Slots.get h190 (i := k) (by omega)
        obtain ⟨x220, he221⟩ : ∃ x, l179[k]? = some x := ⟨_, List.getElem?_eq_getElem (by omega)⟩
        have hr222 := h191 k x220 he221
        obtain ⟨n223, s224, b225, l226, u227, A228, c229, A230, c231, A232, c233, xs234, rfl, hcs235, h236, h237, h238, h239⟩ := hr222.open_
        rw [hcs235] at hr222
        have hsm241 := h236.small
        have hsm242 := h237.small
        rw [hcs235] at hat219
        refine of_op (wpOp_index hE212 (t := 36) (A := A183) (m := l179.length) (q := ((k : Nat) : Int)) (d := 29) (by kernel_rfl) (e := 39) (size := 5) (bytes := 88) (by kernel_rfl) hA217 rfl (by omega) fun a243 hE244 => ?_)
        clear hE212
        refine of_op (wpOp_load hE244 (t := 39) (b := b215) (o := o216 + k * 5) (d := 30) (by kernel_rfl) (cs := [.int .i64 n223, .slice A228 s224.length c229, .bool b225, .slice A230 l226.length c231, .slice A232 u227.length c233]) (v := .agg #[.int .i64 n223, .slice A228 s224.length c229, .bool b225, .slice A230 l226.length c231, .slice A232 u227.length c233]) (by kernel_rfl) (AtF.move hat219 hF210.step immM hF210.to').at_ fun a245 hE246 => ?_)
        clear hE244
        refine of_op (wpOp_alloc hW207 hE246 (d := 5) (cs := [.int .i64 0, .slice none 0 0, .bool false, .slice none 0 0, .slice none 0 0]) (by kernel_rfl) fun b247 a248 w249 hb250 hz251 hF252 hW253 hE254 => ?_)
        clear hE246 hW207
        refine of_op (wpOp_store hW253 hE254 (oi := 3) (cs := [.int .i64 n223, .slice A228 s224.length c229, .bool b225, .slice A230 l226.length c231, .slice A232 u227.length c233]) (by kernel_rfl) fun w255 hF256 hW257 hE258 => ?_)
        clear hE254 hW253
        refine wpOps_nil ?_
        refine then_normal ?_
        refine go_region [0, 1, 2, 3, 4, 5, 6, 7, 8] (by kernel_rfl) ?_
        refine go_rn [0, 1, 2, 3, 4] [5, 6, 7, 8] [(1, .p 0 0), (2, .p 1 0), (3, .p 2 0), (25, .v (.slice A183 l179.length c184)), (26, .v (.int .i64 ((l179.length : Nat) : Int))), (27, .v (.int .i64 ((k : Nat) : Int))), (32, .v (.slice A_ k c_)), (35, .v (.int .i32 (IntKind.i32.wrap n223)))] hW257 hE258 fun a259 hE260 => ?_
        clear hE258
        refine wpOps_push hW257 hE260 (k := 0) (e := 21) (size := 1) (len := 1) (cs := [.int .i32 (IntKind.i32.wrap n223)]) (d1 := 36) (d := 37) (by kernel_rfl) (t := 130) (bytes := 4) (by kernel_rfl) (fun _ => by kernel_rfl) rfl (by kernel_rfl) (by omega) fun A261 c262 a263 w264 hF265 hW266 ⟨_, hE267⟩ => ?_
        clear hE260 hW257
        refine go_rn [7] [8] [(1, .p 0 0), (2, .p 1 0), (3, .p 2 0), (25, .v (.slice A183 l179.length c184)), (26, .v (.int .i64 ((l179.length : Nat) : Int))), (27, .v (.int .i64 ((k : Nat) : Int))), (37, .v (.slice A261 (k + 1) c262)), (38, .p 2 1)] hW266 hE267 fun a268 hE269 => ?_
        clear hE267
        refine of_op (wpOp_store hW266 hE269 (oi := 2) (cs := [.string (bs s53), .slice A261 (k + 1) c262, .map none]) (by kernel_rfl) fun w270 hF271 hW272 hE273 => ?_)
        clear hE269 hW266
        refine wpOps_nil ?_
        refine block_normal ?_
        refine then_normal ?_
        refine go_region [0, 1] (by kernel_rfl) ?_
        refine go_rn [0, 1] [] [(1, .p 0 0), (2, .p 1 0), (3, .p 2 0), (25, .v (.slice A183 l179.length c184)), (26, .v (.int .i64 ((l179.length : Nat) : Int))), (27, .v (.int .i64 (IntKind.i64.wrap (((k : Nat) : Int) + 1))))] hW272 hE273 fun a274 hE275 => ?_
        clear hE273
        refine wpOps_nil ?_
        refine then_normal ?_
        obtain ⟨hE276, hW277, hF278⟩ := hW272.cutB hE275 3 [⟨b21, 0, [.int .i64 n1, .slice A6 s2.length c7, .bool b3, .slice A8 l4.length c9, .slice A10 u5.length c11], true⟩, ⟨b29, 0, [.string ByteArray.empty, .slice none 0 0, .map none], true⟩, ⟨b37, 0, [.string (bs s53), .slice A261 (k + 1) c262, .map none], true⟩] [(1, .p 0 0), (2, .p 1 0), (3, .p 2 0), (25, .v (.slice A183 l179.length c184)), (26, .v (.int .i64 ((l179.length : Nat) : Int))), (27, .v (.int .i64 (IntKind.i64.wrap (((k : Nat) : Int) + 1))))]
        have he279 : IntKind.i64.wrap (((k : Nat) : Int) + 1) = ((k + 1 : Nat) : Int) := wrap_succ (by omega)
        rw [he279] at hE276
        exact ⟨l179.length - (k + 1), by omega, k + 1, A261, c262, xs_ ++ [Value.int .i32 (IntKind.i32.wrap n223)], (ds_ ++ [(dvN (IntKind.i32.wrap n223))]), rfl, by omega, own_some hW277 (k := 0) rfl (by omega), RowL.snoc (d := (dvN (IntKind.i32.wrap n223))) (hR.move (Fr.trans (Fr.trans (Fr.trans (Fr.trans hF252 hF256) hF265) hF271) hF278).step immM (Fr.trans (Fr.trans (Fr.trans (Fr.trans hF252 hF256) hF265) hF271) hF278).to') he221 rfl trivial rfl, hE276.pk, hW277, (Fr.trans (Fr.trans (Fr.trans (Fr.trans (Fr.trans hF210 hF252) hF256) hF265) hF271) hF278)⟩
      ·
        have hf280 := of_decide_eq_false hc213
        refine wp_exit ?_
        refine then_exit ?_
        refine then_exit ?_
        refine block_exit ?_
        refine then_normal ?_
        have hk_ : k = (lst (Tree.at_ (Tree.mk n1 s2 b3 l4 u5) 1)).length := by rw [hl3_]; omega
        subst k
        have hL_ := LstR.of hW207 (k := 0) (rs' := []) rfl hR (by rw [hl3_]) (fun d => allOne_ok (by kernel_rfl)) (by omega)
        rw [← hl3_] at hL_
        obtain ⟨hW281, hF282⟩ := hW207.cutR 0 []
        exact ⟨_, _, _, by rw [hnull_]; exact hA, hL_, hE212.pk, hW281, (Fr.trans (Fr.trans (Fr.trans (Fr.trans (Fr.trans hF151 hF160) hF166) hF199) hF210) hF282)⟩
    ·
      refine wp_skip ?_
      refine then_normal ?_
      have hn_ : Tree.null (Tree.at_ (Tree.mk n1 s2 b3 l4 u5) 1) = true := by rw [ht110]; show b95 = true; simpa using hc119
      have hl_ := lst_no hn_
      exact ⟨none, 0, fun _ => dv0, by rw [hn_]; rfl, by rw [hl_]; exact LstR.nil mvNone, by rw [hl_]; exact ⟨hE118.pk, hW115, Fr.refl _ _ _⟩⟩
  rintro a292 w293 ⟨A284, c285, f286, hn287, hL288, hE289, hW290, hF291⟩
  refine wp_seq ?_
  refine go_sp [(2, .p 1 0), (3, .p 2 0), (41, .v (.slice A10 u5.length c11)), (42, .v (.int .i64 ((u5.length : Nat) : Int))), (43, .v (.int .i64 0))] hW290 hE289 fun a294 hE295 => ?_
  clear hE289
  refine wp_block ?_
  have hp296 := new_of hW290 2 rfl (by kernel_rfl)
  have hE300 := hE295.recast 2 (.p 1 0) (.v (.pointer (some ⟨b29, 0, none⟩))) rfl rfl trivial
  have hE301 := hE300.recast 3 (.p 2 0) (.v (.pointer (some ⟨b37, 0, none⟩))) rfl rfl trivial
  have hE298 := (hE301.pick (ks := [2, 3, 41, 42, 43]) (env' := [(2, .v (.pointer (some ⟨b29, 0, none⟩))), (3, .v (.pointer (some ⟨b37, 0, none⟩))), (41, .v (.slice A10 u5.length c11)), (42, .v (.int .i64 ((u5.length : Nat) : Int))), (43, .v (.int .i64 0))]) (by kernel_rfl)).cutTb 0 (by kernel_rfl)
  refine wp_loop_ghost (fun q a_ w_ => ∃ (j : Nat) (m_ : Option Nat), q = u5.length - j ∧ j ≤ u5.length ∧ EnvOk 55 [] [(2, .v (.pointer (some ⟨b29, 0, none⟩))), (3, .v (.pointer (some ⟨b37, 0, none⟩))), (41, .v (.slice A10 u5.length c11)), (42, .v (.int .i64 ((u5.length : Nat) : Int))), (43, .v (.int .i64 ((j : Nat) : Int)))] a_ ∧ TL w w293 w_ F b37 2 [.string (bs s53), .slice A284 ((lst (Tree.at_ (Tree.mk n1 s2 b3 l4 u5) 1)).length) c285, .map none] m_ (u5.take j)) u5.length
    ⟨0, none, by omega, by omega, hE298, TL.start hW290 2 rfl rfl⟩ ?_
  rintro q aq wq ⟨j, m_, rfl, hj, hE2, hT⟩
  have hWq := WOk.start wq Nil
  refine go_sp [(2, .v (.pointer (some ⟨b29, 0, none⟩))), (3, .v (.pointer (some ⟨b37, 0, none⟩))), (41, .v (.slice A10 u5.length c11)), (42, .v (.int .i64 ((u5.length : Nat) : Int))), (43, .v (.int .i64 ((j : Nat) : Int))), (44, .v (.bool (decide (((j : Nat) : Int) < ((u5.length : Nat) : Int)))))] hWq hE2 fun aq2 hE3 => wp_seq ?_
  refine cond_of hE3 (b := decide (((j : Nat) : Int) < ((u5.length : Nat) : Int))) (by kernel_rfl) (fun hc => ?_) (fun hc => ?_)
  · have hlt : j < u5.length := by have := of_decide_eq_true hc; omega
    refine wp_skip (then_normal (wp_seq (wp_block ?_)))
    obtain ⟨⟨k, x⟩, hu⟩ : ∃ y, u5[j]? = some y := ⟨_, List.getElem?_eq_getElem hlt⟩
    obtain ⟨bb, bo, xA, xc, hA, hat, hxo, hk⟩ := tag_at h17 hu
    refine go_seq_region [0, 1, 2, 3] (by kernel_rfl) ?_
    refine of_op (wpOp_index hE3 (t := 37) (e := 62) (size := 2) (bytes := 32) (d := 45) (b := bb) (o := bo) (m := u5.length) (j := j) (by kernel_rfl) (by kernel_rfl) hA rfl hlt fun aq3 hE4 => ?_)
    refine of_op (wpOp_load hE4 (t := 62) (d := 46) (cs := [.int .u32 k, .slice xA x.length xc]) (v := .agg #[.int .u32 k, .slice xA x.length xc]) (by kernel_rfl) (by kernel_rfl) (hat.step_nil hT.step) fun aq4 hE5 => ?_)
    refine of_op (wpOp_alloc hWq hE5 (d := 7) (cs := [.int .u32 0, .slice none 0 0]) (by kernel_rfl) fun bx aq5 wq2 hbx hbx0 hFq2 hWq2 hE6 => ?_)
    refine of_op (wpOp_store hWq2 hE6 (oi := 0) (cs := [.int .u32 k, .slice xA x.length xc]) (by kernel_rfl) fun wq3 hFq3 hWq3 hE7 => wpOps_nil (then_normal ?_))
    refine go_region [0, 1, 2, 3, 4, 5] (by kernel_rfl) (go_rn [0, 1, 2, 3, 4] [5] [(2, .v (.pointer (some ⟨b29, 0, none⟩))), (3, .v (.pointer (some ⟨b37, 0, none⟩))), (41, .v (.slice A10 u5.length c11)), (42, .v (.int .i64 ((u5.length : Nat) : Int))), (43, .v (.int .i64 ((j : Nat) : Int))), (47, .v (.pointer (some ⟨b37, 2, none⟩))), (49, .v (.int .u32 k)), (51, .v (.slice xA x.length xc))] hWq3 hE7 fun aq6 hE8 => ?_)
    refine of_op (wpOp_call hE8 (f := 96) (vs := [.pointer (some ⟨b37, 2, none⟩), .int .u32 k, .slice xA x.length xc]) (d := 52) (by kernel_rfl) Try.call96 ((hT.move hWq3.step).set hp296 (by kernel_rfl) hsort hu hxo hk) ?_)
    rintro e_ wq5 ⟨rfl, hS5, r, hT5⟩
    refine ⟨_, rfl, fun aq7 hE9 => wpOps_nil (block_normal (then_normal ?_))⟩
    have hE10 := (hE9.pick (ks := [2, 3, 41, 42, 43]) (env' := [(2, .v (.pointer (some ⟨b29, 0, none⟩))), (3, .v (.pointer (some ⟨b37, 0, none⟩))), (41, .v (.slice A10 u5.length c11)), (42, .v (.int .i64 ((u5.length : Nat) : Int))), (43, .v (.int .i64 ((j : Nat) : Int)))]) (by kernel_rfl)).cutTb 0 (by kernel_rfl)
    refine go_region [0, 1] (by kernel_rfl) (go_rn [0, 1] [] [(2, .v (.pointer (some ⟨b29, 0, none⟩))), (3, .v (.pointer (some ⟨b37, 0, none⟩))), (41, .v (.slice A10 u5.length c11)), (42, .v (.int .i64 ((u5.length : Nat) : Int))), (43, .v (.int .i64 (IntKind.i64.wrap (((j : Nat) : Int) + 1))))] (WOk.start wq5 Nil) hE10 fun aq8 hE11 => wpOps_nil (then_normal ?_))
    rw [wrap_succ (by omega)] at hE11
    exact ⟨u5.length - (j + 1), by omega, j + 1, some r, rfl, by omega, hE11, hT5⟩
  · obtain rfl : j = u5.length := by have := of_decide_eq_false hc; omega
    refine wp_exit (then_exit (then_exit (block_exit ?_)))
    rw [List.take_length] at hT
    obtain ⟨hW302, hF303⟩ := hT.tab hW290 2 [⟨b21, 0, [.int .i64 n1, .slice A6 s2.length c7, .bool b3, .slice A8 l4.length c9, .slice A10 u5.length c11], true⟩, ⟨b29, 0, [.string ByteArray.empty, .slice none 0 0, .map none], true⟩, ⟨b37, 0, [.string (bs s53), .slice A284 ((lst (Tree.at_ (Tree.mk n1 s2 b3 l4 u5) 1)).length) c285, .map m_], true⟩] rfl
    have hM304 := hT.mapImm hW290 hW302 hF303 hsort (tags_range h17)
    have hE305 := (hE3.retable [⟨b21, 0, [.int .i64 n1, .slice A6 s2.length c7, .bool b3, .slice A8 l4.length c9, .slice A10 u5.length c11], true⟩, ⟨b29, 0, [.string ByteArray.empty, .slice none 0 0, .map none], true⟩, ⟨b37, 0, [.string (bs s53), .slice A284 ((lst (Tree.at_ (Tree.mk n1 s2 b3 l4 u5) 1)).length) c285, .map m_], true⟩]).recast 2 (.v (.pointer (some ⟨b29, 0, none⟩))) (.p 1 0) rfl rfl (Nat.le_of_ble_eq_true (n := 2) rfl)
    have hE306 := hE305.recast 3 (.v (.pointer (some ⟨b37, 0, none⟩))) (.p 2 0) rfl rfl (Nat.le_of_ble_eq_true (n := 3) rfl)
    have hE307 : EnvOk 55 [⟨b21, 0, [.int .i64 n1, .slice A6 s2.length c7, .bool b3, .slice A8 l4.length c9, .slice A10 u5.length c11], true⟩, ⟨b29, 0, [.string ByteArray.empty, .slice none 0 0, .map none], true⟩, ⟨b37, 0, [.string (bs s53), .slice A284 ((lst (Tree.at_ (Tree.mk n1 s2 b3 l4 u5) 1)).length) c285, .map m_], true⟩] [(2, .p 1 0), (3, .p 2 0)] _ := hE306.pk
    refine then_normal ?_
    refine go_seq_region [0, 1] (by kernel_rfl) ?_
    refine go_rn [0] [1] [(2, .p 1 0), (54, .v (.agg #[.string (bs s53), .slice A284 ((lst (Tree.at_ (Tree.mk n1 s2 b3 l4 u5) 1)).length) c285, .map m_]))] hW302 hE307 fun a308 hE309 => ?_
    clear hE307
    refine of_op (wpOp_store hW302 hE309 (oi := 1) (cs := [.string (bs s53), .slice A284 ((lst (Tree.at_ (Tree.mk n1 s2 b3 l4 u5) 1)).length) c285, .map m_]) (by kernel_rfl) fun w310 hF311 hW312 hE313 => ?_)
    clear hE309 hW302
    refine wpOps_nil ?_
    refine then_normal ?_
    refine wp_ret ?_
    refine leave hE313 hW312.cells (v := .agg #[.string (bs s53), .slice A284 ((lst (Tree.at_ (Tree.mk n1 s2 b3 l4 u5) 1)).length) c285, .map m_]) (by kernel_rfl) ?_
    refine ⟨dvP m_ u5 [dvS (bs s53), dvL A284 (lst (Tree.at_ (Tree.mk n1 s2 b3 l4 u5) 1)).length c285 f286], rfl, ?_, ?_, hW312.step⟩
    · unfold okDescribeLogDirsRequestTopic
      exact ⟨by show ByteArray.size (bs s53) ≤ 1000000; rw [bs_size]; have h_ := c0; rw [ht69] at h_; exact h_, ⟨((hL288.move (Fr.trans hF303 hF311).step immM (Fr.trans hF303 hF311).to').move (Step.refl _ Nil) nilM immOut).slots, c1, fun _ _ => trivial⟩, ((hM304.move hF311.step immM hF311.to').move (Step.refl _ Nil) nilM immOut), cU.2.1, cU.2.2, trivial⟩
    · unfold relDescribeLogDirsRequestTopic
      exact ⟨by rw [ht69]; rfl, ⟨hn287, rfl, hL288.rel_⟩, rfl, trivial⟩

def makeDescribeLogDirsRequest (v : Int) (T : Tree) : Bs := tDescribeLogDirsRequest (IntKind.i16.wrap v) T
set_option maxHeartbeats 4000000 in
theorem mDescribeLogDirsRequest (v : Int) (ct : List Value) (t : Tree) (w : World) (F : Nat → Nat → Prop) (ht : TreeR w F ct t) (hc : canDescribeLogDirsRequest t) (hroom : (makeDescribeLogDirsRequest v t).length + 16 ≤ 1099511627776) :
    Calls Try.prog 28 #[.int .i64 v, .agg ct.toArray] w (FreshB w 5 (makeDescribeLogDirsRequest v t)) := by
  obtain ⟨n1, s2, b3, l4, u5, A6, c7, A8, c9, A10, c11, xs12, rfl, rfl, h14, h15, h16, h17⟩ := ht.open_
  have hsm19 := h14.small
  have hsm20 := h15.small
  unfold canDescribeLogDirsRequest at hc
  obtain ⟨⟨c0, c0e⟩, cU, _⟩ := hc
  have hsort := cU.1
  replace hsort : Sorted u5 := hsort
  have hul : u5.length ≤ 1000000 := cU.2.1
  refine enter (n := 17) Try.func28 rfl Try.ntmps28 (by kernel_rfl) fun a hE => ?_
  have hW := WOk.start w Nil
  refine go_seq_region [0, 1] (by kernel_rfl) ?_
  refine of_op (wpOp_box hW hE (d := 3) (cs := [.int .i64 n1, .slice A6 s2.length c7, .bool b3, .slice A8 l4.length c9, .slice A10 u5.length c11]) (by kernel_rfl) fun b21 a22 w23 hb24 hz25 hF26 hW27 hE28 => ?_)
  clear hE hW
  refine go_rn [1] [] [(0, .v (.int .i64 v)), (3, .p 0 0)] hW27 hE28 fun a29 hE30 => ?_
  clear hE28
  refine wpOps_nil ?_
  refine then_normal ?_
  refine go_seq_region [0, 1, 2] (by kernel_rfl) ?_
  refine go_rn [0] [1, 2] [(0, .v (.int .i64 v)), (3, .p 0 0), (6, .v (.agg #[.int .i16 0, .slice none 0 0, .map none]))] hW27 hE30 fun a31 hE32 => ?_
  clear hE30
  refine of_op (wpOp_box hW27 hE32 (d := 7) (cs := [.int .i16 0, .slice none 0 0, .map none]) (by kernel_rfl) fun b33 a34 w35 hb36 hz37 hF38 hW39 hE40 => ?_)
  clear hE32 hW27
  refine go_rn [2] [] [(0, .v (.int .i64 v)), (3, .p 0 0), (5, .p 1 0)] hW39 hE40 fun a41 hE42 => ?_
  clear hE40
  refine wpOps_nil ?_
  refine then_normal ?_
  refine go_seq_region [0, 1, 2, 3] (by kernel_rfl) ?_
  refine go_rn [0, 1, 2] [3] [(3, .p 0 0), (5, .p 1 0), (8, .p 1 0), (10, .v (.int .i16 (IntKind.i16.wrap v)))] hW39 hE42 fun a43 hE44 => ?_
  clear hE42
  refine of_op (wpOp_inline hE44 (f := 65) (vs := [.pointer (some ⟨b33, 0, none⟩), .int .i16 (IntKind.i16.wrap v)]) (d := 11) (n' := 8) (by kernel_rfl) Try.call65 Try.func65 rfl Try.ntmps65 (by kernel_rfl) fun a45 hE46 => ?_)
  have hE47 := hE46.recast 0 (.v (.pointer (some ⟨b33, 0, none⟩))) (.p 1 0) rfl rfl (Nat.le_of_ble_eq_true (n := 2) rfl)
  refine go_region [0, 1, 2, 3, 4] (by kernel_rfl) ?_
  refine go_rn [0, 1, 2, 3] [4] [(5, .v (.int .i16 (IntKind.i16.wrap v))), (7, .p 1 0)] hW39 hE47 fun a48 hE49 => ?_
  clear hE47
  refine of_op (wpOp_store hW39 hE49 (oi := 1) (cs := [.int .i16 (IntKind.i16.wrap v), .slice none 0 0, .map none]) (by kernel_rfl) fun w50 hF51 hW52 hE53 => ?_)
  clear hE49 hW39
  refine wpOps_nil ?_
  refine leave_end hE53 hW52.cells (v := .tuple #[]) (by kernel_rfl) ?_
  refine ⟨_, rfl, fun a54 hE55 => ?_⟩
  have hE56 : EnvOk 17 [⟨b21, 0, [.int .i64 n1, .slice A6 s2.length c7, .bool b3, .slice A8 l4.length c9, .slice A10 u5.length c11], true⟩, ⟨b33, 0, [.int .i16 (IntKind.i16.wrap v), .slice none 0 0, .map none], true⟩] [(11, .v (.tuple #[])), (3, .p 0 0), (5, .p 1 0), (8, .p 1 0), (10, .v (.int .i16 (IntKind.i16.wrap v)))] _ := hE55.places (⟨rfl, rfl, ⟨rfl, rfl, trivial⟩⟩)
  refine wpOps_nil ?_
  refine then_normal ?_
  refine go_seq_region [0, 1, 2] (by kernel_rfl) ?_
  refine go_rn [0, 1] [2] [(5, .p 1 0), (12, .p 1 0), (13, .v (.agg #[.int .i64 n1, .slice A6 s2.length c7, .bool b3, .slice A8 l4.length c9, .slice A10 u5.length c11]))] hW52 hE56 fun a57 hE58 => ?_
  clear hE56
  refine of_op (wpOp_inline hE58 (f := 66) (vs := [.pointer (some ⟨b33, 0, none⟩), .agg #[.int .i64 n1, .slice A6 s2.length c7, .bool b3, .slice A8 l4.length c9, .slice A10 u5.length c11]]) (d := 14) (n' := 56) (by kernel_rfl) Try.call66 Try.func66 rfl Try.ntmps66 (by kernel_rfl) fun a59 hE60 => ?_)
  have hE61 := hE60.recast 0 (.v (.pointer (some ⟨b33, 0, none⟩))) (.p 1 0) rfl rfl (Nat.le_of_ble_eq_true (n := 2) rfl)
  refine go_seq_region [0] (by kernel_rfl) ?_
  refine of_op (wpOp_box hW52 hE61 (d := 3) (cs := [.int .i64 n1, .slice A6 s2.length c7, .bool b3, .slice A8 l4.length c9, .slice A10 u5.length c11]) (by kernel_rfl) fun b62 a63 w64 hb65 hz66 hF67 hW68 hE69 => ?_)
  clear hE61 hW52
  refine wpOps_nil ?_
  refine then_normal ?_
  refine wp_seq ?_
  refine go_seq_region [0, 1, 2, 3] (by kernel_rfl) ?_
  refine go_rn [0] [1, 2, 3] [(0, .p 1 0), (3, .p 2 0), (8, .v (.agg #[.int .i64 n1, .slice A6 s2.length c7, .bool b3, .slice A8 l4.length c9, .slice A10 u5.length c11]))] hW68 hE69 fun a70 hE71 => ?_
  clear hE69
  refine of_op (wpOp_call hE71 (f := 95) (vs := [.agg #[.int .i64 n1, .slice A6 s2.length c7, .bool b3, .slice A8 l4.length c9, .slice A10 u5.length c11], .int .i64 0]) (d := 9) (by kernel_rfl) Try.call95 (iAt _ _ 0 _ _ (ht.move hW68.step nilM hW68.imm)) ?_)
  rintro e_ w75 ⟨cs74, rfl, hr73, hs72⟩
  have hr76 := hr73.move hs72 nilM (fun b o h_ hb_ => hW68.laid (G := F) hs72 b o (.inl h_) (Nat.lt_of_lt_of_le hb_ hs72.size))
  obtain ⟨n77, s78, b79, l80, u81, A82, c83, A84, c85, A86, c87, xs88, ht94, hcs89, h90, h91, h92, h93⟩ := hr76.open_
  rw [hcs89] at hr76
  have hsm95 := h90.small
  have hsm96 := h91.small
  rw [hcs89]
  refine ⟨_, rfl, fun a97 hE98 => ?_⟩
  have hW99 := hW68.next_nil hs72
  have hF100 := hW68.frN hs72
  clear hE71
  refine go_rn [2, 3] [] [(0, .p 1 0), (3, .p 2 0), (11, .v (.bool (!b79)))] hW99 hE98 fun a101 hE102 => ?_
  clear hE98
  refine wpOps_nil ?_
  refine then_normal ?_
  refine wp_join (Mid := fun a_ w_ => ∃ (A_ : Option Addr) (c_ : Nat) (f_ : Nat → DV), A_.isNone = Tree.null (Tree.at_ (Tree.mk n1 s2 b3 l4 u5) 0) ∧ LstR w_ (Imm F w w_ [⟨b21, 0, [.int .i64 n1, .slice A6 s2.length c7, .bool b3, .slice A8 l4.length c9, .slice A10 u5.length c11], true⟩, ⟨b33, 0, [.int .i16 (IntKind.i16.wrap v), .slice A_ ((lst (Tree.at_ (Tree.mk n1 s2 b3 l4 u5) 0)).length) c_, .map none], true⟩, ⟨b62, 0, [.int .i64 n1, .slice A6 s2.length c7, .bool b3, .slice A8 l4.length c9, .slice A10 u5.length c11], true⟩] []) 3 clDescribeLogDirsRequestTopic okDescribeLogDirsRequestTopic relDescribeLogDirsRequestTopic A_ c_ f_ (lst (Tree.at_ (Tree.mk n1 s2 b3 l4 u5) 0)) ∧ LInv hW99 56 [⟨b21, 0, [.int .i64 n1, .slice A6 s2.length c7, .bool b3, .slice A8 l4.length c9, .slice A10 u5.length c11], true⟩, ⟨b33, 0, [.int .i16 (IntKind.i16.wrap v), .slice A_ ((lst (Tree.at_ (Tree.mk n1 s2 b3 l4 u5) 0)).length) c_, .map none], true⟩, ⟨b62, 0, [.int .i64 n1, .slice A6 s2.length c7, .bool b3, .slice A8 l4.length c9, .slice A10 u5.length c11], true⟩] [] [(0, .p 1 0), (3, .p 2 0)] a_ w_) ?_ ?_
  ·
    refine cond_of hE102 (b := !b79) (by kernel_rfl) (fun hc103 => ?_) (fun hc103 => ?_)
    ·
      have hnull_ : Tree.null (Tree.at_ (Tree.mk n1 s2 b3 l4 u5) 0) = false := by rw [ht94]; show b79 = false; simpa using hc103
      refine go_seq_region [0, 1, 2, 3, 4, 5, 6, 7, 8] (by kernel_rfl) ?_
      refine go_rn [0, 1] [2, 3, 4, 5, 6, 7, 8] [(0, .p 1 0), (3, .p 2 0), (12, .p 1 0), (13, .v (.agg #[.int .i64 n1, .slice A6 s2.length c7, .bool b3, .slice A8 l4.length c9, .slice A10 u5.length c11]))] hW99 hE102 fun a105 hE106 => ?_
      clear hE102
      refine of_op (wpOp_call hE106 (f := 95) (vs := [.agg #[.int .i64 n1, .slice A6 s2.length c7, .bool b3, .slice A8 l4.length c9, .slice A10 u5.length c11], .int .i64 0]) (d := 14) (by kernel_rfl) Try.call95 (iAt _ _ 0 _ _ (ht.move hW99.step nilM hW99.imm)) ?_)
      rintro e_ w110 ⟨cs109, rfl, hr108, hs107⟩
      have hr111 := hr108.move hs107 nilM (fun b o h_ hb_ => hW99.laid (G := F) hs107 b o (.inl h_) (Nat.lt_of_lt_of_le hb_ hs107.size))
      obtain ⟨n112, s113, b114, l115, u116, A117, c118, A119, c120, A121, c122, xs123, ht129, hcs124, h125, h126, h127, h128⟩ := hr111.open_
      rw [hcs124] at hr111
      have hsm130 := h125.small
      have hsm131 := h126.small
      rw [hcs124]
      refine ⟨_, rfl, fun a132 hE133 => ?_⟩
      have hW134 := hW99.next_nil hs107
      have hF135 := hW99.frN hs107
      clear hE106
      have hl3_ : lst (Tree.at_ (Tree.mk n1 s2 b3 l4 u5) 0) = l115 := by rw [lst_of hnull_, ht129]; rfl
      have hb136 : l115.length ≤ 1000000 := by have h_ := c0; rw [hl3_] at h_; exact h_
      refine go_rn [3, 4] [5, 6, 7, 8] [(0, .p 1 0), (3, .p 2 0), (12, .p 1 0), (16, .v (.int .i64 ((l115.length : Nat) : Int)))] hW134 hE133 fun a137 hE138 => ?_
      clear hE133
      refine of_op (wpOp_make0 hW134 hE138 (d := 17) (j := l115.length) (t := 82) (e := 132) (size := 3) (bytes := 48) (by kernel_rfl) (by kernel_rfl) rfl (rfl) (by omega) fun b139 a140 w141 hb142 hz143 hF144 hW145 hE146 => ?_)
      clear hE138 hW134
      refine go_rn [6, 7] [8] [(0, .p 1 0), (3, .p 2 0), (17, .v (.slice (some ⟨b139, 0, none⟩) 0 l115.length)), (19, .p 1 1)] hW145 hE146 fun a147 hE148 => ?_
      clear hE146
      refine of_op (wpOp_store hW145 hE148 (oi := 1) (cs := [.int .i16 (IntKind.i16.wrap v), .slice (some ⟨b139, 0, none⟩) 0 l115.length, .map none]) (by kernel_rfl) fun w149 hF150 hW151 hE152 => ?_)
      clear hE148 hW145
      refine wpOps_nil ?_
      refine then_normal ?_
      refine go_seq_region [0, 1, 2, 3, 4] (by kernel_rfl) ?_
      refine go_rn [0] [1, 2, 3, 4] [(0, .p 1 0), (3, .p 2 0), (20, .v (.agg #[.int .i64 n1, .slice A6 s2.length c7, .bool b3, .slice A8 l4.length c9, .slice A10 u5.length c11]))] hW151 hE152 fun a153 hE154 => ?_
      clear hE152
      refine of_op (wpOp_call hE154 (f := 95) (vs := [.agg #[.int .i64 n1, .slice A6 s2.length c7, .bool b3, .slice A8 l4.length c9, .slice A10 u5.length c11], .int .i64 0]) (d := 21) (by kernel_rfl) Try.call95 (iAt _ _ 0 _ _ (ht.move hW151.step nilM hW151.imm)) ?_)
      rintro e_ w158 ⟨cs157, rfl, hr156, hs155⟩
      have hr159 := hr156.move hs155 nilM (fun b o h_ hb_ => hW151.laid (G := F) hs155 b o (.inl h_) (Nat.lt_of_lt_of_le hb_ hs155.size))
      obtain ⟨n160, s161, b162, l163, u164, A165, c166, A167, c168, A169, c170, xs171, ht177, hcs172, h173, h174, h175, h176⟩ := hr159.open_
      rw [hcs172] at hr159
      have hsm178 := h173.small
      have hsm179 := h174.small
      rw [hcs172]
      refine ⟨_, rfl, fun a180 hE181 => ?_⟩
      have hW182 := hW151.next_nil hs155
      have hF183 := hW151.frN hs155
      clear hE154
      have hl3_ : lst (Tree.at_ (Tree.mk n1 s2 b3 l4 u5) 0) = l163 := by rw [lst_of hnull_, ht177]; rfl
      have hb184 : l163.length ≤ 1000000 := by have h_ := c0; rw [hl3_] at h_; exact h_
      refine go_rn [2, 3, 4] [] [(0, .p 1 0), (3, .p 2 0), (22, .v (.slice A167 l163.length c168)), (23, .v (.int .i64 ((l163.length : Nat) : Int))), (24, .v (.int .i64 0))] hW182 hE181 fun a185 hE186 => ?_
      clear hE181
      refine wpOps_nil ?_
      refine then_normal ?_
      refine wp_block ?_
      refine wp_loop_ghost (fun n_ a_ w_ => ∃ (k : Nat) (A_ : Option Addr) (c_ : Nat) (xs_ : List Value) (ds_ : List DV), n_ = l163.length - k ∧ k ≤ l163.length ∧ (A_.isNone = false) ∧ (RowL w_ (Imm F w w_ [⟨b21, 0, [.int .i64 n1, .slice A6 s2.length c7, .bool b3, .slice A8 l4.length c9, .slice A10 u5.length c11], true⟩, ⟨b33, 0, [.int .i16 (IntKind.i16.wrap v), .slice A_ k c_, .map none], true⟩, ⟨b62, 0, [.int .i64 n1, .slice A6 s2.length c7, .bool b3, .slice A8 l4.length c9, .slice A10 u5.length c11], true⟩] [⟨A_, c_, 132, 3, k, xs_⟩]) 3 clDescribeLogDirsRequestTopic okDescribeLogDirsRequestTopic relDescribeLogDirsRequestTopic xs_ ds_ (l163.take k)) ∧ LInv hW182 56 [⟨b21, 0, [.int .i64 n1, .slice A6 s2.length c7, .bool b3, .slice A8 l4.length c9, .slice A10 u5.length c11], true⟩, ⟨b33, 0, [.int .i16 (IntKind.i16.wrap v), .slice A_ k c_, .map none], true⟩, ⟨b62, 0, [.int .i64 n1, .slice A6 s2.length c7, .bool b3, .slice A8 l4.length c9, .slice A10 u5.length c11], true⟩] [⟨A_, c_, 132, 3, k, xs_⟩] [(0, .p 1 0), (3, .p 2 0), (22, .v (.slice A167 l163.length c168)), (23, .v (.int .i64 ((l163.length : Nat) : Int))), (24, .v (.int .i64 ((k : Nat) : Int)))] a_ w_) (l163.length) ⟨0, (some ⟨b139, 0, none⟩), l115.length, [], [], by omega, by omega, rfl, RowL.nil mvDescribeLogDirsRequestTopic, hE186.pk, hW182, Fr.refl _ _ _⟩ ?_
      clear hE186
      rintro n187 a188 w189 ⟨k, A_, c_, xs_, ds_, hn192, hk193, hA, hR, hE190, hW191, hF194⟩
      refine go_sp [(0, .p 1 0), (3, .p 2 0), (22, .v (.slice A167 l163.length c168)), (23, .v (.int .i64 ((l163.length : Nat) : Int))), (24, .v (.int .i64 ((k : Nat) : Int))), (25, .v (.bool (decide (((k : Nat) : Int) < ((l163.length : Nat) : Int)))))] hW191 hE190 fun a195 hE196 => ?_
      clear hE190
      refine wp_seq ?_
      refine cond_of hE196 (b := decide (((k : Nat) : Int) < ((l163.length : Nat) : Int))) (by kernel_rfl) (fun hc197 => ?_) (fun hc197 => ?_)
      ·
        have hf198 := of_decide_eq_true hc197
        refine wp_skip ?_
        refine then_normal ?_
        refine wp_seq ?_
        refine wp_block ?_
        refine go_seq_region [0, 1, 2, 3] (by kernel_rfl) ?_
        obtain ⟨b199, o200, hA201, hl202, hat203⟩ := Slots.get h174 (i := k) (by omega)
        obtain ⟨x204, he205⟩ : ∃ x, l163[k]? = some x := ⟨_, List.getElem?_eq_getElem (by omega)⟩
        have hr206 := h175 k x204 he205
        obtain ⟨n207, s208, b209, l210, u211, A212, c213, A214, c215, A216, c217, xs218, rfl, hcs219, h220, h221, h222, h223⟩ := hr206.open_
        rw [hcs219] at hr206
        have hsm225 := h220.small
        have hsm226 := h221.small
        rw [hcs219] at hat203
        refine of_op (wpOp_index hE196 (t := 36) (A := A167) (m := l163.length) (q := ((k : Nat) : Int)) (d := 26) (by kernel_rfl) (e := 39) (size := 5) (bytes := 88) (by kernel_rfl) hA201 rfl (by omega) fun a227 hE228 => ?_)
        clear hE196
        refine of_op (wpOp_load hE228 (t := 39) (b := b199) (o := o200 + k * 5) (d := 27) (by kernel_rfl) (cs := [.int .i64 n207, .slice A212 s208.length c213, .bool b209, .slice A214 l210.length c215, .slice A216 u211.length c217]) (v := .agg #[.int .i64 n207, .slice A212 s208.length c213, .bool b209, .slice A214 l210.length c215, .slice A216 u211.length c217]) (by kernel_rfl) (AtF.move hat203 hF194.step immM hF194.to').at_ fun a229 hE230 => ?_)
        clear hE228
        refine of_op (wpOp_alloc hW191 hE230 (d := 5) (cs := [.int .i64 0, .slice none 0 0, .bool false, .slice none 0 0, .slice none 0 0]) (by kernel_rfl) fun b231 a232 w233 hb234 hz235 hF236 hW237 hE238 => ?_)
        clear hE230 hW191
        refine of_op (wpOp_store hW237 hE238 (oi := 3) (cs := [.int .i64 n207, .slice A212 s208.length c213, .bool b209, .slice A214 l210.length c215, .slice A216 u211.length c217]) (by kernel_rfl) fun w239 hF240 hW241 hE242 => ?_)
        clear hE238 hW237
        refine wpOps_nil ?_
        refine then_normal ?_
        refine go_drawK 11 (by kernel_rfl) hW241 fun w243 hF244 hW245 hT246 => ?_
        clear hW241
        refine go_rnD [0, 1, 2, 3, 4, 5] [(0, .p 1 0), (3, .p 2 0), (22, .v (.slice A167 l163.length c168)), (23, .v (.int .i64 ((l163.length : Nat) : Int))), (24, .v (.int .i64 ((k : Nat) : Int))), (28, .p 1 0), (32, .v (.slice A_ k c_)), (33, .v (.agg #[.int .i64 n207, .slice A212 s208.length c213, .bool b209, .slice A214 l210.length c215, .slice A216 u211.length c217]))] 6 (panicFree_block (panicFree_then (panicFree_then (panicFree_block (panicFree_then panicFree_body))))) (fun _ h => h.cells) hT246 hE242 fun a247 hE248 => ?_
        clear hE242
        refine anyC_op (i := 6) (by kernel_rfl) (wpOp_call hE248 (f := 119) (vs := [.agg #[.int .i64 n207, .slice A212 s208.length c213, .bool b209, .slice A214 l210.length c215, .slice A216 u211.length c217]]) (d := 34) (by kernel_rfl) Try.call119 (eDescribeLogDirsRequestTopic _ _ _ _ (hr206.move (Fr.trans (Fr.trans (Fr.trans hF194 hF236) hF240) hF244).step immM (Fr.trans (Fr.trans (Fr.trans hF194 hF236) hF240) hF244).to') (c0e _ (by rw [hl3_]; exact List.mem_of_getElem? he205))) ?_)
        rintro e_ w254 ⟨D252, rfl, hk250, hrel251, hs249⟩
        have hk253 := mvDescribeLogDirsRequestTopic _ (Step.refl _ Nil) nilM (hW245.laid (G := F) hs249) hk250
        refine ⟨_, rfl, fun a255 hE256 => ?_⟩
        have hW257 := hW245.next_nil hs249
        have hF258 := hW245.frN hs249
        clear hE248
        have hT259 := TT.ofW hF258 hW257
        refine ⟨fun _ => hT259, ?_⟩
        refine anyC_op (i := 7) (by kernel_rfl) (wpOp_lit hW257 hE256 (e := 132) (size := 3) (len := 1) (cs := [.string ((D252.f 0).s), .slice ((D252.f 1).A) ((D252.f 1).l) ((D252.f 1).c), .map D252.m]) (d := 35) (by kernel_rfl) (by kernel_rfl) fun b260 a261 w262 hb263 hz264 hF265 hW266 hE267 => ?_)
        clear hE256 hW257
        have hT268 := TT.ofW (Fr.trans hF258 hF265) hW266
        refine ⟨fun _ => hT268, ?_⟩
        refine anyC_op (i := 8) (by kernel_rfl) (wpOp_append hW266 hE267 (k := 0) (d := 36) (t := 82) (e := 132) (size := 3) (bytes := 48) (A := A_) (As := (some ⟨b260, 0, none⟩)) (m0 := k) (c := c_) (m := 1) (cs := 1) (xs := xs_) (news := [.string ((D252.f 0).s), .slice ((D252.f 1).A) ((D252.f 1).l) ((D252.f 1).c), .map D252.m]) (by kernel_rfl) (by kernel_rfl) rfl (own_src (hW266.own 1 _ rfl) (allOne_ok (by kernel_rfl))) (own_cap (hW266.own 1 _ rfl)) (by omega) fun A269 c270 a271 w272 hF273 hW274 hE275 => ?_)
        clear hE267 hW266
        have hT276 := TT.ofW (Fr.trans (Fr.trans hF258 hF265) hF273) hW274
        refine ⟨fun _ => hT276, ?_⟩
        refine anyC_op (i := 9) (by kernel_rfl) (wpOp_pure [0, 3, 22, 23, 24, 36, 37] hW274.cells hE275 (env' := [(0, .p 1 0), (3, .p 2 0), (22, .v (.slice A167 l163.length c168)), (23, .v (.int .i64 ((l163.length : Nat) : Int))), (24, .v (.int .i64 ((k : Nat) : Int))), (36, .v (.slice A269 (k + 1) c270)), (37, .p 1 0)]) (by kernel_rfl) fun a277 hE278 => ?_)
        clear hE275
        have hT279 := TT.ofW (Fr.trans (Fr.trans hF258 hF265) hF273) hW274
        refine ⟨fun _ => hT279, ?_⟩
        refine go_rnD [10] [(0, .p 1 0), (3, .p 2 0), (22, .v (.slice A167 l163.length c168)), (23, .v (.int .i64 ((l163.length : Nat) : Int))), (24, .v (.int .i64 ((k : Nat) : Int))), (36, .v (.slice A269 (k + 1) c270)), (38, .p 1 1)] 1 (panicFree_block (panicFree_then (panicFree_then (panicFree_block (panicFree_then panicFree_body))))) (fun _ h => h.cells) hT279 hE278 fun a280 hE281 => ?_
        clear hE278
        refine anyC_op (i := 11) (by kernel_rfl) (wpOp_store hW274 hE281 (oi := 1) (cs := [.int .i16 (IntKind.i16.wrap v), .slice A269 (k + 1) c270, .map none]) (by kernel_rfl) fun w282 hF283 hW284 hE285 => ?_)
        clear hE281 hW274
        refine ⟨fun h => absurd rfl h, ?_⟩
        refine anyC_done (by kernel_rfl) ?_ _
        refine block_normal ?_
        refine then_normal ?_
        refine go_region [0, 1] (by kernel_rfl) ?_
        refine go_rn [0, 1] [] [(0, .p 1 0), (3, .p 2 0), (22, .v (.slice A167 l163.length c168)), (23, .v (.int .i64 ((l163.length : Nat) : Int))), (24, .v (.int .i64 (IntKind.i64.wrap (((k : Nat) : Int) + 1))))] hW284 hE285 fun a286 hE287 => ?_
        clear hE285
        refine wpOps_nil ?_
        refine then_normal ?_
        obtain ⟨hE288, hW289, hF290⟩ := hW284.cutB hE287 3 [⟨b21, 0, [.int .i64 n1, .slice A6 s2.length c7, .bool b3, .slice A8 l4.length c9, .slice A10 u5.length c11], true⟩, ⟨b33, 0, [.int .i16 (IntKind.i16.wrap v), .slice A269 (k + 1) c270, .map none], true⟩, ⟨b62, 0, [.int .i64 n1, .slice A6 s2.length c7, .bool b3, .slice A8 l4.length c9, .slice A10 u5.length c11], true⟩] [(0, .p 1 0), (3, .p 2 0), (22, .v (.slice A167 l163.length c168)), (23, .v (.int .i64 ((l163.length : Nat) : Int))), (24, .v (.int .i64 (IntKind.i64.wrap (((k : Nat) : Int) + 1))))]
        obtain ⟨hW291, hF292⟩ := hW289.cutR 1 [⟨A269, c270, 132, 3, k + 1, xs_ ++ [.string ((D252.f 0).s), .slice ((D252.f 1).A) ((D252.f 1).l) ((D252.f 1).c), .map D252.m]⟩]
        have he293 : IntKind.i64.wrap (((k : Nat) : Int) + 1) = ((k + 1 : Nat) : Int) := wrap_succ (by omega)
        rw [he293] at hE288
        exact ⟨l163.length - (k + 1), by omega, k + 1, A269, c270, xs_ ++ [Value.string ((D252.f 0).s), .slice ((D252.f 1).A) ((D252.f 1).l) ((D252.f 1).c), .map D252.m], (ds_ ++ [D252]), rfl, by omega, own_some hW291 (k := 0) rfl (by omega), RowL.snoc (d := D252) (hR.move (Fr.trans (Fr.trans (Fr.trans (Fr.trans (Fr.trans (Fr.trans (Fr.trans (Fr.trans hF236 hF240) hF244) hF258) hF265) hF273) hF283) hF290) hF292).step immM (Fr.trans (Fr.trans (Fr.trans (Fr.trans (Fr.trans (Fr.trans (Fr.trans (Fr.trans hF236 hF240) hF244) hF258) hF265) hF273) hF283) hF290) hF292).to') he205 rfl (mvDescribeLogDirsRequestTopic _ (Fr.trans (Fr.trans (Fr.trans (Fr.trans hF265 hF273) hF283) hF290) hF292).step immM (Fr.trans (Fr.trans (Fr.trans (Fr.trans hF265 hF273) hF283) hF290) hF292).to' hk253) hrel251, hE288.pk, hW291, (Fr.trans (Fr.trans (Fr.trans (Fr.trans (Fr.trans (Fr.trans (Fr.trans (Fr.trans (Fr.trans hF194 hF236) hF240) hF244) hF258) hF265) hF273) hF283) hF290) hF292)⟩
      ·
        have hf294 := of_decide_eq_false hc197
        refine wp_exit ?_
        refine then_exit ?_
        refine then_exit ?_
        refine block_exit ?_
        refine then_normal ?_
        have hk_ : k = (lst (Tree.at_ (Tree.mk n1 s2 b3 l4 u5) 0)).length := by rw [hl3_]; omega
        subst k
        have hL_ := LstR.of hW191 (k := 0) (rs' := []) rfl hR (by rw [hl3_]) oneDescribeLogDirsRequestTopic (by omega)
        rw [← hl3_] at hL_
        obtain ⟨hW295, hF296⟩ := hW191.cutR 0 []
        exact ⟨_, _, _, by rw [hnull_]; exact hA, hL_, hE196.pk, hW295, (Fr.trans (Fr.trans (Fr.trans (Fr.trans (Fr.trans hF135 hF144) hF150) hF183) hF194) hF296)⟩
    ·
      refine wp_skip ?_
      refine then_normal ?_
      have hn_ : Tree.null (Tree.at_ (Tree.mk n1 s2 b3 l4 u5) 0) = true := by rw [ht94]; show b79 = true; simpa using hc103
      have hl_ := lst_no hn_
      exact ⟨none, 0, fun _ => dv0, by rw [hn_]; rfl, by rw [hl_]; exact LstR.nil mvDescribeLogDirsRequestTopic, by rw [hl_]; exact ⟨hE102.pk, hW99, Fr.refl _ _ _⟩⟩
  rintro a306 w307 ⟨A298, c299, f300, hn301, hL302, hE303, hW304, hF305⟩
  refine go_sp [(0, .p 1 0), (41, .v (.slice A10 u5.length c11)), (42, .v (.int .i64 ((u5.length : Nat) : Int))), (43, .v (.int .i64 0))] hW304 hE303 fun a308 hE309 => ?_
  clear hE303
  refine wp_block ?_
  have hp310 := new_of hW304 1 rfl (by kernel_rfl)
  have hE314 := hE309.recast 0 (.p 1 0) (.v (.pointer (some ⟨b33, 0, none⟩))) rfl rfl trivial
  have hE312 := (hE314.pick (ks := [0, 41, 42, 43]) (env' := [(0, .v (.pointer (some ⟨b33, 0, none⟩))), (41, .v (.slice A10 u5.length c11)), (42, .v (.int .i64 ((u5.length : Nat) : Int))), (43, .v (.int .i64 0))]) (by kernel_rfl)).cutTb 0 (by kernel_rfl)
  refine wp_loop_ghost (fun q a_ w_ => ∃ (j : Nat) (m_ : Option Nat), q = u5.length - j ∧ j ≤ u5.length ∧ EnvOk 56 [] [(0, .v (.pointer (some ⟨b33, 0, none⟩))), (41, .v (.slice A10 u5.length c11)), (42, .v (.int .i64 ((u5.length : Nat) : Int))), (43, .v (.int .i64 ((j : Nat) : Int)))] a_ ∧ TL w w307 w_ F b33 2 [.int .i16 (IntKind.i16.wrap v), .slice A298 ((lst (Tree.at_ (Tree.mk n1 s2 b3 l4 u5) 0)).length) c299, .map none] m_ (u5.take j)) u5.length
    ⟨0, none, by omega, by omega, hE312, TL.start hW304 1 rfl rfl⟩ ?_
  rintro q aq wq ⟨j, m_, rfl, hj, hE2, hT⟩
  have hWq := WOk.start wq Nil
  refine go_sp [(0, .v (.pointer (some ⟨b33, 0, none⟩))), (41, .v (.slice A10 u5.length c11)), (42, .v (.int .i64 ((u5.length : Nat) : Int))), (43, .v (.int .i64 ((j : Nat) : Int))), (44, .v (.bool (decide (((j : Nat) : Int) < ((u5.length : Nat) : Int)))))] hWq hE2 fun aq2 hE3 => wp_seq ?_
  refine cond_of hE3 (b := decide (((j : Nat) : Int) < ((u5.length : Nat) : Int))) (by kernel_rfl) (fun hc => ?_) (fun hc => ?_)
  · have hlt : j < u5.length := by have := of_decide_eq_true hc; omega
    refine wp_skip (then_normal (wp_seq (wp_block ?_)))
    obtain ⟨⟨k, x⟩, hu⟩ : ∃ y, u5[j]? = some y := ⟨_, List.getElem?_eq_getElem hlt⟩
    obtain ⟨bb, bo, xA, xc, hA, hat, hxo, hk⟩ := tag_at h17 hu
    refine go_seq_region [0, 1, 2, 3] (by kernel_rfl) ?_
    refine of_op (wpOp_index hE3 (t := 37) (e := 62) (size := 2) (bytes := 32) (d := 45) (b := bb) (o := bo) (m := u5.length) (j := j) (by kernel_rfl) (by kernel_rfl) hA rfl hlt fun aq3 hE4 => ?_)
    refine of_op (wpOp_load hE4 (t := 62) (d := 46) (cs := [.int .u32 k, .slice xA x.length xc]) (v := .agg #[.int .u32 k, .slice xA x.length xc]) (by kernel_rfl) (by kernel_rfl) (hat.step_nil hT.step) fun aq4 hE5 => ?_)
    refine of_op (wpOp_alloc hWq hE5 (d := 7) (cs := [.int .u32 0, .slice none 0 0]) (by kernel_rfl) fun bx aq5 wq2 hbx hbx0 hFq2 hWq2 hE6 => ?_)
    refine of_op (wpOp_store hWq2 hE6 (oi := 0) (cs := [.int .u32 k, .slice xA x.length xc]) (by kernel_rfl) fun wq3 hFq3 hWq3 hE7 => wpOps_nil (then_normal ?_))
    have hWq4 := hWq3.drew
    refine region_draw (fun wz => CellsOk wz [⟨bx, 0, [.int .u32 k, .slice xA x.length xc], true⟩]) 8 (by kernel_rfl) ?_
    refine go_rnD [0, 1, 2, 3, 4, 5, 6] [(0, .v (.pointer (some ⟨b33, 0, none⟩))), (41, .v (.slice A10 u5.length c11)), (42, .v (.int .i64 ((u5.length : Nat) : Int))), (43, .v (.int .i64 ((j : Nat) : Int))), (49, .v (.pointer (some ⟨b33, 2, none⟩))), (51, .v (.int .u32 k)), (53, .v (.slice xA x.length xc))] 1 (panicFree_block (panicFree_then (panicFree_then (panicFree_block panicFree_body)))) (fun _ h => h) hWq4.cells hE7 fun aq6 hE8 => ?_
    refine anyC_op (i := 7) (by kernel_rfl) (wpOp_call hE8 (f := 96) (vs := [.pointer (some ⟨b33, 2, none⟩), .int .u32 k, .slice xA x.length xc]) (d := 54) (by kernel_rfl) Try.call96 ((hT.move hWq4.step).set hp310 (by kernel_rfl) hsort hu hxo hk) ?_)
    rintro e_ wq5 ⟨rfl, hS5, r, hT5⟩
    refine ⟨_, rfl, fun aq7 hE9 => ⟨fun _ => hT.keeps (off := 2) (by kernel_rfl) hS5 hWq4.cells (fun ob hm => by rw [List.mem_singleton.1 hm]; exact Nat.le_of_eq hbx.symm), anyC_done (by kernel_rfl) (block_normal (then_normal ?_)) _⟩⟩
    have hE10 := (hE9.pick (ks := [0, 41, 42, 43]) (env' := [(0, .v (.pointer (some ⟨b33, 0, none⟩))), (41, .v (.slice A10 u5.length c11)), (42, .v (.int .i64 ((u5.length : Nat) : Int))), (43, .v (.int .i64 ((j : Nat) : Int)))]) (by kernel_rfl)).cutTb 0 (by kernel_rfl)
    refine go_region [0, 1] (by kernel_rfl) (go_rn [0, 1] [] [(0, .v (.pointer (some ⟨b33, 0, none⟩))), (41, .v (.slice A10 u5.length c11)), (42, .v (.int .i64 ((u5.length : Nat) : Int))), (43, .v (.int .i64 (IntKind.i64.wrap (((j : Nat) : Int) + 1))))] (WOk.start wq5 Nil) hE10 fun aq8 hE11 => wpOps_nil (then_normal ?_))
    rw [wrap_succ (by omega)] at hE11
    exact ⟨u5.length - (j + 1), by omega, j + 1, some r, rfl, by omega, hE11, hT5⟩
  · obtain rfl : j = u5.length := by have := of_decide_eq_false hc; omega
    refine wp_exit (then_exit (then_exit (block_exit ?_)))
    rw [List.take_length] at hT
    obtain ⟨hW315, hF316⟩ := hT.tab hW304 1 [⟨b21, 0, [.int .i64 n1, .slice A6 s2.length c7, .bool b3, .slice A8 l4.length c9, .slice A10 u5.length c11], true⟩, ⟨b33, 0, [.int .i16 (IntKind.i16.wrap v), .slice A298 ((lst (Tree.at_ (Tree.mk n1 s2 b3 l4 u5) 0)).length) c299, .map m_], true⟩, ⟨b62, 0, [.int .i64 n1, .slice A6 s2.length c7, .bool b3, .slice A8 l4.length c9, .slice A10 u5.length c11], true⟩] rfl
    have hM317 := hT.mapImm hW304 hW315 hF316 hsort (tags_range h17)
    have hE318 : EnvOk 56 [⟨b21, 0, [.int .i64 n1, .slice A6 s2.length c7, .bool b3, .slice A8 l4.length c9, .slice A10 u5.length c11], true⟩, ⟨b33, 0, [.int .i16 (IntKind.i16.wrap v), .slice A298 ((lst (Tree.at_ (Tree.mk n1 s2 b3 l4 u5) 0)).length) c299, .map m_], true⟩, ⟨b62, 0, [.int .i64 n1, .slice A6 s2.length c7, .bool b3, .slice A8 l4.length c9, .slice A10 u5.length c11], true⟩] [] _ := (hE3.retable [⟨b21, 0, [.int .i64 n1, .slice A6 s2.length c7, .bool b3, .slice A8 l4.length c9, .slice A10 u5.length c11], true⟩, ⟨b33, 0, [.int .i16 (IntKind.i16.wrap v), .slice A298 ((lst (Tree.at_ (Tree.mk n1 s2 b3 l4 u5) 0)).length) c299, .map m_], true⟩, ⟨b62, 0, [.int .i64 n1, .slice A6 s2.length c7, .bool b3, .slice A8 l4.length c9, .slice A10 u5.length c11], true⟩]).pk
    refine leave_end hE318 hW315.cells (v := .tuple #[]) (by kernel_rfl) ?_
    refine ⟨_, rfl, fun a319 hE320 => ?_⟩
    have hE321 : EnvOk 17 [⟨b21, 0, [.int .i64 n1, .slice A6 s2.length c7, .bool b3, .slice A8 l4.length c9, .slice A10 u5.length c11], true⟩, ⟨b33, 0, [.int .i16 (IntKind.i16.wrap v), .slice A298 ((lst (Tree.at_ (Tree.mk n1 s2 b3 l4 u5) 0)).length) c299, .map m_], true⟩, ⟨b62, 0, [.int .i64 n1, .slice A6 s2.length c7, .bool b3, .slice A8 l4.length c9, .slice A10 u5.length c11], true⟩] [(14, .v (.tuple #[])), (5, .p 1 0), (12, .p 1 0), (13, .v (.agg #[.int .i64 n1, .slice A6 s2.length c7, .bool b3, .slice A8 l4.length c9, .slice A10 u5.length c11]))] _ := hE320.places (⟨rfl, rfl, ⟨rfl, rfl, trivial⟩⟩)
    refine wpOps_nil ?_
    refine then_normal ?_
    refine go_seq_region [0, 1, 2] (by kernel_rfl) ?_
    refine go_rn [0] [1, 2] [(15, .p 1 0)] hW315 hE321 fun a322 hE323 => ?_
    clear hE321
    have hrel_ : relDescribeLogDirsRequest (dvP m_ u5 [dvL A298 (lst (Tree.at_ (Tree.mk n1 s2 b3 l4 u5) 0)).length c299 f300]) (Tree.mk n1 s2 b3 l4 u5) := by
      unfold relDescribeLogDirsRequest
      exact ⟨⟨hn301, rfl, hL302.rel_⟩, rfl, trivial⟩
    have he_ : aDescribeLogDirsRequest (IntKind.i16.wrap v) (dvP m_ u5 [dvL A298 (lst (Tree.at_ (Tree.mk n1 s2 b3 l4 u5) 0)).length c299 f300]) = makeDescribeLogDirsRequest v (Tree.mk n1 s2 b3 l4 u5) := atDescribeLogDirsRequest _ _ _ hrel_
    rw [← he_] at hroom ⊢
    have hok_ : okDescribeLogDirsRequest wq (fun _ _ => True) (dvP m_ u5 [dvL A298 (lst (Tree.at_ (Tree.mk n1 s2 b3 l4 u5) 0)).length c299 f300]) := by
      unfold okDescribeLogDirsRequest
      exact ⟨⟨((hL302.move hF316.step immM hF316.to').move (Step.refl _ Nil) nilM (fun _ _ _ _ => trivial)).slots, c0, ((hL302.move hF316.step immM hF316.to').move (Step.refl _ Nil) nilM (fun _ _ _ _ => trivial)).each⟩, (hM317.move (Step.refl _ Nil) nilM (fun _ _ _ _ => trivial)), cU.2.1, cU.2.2, trivial⟩
    refine of_op (wpOp_call hE323 (f := 67) (vs := [.pointer (some ⟨b33, 0, none⟩), .slice none 0 0]) (d := 16) (by kernel_rfl) Try.call67 (kDescribeLogDirsRequest (IntKind.i16.wrap v) (dvP m_ u5 [dvL A298 (lst (Tree.at_ (Tree.mk n1 s2 b3 l4 u5) 0)).length c299 f300]) b33 0 none 0 [] _ _ (fun j v hj => ⟨trivial, hW315.cells 1 _ rfl j v hj⟩) hok_ none_blk (World.ownsRow_nil _ 0 _ _) (by simpa using hroom)) ?_)
    rintro e_ wz ⟨A', c', rfl, ho, hs, hn⟩
    refine ⟨_, rfl, fun az hEz => ?_⟩
    have hEy := (hEz.pick (ks := [16]) (env' := [(16, .v (.slice A' (([] ++ aDescribeLogDirsRequest (IntKind.i16.wrap v) (dvP m_ u5 [dvL A298 (lst (Tree.at_ (Tree.mk n1 s2 b3 l4 u5) 0)).length c299 f300])).length) c'))]) (by kernel_rfl)).cutTb 0 (by kernel_rfl)
    have hWz := WOk.start wz Nil
    refine go_rn [2] [] [(4, .v (.slice A' (([] ++ aDescribeLogDirsRequest (IntKind.i16.wrap v) (dvP m_ u5 [dvL A298 (lst (Tree.at_ (Tree.mk n1 s2 b3 l4 u5) 0)).length c299 f300])).length) c'))] hWz hEy fun a324 hE325 => ?_
    clear hEy
    refine wpOps_nil ?_
    refine then_normal ?_
    refine wp_ret ?_
    refine leave hE325 hWz.cells (v := .slice A' (([] ++ aDescribeLogDirsRequest (IntKind.i16.wrap v) (dvP m_ u5 [dvL A298 (lst (Tree.at_ (Tree.mk n1 s2 b3 l4 u5) 0)).length c299 f300])).length) c') (by kernel_rfl) ?_
    exact fresh_of_app hW315.step ⟨A', c', rfl, ho, hs, hn⟩

theorem xDescribeLogDirsRequest (w : World) : Calls Try.prog 26 #[] w (Gives w (.int .i64 5)) := by
  refine enter (n := 4) Try.func26 rfl Try.ntmps26 (by kernel_rfl) fun a hE => ?_
  have hW := WOk.start w Nil
  refine go_sp [] hW hE fun a1 hE2 => ?_
  clear hE
  refine go_seq_region [0, 1, 2, 3] (by kernel_rfl) ?_
  refine of_op (wpOp_inline hE2 (f := 62) (vs := []) (d := 1) (n' := 3) (by kernel_rfl) Try.call62 Try.func62 rfl Try.ntmps62 (by kernel_rfl) fun a3 hE4 => ?_)
  refine go_sp [] hW hE4 fun a5 hE6 => ?_
  clear hE4
  refine go_seq_region [0] (by kernel_rfl) ?_
  refine of_op (wpOp_alloc hW hE6 (d := 1) (cs := [.int .i16 0, .slice none 0 0, .map none]) (by kernel_rfl) fun b7 a8 w9 hb10 hz11 hF12 hW13 hE14 => ?_)
  clear hE6 hW
  refine wpOps_nil ?_
  refine then_normal ?_
  refine go_seq_region [0] (by kernel_rfl) ?_
  refine of_op (wpOp_inline hE14 (f := 118) (vs := [.pointer (some ⟨b7, 0, none⟩)]) (d := 2) (n' := 2) (by kernel_rfl) Try.call118 Try.func118 rfl Try.ntmps118 (by kernel_rfl) fun a15 hE16 => ?_)
  have hE17 := hE16.recast 0 (.v (.pointer (some ⟨b7, 0, none⟩))) (.p 0 0) rfl rfl (Nat.le_of_ble_eq_true (n := 1) rfl)
  refine wp_skip ?_
  refine leave_end hE17 hW13.cells (v := .tuple #[]) (by kernel_rfl) ?_
  refine ⟨_, rfl, fun a18 hE19 => ?_⟩
  have hE20 : EnvOk 3 [⟨b7, 0, [.int .i16 0, .slice none 0 0, .map none], true⟩] [(2, .v (.tuple #[])), (1, .p 0 0)] _ := hE19.places (⟨rfl, rfl, trivial⟩)
  refine wpOps_nil ?_
  refine then_normal ?_
  refine go_sp [(0, .p 0 0)] hW13 hE20 fun a21 hE22 => ?_
  clear hE20
  refine wp_ret ?_
  refine leave hE22 hW13.cells (v := .pointer (some ⟨b7, 0, none⟩)) (by kernel_rfl) ?_
  refine ⟨_, rfl, fun a23 hE24 => ?_⟩
  have hE25 : EnvOk 4 [⟨b7, 0, [.int .i16 0, .slice none 0 0, .map none], true⟩] [(1, .v (.pointer (some ⟨b7, 0, none⟩)))] _ := hE24.places (trivial)
  refine of_op (wpOp_inline hE25 (f := 63) (vs := [.pointer (some ⟨b7, 0, none⟩)]) (d := 2) (n' := 3) (by kernel_rfl) Try.call63 Try.func63 rfl Try.ntmps63 (by kernel_rfl) fun a26 hE27 => ?_)
  refine go_sp [] hW13 hE27 fun a28 hE29 => ?_
  clear hE27
  refine go_sp [(2, .v (.int .i16 5))] hW13 hE29 fun a30 hE31 => ?_
  clear hE29
  refine wp_ret ?_
  refine leave hE31 hW13.cells (v := .int .i16 5) (by kernel_rfl) ?_
  refine ⟨_, rfl, fun a32 hE33 => ?_⟩
  have hE34 : EnvOk 4 [⟨b7, 0, [.int .i16 0, .slice none 0 0, .map none], true⟩] [(2, .v (.int .i16 5)), (1, .v (.pointer (some ⟨b7, 0, none⟩)))] _ := hE33.places (⟨rfl, rfl, trivial⟩)
  refine go_rn [2, 3] [] [(0, .v (.int .i64 5))] hW13 hE34 fun a35 hE36 => ?_
  clear hE34
  refine wpOps_nil ?_
  refine then_normal ?_
  refine wp_ret ?_
  refine leave hE36 hW13.cells (v := .int .i64 5) (by kernel_rfl) ?_
  exact ⟨rfl, hW13.step⟩

theorem sDescribeLogDirsRequest_depth : depths sDescribeLogDirsRequestF ≤ 8 := by simp [sDescribeLogDirsRequestF, Fld.depth.depths, Fld.depth]
theorem sDescribeLogDirsRequest_plain : plains sDescribeLogDirsRequestF := by simp [sDescribeLogDirsRequestF, Fld.plain.plains, Fld.plain]

theorem lawDescribeLogDirsRequest (x : Int) (hx : 0 ≤ x) (hx' : x < 256) (ct : List Value) (t : Tree) (w : World) (F : Nat → Nat → Prop) (ht : TreeR w F ct t) (hroom : (writeB 8 sDescribeLogDirsRequestF sDescribeLogDirsRequestX (Int.tmod x (5 + 1)) t).length ≤ 1099511627776) (hcan : canDescribeLogDirsRequest (fitT (Int.tmod x (5 + 1)) 8 sDescribeLogDirsRequestF t)) (hmade : (makeDescribeLogDirsRequest (Int.tmod x (5 + 1)) (fitT (Int.tmod x (5 + 1)) 8 sDescribeLogDirsRequestF t)).length + 16 ≤ 1099511627776) (hpure : makeDescribeLogDirsRequest (Int.tmod x (5 + 1)) (fitT (Int.tmod x (5 + 1)) 8 sDescribeLogDirsRequestF t) = writeB 8 sDescribeLogDirsRequestF sDescribeLogDirsRequestX (Int.tmod x (5 + 1)) t) :
    Calls Try.prog 6 #[.int .u8 x, .agg ct.toArray] w (Gives w (.bool true)) := by
  obtain ⟨n1, s2, b3, l4, u5, A6, c7, A8, c9, A10, c11, xs12, rfl, rfl, h14, h15, h16, h17⟩ := ht.open_
  have hsm19 := h14.small
  have hsm20 := h15.small
  refine enter (n := 31) Try.func6 rfl Try.ntmps6 (by kernel_rfl) fun a hE => ?_
  have hW := WOk.start w Nil
  refine go_seq_region [0, 1] (by kernel_rfl) ?_
  refine of_op (wpOp_box hW hE (d := 3) (cs := [.int .i64 n1, .slice A6 s2.length c7, .bool b3, .slice A8 l4.length c9, .slice A10 u5.length c11]) (by kernel_rfl) fun b21 a22 w23 hb24 hz25 hF26 hW27 hE28 => ?_)
  clear hE hW
  refine go_rn [1] [] [(0, .v (.int .u8 x)), (3, .p 0 0)] hW27 hE28 fun a29 hE30 => ?_
  clear hE28
  refine wpOps_nil ?_
  refine then_normal ?_
  refine wp_seq ?_
  refine go_seq_region [0, 1, 2] (by kernel_rfl) ?_
  refine go_rn [0] [1, 2] [(0, .v (.int .u8 x)), (3, .p 0 0), (8, .v (.agg #[.int .i64 n1, .slice A6 s2.length c7, .bool b3, .slice A8 l4.length c9, .slice A10 u5.length c11]))] hW27 hE30 fun a31 hE32 => ?_
  clear hE30
  refine of_op (wpOp_call hE32 (f := 11) (vs := [.agg #[.int .i64 n1, .slice A6 s2.length c7, .bool b3, .slice A8 l4.length c9, .slice A10 u5.length c11]]) (d := 9) (by kernel_rfl) Try.call11 (lFits1 _ _ _ _ (ht.move hW27.step nilM hW27.imm)) ?_)
  rintro e_ w35 ⟨b34, rfl, hs33⟩
  refine ⟨_, rfl, fun a36 hE37 => ?_⟩
  have hW38 := hW27.next_nil hs33
  have hF39 := hW27.frN hs33
  clear hE32 hW27
  refine go_rn [2] [] [(0, .v (.int .u8 x)), (3, .p 0 0), (10, .v (.bool (!b34)))] hW38 hE37 fun a40 hE41 => ?_
  clear hE37
  refine wpOps_nil ?_
  refine then_normal ?_
  refine cond_of hE41 (b := !b34) (by kernel_rfl) (fun hc42 => ?_) (fun hc42 => ?_)
  ·
    refine go_sp [(4, .v (.bool true))] hW38 hE41 fun a44 hE45 => ?_
    clear hE41
    refine wp_ret ?_
    refine then_ret ?_
    refine leave hE45 hW38.cells (v := .bool true) (by kernel_rfl) ?_
    exact ⟨rfl, hW38.step⟩
  ·
    refine wp_skip ?_
    refine then_normal ?_
    refine go_seq_region [0, 1] (by kernel_rfl) ?_
    refine of_op (wpOp_call hE41 (f := 26) (vs := []) (d := 11) (by kernel_rfl) Try.call26 (xDescribeLogDirsRequest _) ?_)
    rintro e_ w48 ⟨rfl, hs47⟩
    refine ⟨_, rfl, fun a49 hE50 => ?_⟩
    have hW51 := hW38.next_nil hs47
    have hF52 := hW38.frN hs47
    clear hE41 hW38
    refine go_rn [1] [] [(0, .v (.int .u8 x)), (3, .p 0 0), (5, .v (.int .i64 5))] hW51 hE50 fun a53 hE54 => ?_
    clear hE50
    refine wpOps_nil ?_
    refine then_normal ?_
    refine wp_seq ?_
    refine go_sp [(0, .v (.int .u8 x)), (3, .p 0 0), (5, .v (.int .i64 5)), (13, .v (.bool false))] hW51 hE54 fun a55 hE56 => ?_
    clear hE54
    refine cond_false hE56 (b := false) (by kernel_rfl) rfl ?_
    refine wp_skip ?_
    refine then_normal ?_
    refine go_seq_region [0, 1, 2, 3, 4, 5, 6] (by kernel_rfl) ?_
    refine of_op (wpOp_call hE56 (f := 27) (vs := []) (d := 14) (by kernel_rfl) Try.call27 (sDescribeLogDirsRequest _ (Imm F w w48 [⟨b21, 0, [.int .i64 n1, .slice A6 s2.length c7, .bool b3, .slice A8 l4.length c9, .slice A10 u5.length c11], true⟩] [])) ?_)
    rintro e_ w61 ⟨A59, c60, rfl, hr58, hs57⟩
    obtain ⟨xs62, h63, h64⟩ := hr58.move (Step.refl _ Nil) nilM (hW51.laid (G := F) hs57)
    refine ⟨_, rfl, fun a65 hE66 => ?_⟩
    have hW67 := hW51.next_nil hs57
    have hF68 := hW51.frN hs57
    clear hE56
    refine go_rn [1, 2] [3, 4, 5, 6] [(3, .p 0 0), (14, .v (.agg #[.slice A59 sDescribeLogDirsRequestF.length c60, .int .i64 sDescribeLogDirsRequestX])), (15, .v (.int .u8 x)), (16, .v (.int .i64 5))] hW67 hE66 fun a69 hE70 => ?_
    clear hE66
    refine of_op (wpOp_call hE70 (f := 14) (vs := [.int .u8 x, .int .i64 5]) (d := 17) (by kernel_rfl) Try.call14 (lVersion x 5 hx hx' (by decide) (by decide) _) ?_)
    rintro e_ w72 ⟨rfl, hs71⟩
    refine ⟨_, rfl, fun a73 hE74 => ?_⟩
    have hW75 := hW67.next_nil hs71
    have hF76 := hW67.frN hs71
    clear hE70 hW67
    refine of_op (wpOp_alloc hW75 hE74 (d := 6) (cs := [.slice none 0 0, .int .i64 0]) (by kernel_rfl) fun b77 a78 w79 hb80 hz81 hF82 hW83 hE84 => ?_)
    clear hE74 hW75
    refine of_op (wpOp_store hW83 hE84 (oi := 1) (cs := [.slice A59 sDescribeLogDirsRequestF.length c60, .int .i64 sDescribeLogDirsRequestX]) (by kernel_rfl) fun w85 hF86 hW87 hE88 => ?_)
    clear hE84 hW83
    refine go_rn [6] [] [(3, .p 0 0), (6, .p 1 0), (7, .v (.int .i64 (Int.tmod x (5 + 1))))] hW87 hE88 fun a89 hE90 => ?_
    clear hE88
    refine wpOps_nil ?_
    refine then_normal ?_
    refine go_seq_drawK 13 (by kernel_rfl) hW87 fun w91 hF92 hW93 hT94 => ?_
    clear hW87
    refine go_rnD [0, 1, 2, 3, 4, 8, 9, 10] [(18, .v (.int .i64 (Int.tmod x (5 + 1)))), (20, .v (.slice A59 sDescribeLogDirsRequestF.length c60)), (21, .v (.int .i64 (Int.tmod x (5 + 1)))), (22, .v (.agg #[.int .i64 n1, .slice A6 s2.length c7, .bool b3, .slice A8 l4.length c9, .slice A10 u5.length c11])), (26, .v (.agg #[.slice A59 sDescribeLogDirsRequestF.length c60, .int .i64 sDescribeLogDirsRequestX])), (27, .v (.int .i64 (Int.tmod x (5 + 1)))), (28, .v (.agg #[.int .i64 n1, .slice A6 s2.length c7, .bool b3, .slice A8 l4.length c9, .slice A10 u5.length c11]))] 6 (panicFree_then panicFree_body) (fun _ h => h.cells) hT94 hE90 fun a95 hE96 => ?_
    clear hE90
    refine anyC_op (i := 5) (by kernel_rfl) (wpOp_call hE96 (f := 18) (vs := [.slice A59 sDescribeLogDirsRequestF.length c60, .int .i64 (Int.tmod x (5 + 1)), .agg #[.int .i64 n1, .slice A6 s2.length c7, .bool b3, .slice A8 l4.length c9, .slice A10 u5.length c11]]) (d := 23) (by kernel_rfl) Try.call18 (sFitOK _ _ _ sDescribeLogDirsRequestF (Int.tmod x (5 + 1)) _ (Tree.mk n1 s2 b3 l4 u5) _ _ ⟨xs62, (h63.move (Fr.trans (Fr.trans (Fr.trans hF76 hF82) hF86) hF92).step immM (Fr.trans (Fr.trans (Fr.trans hF76 hF82) hF86) hF92).to'), (fun i_ x_ h_ => ((h64 i_ x_ h_).move (Fr.trans (Fr.trans (Fr.trans hF76 hF82) hF86) hF92).step immM (Fr.trans (Fr.trans (Fr.trans hF76 hF82) hF86) hF92).to'))⟩ sDescribeLogDirsRequest_plain sDescribeLogDirsRequest_depth (ht.move hW93.step nilM hW93.imm)) ?_)
    rintro e_ w100 ⟨cs99, rfl, hr98, hs97⟩
    have hr101 := hr98.move (Step.refl _ Nil) nilM (hW93.laid (G := F) hs97)
    obtain ⟨n102, s103, b104, l105, u106, A107, c108, A109, c110, A111, c112, xs113, ht119, hcs114, h115, h116, h117, h118⟩ := hr101.open_
    rw [hcs114] at hr101
    have hsm120 := h115.small
    have hsm121 := h116.small
    rw [hcs114]
    refine ⟨_, rfl, fun a122 hE123 => ?_⟩
    have hW124 := hW93.next_nil hs97
    have hF125 := hW93.frN hs97
    clear hE96
    have hT126 := TT.ofW hF125 hW124
    refine ⟨fun _ => hT126, ?_⟩
    refine anyC_op (i := 6) (by kernel_rfl) (wpOp_call hE123 (f := 17) (vs := [.agg #[.int .i64 n102, .slice A107 s103.length c108, .bool b104, .slice A109 l105.length c110, .slice A111 u106.length c112]]) (d := 24) (by kernel_rfl) Try.call17 (lGiven _ _ _ _ _ hr101 (Nat.le_refl _)) ?_)
    rintro e_ w130 ⟨cs129, rfl, hr128, hs127⟩
    have hr131 := hr128.move (Step.refl _ Nil) nilM (hW124.laid (G := F) hs127)
    obtain ⟨n132, s133, b134, l135, u136, A137, c138, A139, c140, A141, c142, xs143, ht149, hcs144, h145, h146, h147, h148⟩ := hr131.open_
    rw [hcs144] at hr131
    have hsm150 := h145.small
    have hsm151 := h146.small
    rw [hcs144]
    refine ⟨_, rfl, fun a152 hE153 => ?_⟩
    have hW154 := hW124.next_nil hs127
    have hF155 := hW124.frN hs127
    clear hE123
    have hT156 := TT.ofW (Fr.trans hF125 hF155) hW154
    refine ⟨fun _ => hT156, ?_⟩
    refine anyC_op (i := 7) (by kernel_rfl) (wpOp_call hE153 (f := 28) (vs := [.int .i64 (Int.tmod x (5 + 1)), .agg #[.int .i64 n132, .slice A137 s133.length c138, .bool b134, .slice A139 l135.length c140, .slice A141 u136.length c142]]) (d := 25) (by kernel_rfl) Try.call28 (mDescribeLogDirsRequest (Int.tmod x (5 + 1)) _ (fitT (Int.tmod x (5 + 1)) 8 sDescribeLogDirsRequestF (Tree.mk n1 s2 b3 l4 u5)) _ _ hr131 hcan hmade) ?_)
    rintro e_ w161 ⟨A159, c160, rfl, ho158, hs157⟩
    refine ⟨_, rfl, fun a162 hE163 => ?_⟩
    obtain ⟨hW164, hF165⟩ := hW154.frFresh hs157 (brow A159 c160 5 (makeDescribeLogDirsRequest (Int.tmod x (5 + 1)) (fitT (Int.tmod x (5 + 1)) 8 sDescribeLogDirsRequestF (Tree.mk n1 s2 b3 l4 u5)))) (Nat.le_refl _) ho158
    clear hE153 hW154
    have hT166 := TT.ofW (Fr.trans (Fr.trans hF125 hF155) hF165) hW164
    refine ⟨fun _ => hT166, ?_⟩
    refine anyC_op (i := 11) (by kernel_rfl) (wpOp_call hE163 (f := 19) (vs := [.agg #[.slice A59 sDescribeLogDirsRequestF.length c60, .int .i64 sDescribeLogDirsRequestX], .int .i64 (Int.tmod x (5 + 1)), .agg #[.int .i64 n1, .slice A6 s2.length c7, .bool b3, .slice A8 l4.length c9, .slice A10 u5.length c11]]) (d := 29) (by kernel_rfl) Try.call19 (sWrite _ _ sDescribeLogDirsRequestF sDescribeLogDirsRequestX (Int.tmod x (5 + 1)) _ (Tree.mk n1 s2 b3 l4 u5) _ _ ⟨xs62, (h63.move (Fr.trans (Fr.trans (Fr.trans (Fr.trans (Fr.trans (Fr.trans hF76 hF82) hF86) hF92) hF125) hF155) hF165).step immM (Fr.trans (Fr.trans (Fr.trans (Fr.trans (Fr.trans (Fr.trans hF76 hF82) hF86) hF92) hF125) hF155) hF165).to'), (fun i_ x_ h_ => ((h64 i_ x_ h_).move (Fr.trans (Fr.trans (Fr.trans (Fr.trans (Fr.trans (Fr.trans hF76 hF82) hF86) hF92) hF125) hF155) hF165).step immM (Fr.trans (Fr.trans (Fr.trans (Fr.trans (Fr.trans (Fr.trans hF76 hF82) hF86) hF92) hF125) hF155) hF165).to'))⟩ sDescribeLogDirsRequest_depth (ht.move hW164.step nilM hW164.imm) hroom) ?_)
    rintro e_ w171 ⟨A169, c170, rfl, ho168, hs167⟩
    refine ⟨_, rfl, fun a172 hE173 => ?_⟩
    obtain ⟨hW174, hF175⟩ := hW164.frFresh hs167 (brow A169 c170 5 (writeB 8 sDescribeLogDirsRequestF sDescribeLogDirsRequestX (Int.tmod x (5 + 1)) (Tree.mk n1 s2 b3 l4 u5))) (Nat.le_refl _) ho168
    clear hE163 hW164
    have hT176 := TT.ofW (Fr.trans (Fr.trans (Fr.trans hF125 hF155) hF165) hF175) hW174
    refine ⟨fun _ => hT176, ?_⟩
    refine anyC_op (i := 12) (by kernel_rfl) (wpOp_call hE173 (f := 15) (vs := [.slice A159 ((makeDescribeLogDirsRequest (Int.tmod x (5 + 1)) (fitT (Int.tmod x (5 + 1)) 8 sDescribeLogDirsRequestF (Tree.mk n1 s2 b3 l4 u5))).length) c160, .slice A169 ((writeB 8 sDescribeLogDirsRequestF sDescribeLogDirsRequestX (Int.tmod x (5 + 1)) (Tree.mk n1 s2 b3 l4 u5)).length) c170]) (d := 30) (by kernel_rfl) Try.call15 (sSame _ _ _ _ (makeDescribeLogDirsRequest (Int.tmod x (5 + 1)) (fitT (Int.tmod x (5 + 1)) 8 sDescribeLogDirsRequestF (Tree.mk n1 s2 b3 l4 u5))) (writeB 8 sDescribeLogDirsRequestF sDescribeLogDirsRequestX (Int.tmod x (5 + 1)) (Tree.mk n1 s2 b3 l4 u5)) _ _ (octs_own (hW174.own 0 _ rfl) (by first | omega | (simp only [be_length]; exact Nat.le_trans (widthI_le _) (by decide)) | (have := hroom; omega) | (have := hmade; omega)) (F := fun _ _ => True) (fun _ _ _ => trivial)) (octs_own (hW174.own 1 _ rfl) (by first | omega | (simp only [be_length]; exact Nat.le_trans (widthI_le _) (by decide)) | (have := hroom; omega) | (have := hmade; omega)) (F := fun _ _ => True) (fun _ _ _ => trivial))) ?_)
    rintro e_ w178 ⟨rfl, hs177⟩
    refine ⟨_, rfl, fun a179 hE180 => ?_⟩
    have hW181 := hW174.next_nil hs177
    have hF182 := hW174.frN hs177
    clear hE173 hW174
    have hT183 := TT.ofW (Fr.trans (Fr.trans (Fr.trans (Fr.trans hF125 hF155) hF165) hF175) hF182) hW181
    refine ⟨fun _ => hT183, ?_⟩
    refine anyC_op (i := 13) (by kernel_rfl) (wpOp_pure [4] hW181.cells hE180 (env' := [(4, .v (.bool (decide (makeDescribeLogDirsRequest (Int.tmod x (5 + 1)) (fitT (Int.tmod x (5 + 1)) 8 sDescribeLogDirsRequestF (Tree.mk n1 s2 b3 l4 u5)) = writeB 8 sDescribeLogDirsRequestF sDescribeLogDirsRequestX (Int.tmod x (5 + 1)) (Tree.mk n1 s2 b3 l4 u5)))))]) (by kernel_rfl) fun a184 hE185 => ?_)
    clear hE180
    refine ⟨fun h => absurd rfl h, ?_⟩
    refine anyC_done (by kernel_rfl) ?_ _
    refine then_normal ?_
    refine wp_ret ?_
    refine leave hE185 hW181.cells (v := .bool (decide (makeDescribeLogDirsRequest (Int.tmod x (5 + 1)) (fitT (Int.tmod x (5 + 1)) 8 sDescribeLogDirsRequestF (Tree.mk n1 s2 b3 l4 u5)) = writeB 8 sDescribeLogDirsRequestF sDescribeLogDirsRequestX (Int.tmod x (5 + 1)) (Tree.mk n1 s2 b3 l4 u5)))) (by kernel_rfl) ?_
    exact ⟨by rw [hpure]; simp, hW181.step⟩

theorem closeDescribeLogDirsRequest (x : Int) (hx : 0 ≤ x ∧ x ≤ 255) (ct : List Value) (t : Tree) (w : World) (F : Nat → Nat → Prop) (ht : TreeR w F ct t) (hsz : t.size ≤ 8388608) : Calls Try.prog 6 #[.int .u8 x, .agg ct.toArray] w (Gives w (.bool true)) := by
  obtain ⟨g0, g1⟩ := ver_ok (m := 5 + 1) hx.1 hx.2 (by decide) (by decide)
  have hp : makeDescribeLogDirsRequest (Int.tmod x (5 + 1)) (fitT (Int.tmod x (5 + 1)) 8 sDescribeLogDirsRequestF t) = writeB 8 sDescribeLogDirsRequestF sDescribeLogDirsRequestX (Int.tmod x (5 + 1)) t := by unfold makeDescribeLogDirsRequest; rw [i16_small g0 g1]; exact pureDescribeLogDirsRequest (Int.tmod x (5 + 1)) g0 g1 t
  have h1 := writeB_le 8 sDescribeLogDirsRequestF sDescribeLogDirsRequestX (Int.tmod x (5 + 1)) t
  have h2 : costL sDescribeLogDirsRequestF ≤ 131000 := by decide +kernel
  have h3 := Nat.mul_le_mul h2 hsz
  exact lawDescribeLogDirsRequest x hx.1 (by omega) ct t w F ht (by omega) (canfitDescribeLogDirsRequest (Int.tmod x (5 + 1)) t) (by rw [hp]; omega) hp

end Go.Proofs.Ytbjopfcbpobnpaa.ME

/- FnMakeDescribeLogDirsRequest: the statement: of every version and every tree of the bulk that the statement speaks of the law returns true, and leaves its arguments as they are. Own work. -/
namespace Go.Proofs.Ytbjopfcbpobnpaa.ME
open Go
open Go.ChangeShapes Go.WideShapes Go.ChangeAt Go.RowKit
set_option linter.unusedVariables false
set_option linter.unusedSimpArgs false

theorem ownKnob_ : ownKnob Try.prog.godebug = none := by kernel_rfl
theorem laidOut_ : laidOutB Try.prog = true := by kernel_rfl
theorem treeTys : TreeTys Try.prog 26 23 24 61 22 2 4 59 5 := ⟨by kernel_rfl, by kernel_rfl, by kernel_rfl, by kernel_rfl, by kernel_rfl, by kernel_rfl, by kernel_rfl, by kernel_rfl, by kernel_rfl, by kernel_rfl⟩
theorem open_two {H : Type} {enc : TypeId × Value → H} {P : Program} {W : World} {base b' : Nat} {sp : Nat → Bool} {hd : Bool} {t0 t1 : TypeId} {v0 v1 : Value} {d0 : DataW H} {p0 : List MemPlace} (hu : P.underlying t0 = some (.int .u8))
    (hval : ∀ (j : Nat) (t : TypeId) (v : Value), #[t0, t1][j]? = some t → #[v0, v1][j]? = some v → Value.okWide P W .any base t v) (h : DataW.Trod enc P W b' sp hd t0 v0 d0 p0) : ∃ x, v0 = .int .u8 x ∧ d0 = .lit (.int .u8 x) ∧ p0 = [] ∧ (Lit.int .u8 x).wf = true :=
  open_int hu (hval 0 t0 v0 rfl rfl) h
theorem agg_of {v : Value} {cs : List Value} (h : v.cells.toList = cs) (h5 : cs.length = 5) : v = .agg cs.toArray := by
  subst h
  cases v <;> first | (simp [Value.cells] at h5; done) | simp [Value.cells]

theorem contract_ (H : Type) (enc : TypeId × Value → H) (W : World) (base : Nat) (args : Array Value) (ds gs : List (DataW H)) (before : List MemPlace)
    (hval : ∀ (j : Nat) t v, Try.f6.params[j]? = some t → args[j]? = some v → Value.okWide Try.prog W .any base t v)
    (hW : DataW.Whole enc Try.prog Try.f6.params.toList Rows.fnMakeDescribeLogDirsRequestSpec.vars false W args.toList ds gs before) (hk : Rows.uptoSmall H (ds ++ gs) = true) :
    Calls Try.prog 6 args W fun e W' => ∃ v, e = .returned v ∧ Rows.fnMakeDescribeLogDirsRequestSpec.post enc Try.prog Try.f6 false true false false W args v W' := by
  have hW' := hW
  obtain ⟨p, q, hA0, hV, rfl, hfz, hnd⟩ := hW
  have hA : DataW.TrodAll enc Try.prog W 0 (fun _ => true) true Try.f6.params.toList args.toList ds p := hA0
  rw [Try.params6] at hA hval
  obtain ⟨v0, v1, d0, d1, p0, p1, rfl, rfl, rfl, h0, h1⟩ := trodAll_two hA
  obtain ⟨rfl, rfl⟩ := trodVars_none hV
  obtain ⟨x, rfl, rfl, rfl, w0⟩ := open_two Try.underlying5 @hval h0
  have hx : 0 ≤ x ∧ x ≤ 255 := by simpa [Lit.wf, IntKind.min, IntKind.max, IntKind.signed, IntKind.bits] using w0
  have hb : Rows.uptoBulk d1 ≤ 1048576 := by
    have h : Rows.uptoBulkAll ([DataW.lit (H := H) (.int .u8 x), d1] ++ []) ≤ 1048576 := of_decide_eq_true hk
    simp only [List.append_nil, Rows.uptoBulkAll] at h
    omega
  obtain ⟨fuel, hf⟩ := h1
  obtain ⟨t, ht, hsz⟩ := trod_tree treeTys fuel _ _ hf hb
  replace hsz : t.size ≤ 8388608 := Nat.le_trans hsz (by show 8 * Rows.uptoBulk d1 ≤ 8388608; omega)
  have hagg := agg_of rfl ht.five
  generalize v1.cells.toList = ct at ht hagg
  subst hagg
  clear hf
  refine (closeDescribeLogDirsRequest x hx _ t W (fun _ _ => True) ht hsz).mono fun e W' h => ?_
  obtain ⟨rfl, hs⟩ := h
  exact ⟨_, rfl, post_step hW' hs laidOut_ (by rw [Try.params6]; decide +kernel) rfl rfl rfl (fun _ _ _ => trodAll_cons_mk (shut_bool Try.underlying4 _) trodAll_mk0)⟩

set_option maxRecDepth 100000 in
theorem lifted_ (os : Os) (started : os.Started) (H : Type) (enc : TypeId × Value → H) (F : Stop.Interp) :
    ReturnsInHanded {} Try.checked os 6 .any ((Rows.OpenSpec.upto Rows.fnMakeDescribeLogDirsRequestSpec).pre6 enc Try.prog Try.f6 Rows.fnMakeDescribeLogDirsRequestUptoRow.domain false) (((Rows.OpenSpec.upto Rows.fnMakeDescribeLogDirsRequestSpec).at F).post enc Try.prog Try.f6 false true false false) := by
  refine returnsInHanded_of_cond (C := Try.checked) (s := Rows.OpenSpec.upto Rows.fnMakeDescribeLogDirsRequestSpec) (k := Rows.uptoSmall) rfl ownKnob_ started (by kernel_rfl) Try.func6
    (OpenSpec.witness (enc := enc) (C := Try.checked) (s := Rows.OpenSpec.upto Rows.fnMakeDescribeLogDirsRequestSpec) (k := Rows.uptoSmall) rfl false ⟨#[], #[.int .u8 0, .agg #[.int .i64 0, .slice none 0 0, .bool false, .slice none 0 0, .slice none 0 0]], []⟩ 8 (by kernel_rfl) (by kernel_rfl) (by kernel_rfl)
      (x := ([.lit (.int .u8 0), .agg [.lit (.int .i64 0), .nil, .lit (.bool false), .nil, .nil]], [], [])) (by kernel_rfl) rfl (by kernel_rfl)) ?_
  intro W base args ds gs before hval hW _ hk _
  exact contract_ H enc W base args ds gs before @hval hW hk

theorem holds_ : Rows.FnMakeDescribeLogDirsRequestUptoSaid :=
  OpenClaim.holds_of_cond 6 Try.f6 rfl rfl rfl rfl rfl rfl rfl ⟨rfl, rfl, rfl, rfl, rfl⟩ rfl rfl rfl rfl rfl (by kernel_rfl) Try.func6 (by kernel_rfl)
    (of_decide_eq_true (by kernel_rfl)) (by unfold Func.isWrapper; first | (rw [if_pos (by decide +kernel)]; kernel_rfl) | (rw [if_neg (by decide +kernel)]; exact ⟨rfl, rfl⟩))
    (fun os started H enc _ F => lifted_ os started H enc F)
end Go.Proofs.Ytbjopfcbpobnpaa.ME
namespace Go.Proofs.Ytbjopfcbpobnpaa
/-- the statement -/
theorem fnMakeDescribeLogDirsRequest_holds : Rows.FnMakeDescribeLogDirsRequestUptoSaid := ME.holds_
end Go.Proofs.Ytbjopfcbpobnpaa
