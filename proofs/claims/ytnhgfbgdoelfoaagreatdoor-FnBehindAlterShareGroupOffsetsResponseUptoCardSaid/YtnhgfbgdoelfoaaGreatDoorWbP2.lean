/- The texts of a claim, put together: the engine, the contracts, the law. Own work. -/
import Derived.Test.YtnhgfbgdoelfoaaGreatDoorWbP1
import Derived.Test.YtnhgfbgdoelfoaaGreatDoorProg
/- Contracts: printed by tools/sp.py. Own work. -/
namespace Go.Proofs.YtnhgfbgdoelfoaaGreatDoor.ME
open Go
set_option linter.unusedVariables false
set_option linter.unusedSimpArgs false
set_option maxRecDepth 20000

theorem sHas (k x1 x2 x3 x4 x5 x6 : Int) (fs : List Fld) (AF : Option Addr) (cF : Nat) (v : Int) (w : World) :
    Calls Tryz.prog 83 #[.agg #[.int .i64 k, .int .i64 x1, .int .i64 x2, .int .i64 x3, .int .i64 x4, .int .i64 x5, .int .i64 x6, .slice AF fs.length cF], .int .i64 v] w (Gives w (.bool (Fld.has (Fld.mk k x1 x2 x3 x4 x5 x6 fs) v))) := by
  refine enter (n := 20) Tryz.func83 rfl Tryz.ntmps83 (by kernel_rfl) fun a hE => ?_
  have hW := WOk.start w Nil
  refine go_seq_region [0, 1] (by kernel_rfl) ?_
  refine of_op (wpOp_box hW hE (d := 2) (cs := [.int .i64 k, .int .i64 x1, .int .i64 x2, .int .i64 x3, .int .i64 x4, .int .i64 x5, .int .i64 x6, .slice AF fs.length cF]) (by kernel_rfl) fun b1 a2 w3 hb4 hz5 hF6 hW7 hE8 => ?_)
  clear hE hW
  refine go_rn [1] [] [(1, .v (.int .i64 v)), (2, .p 0 0)] hW7 hE8 fun a9 hE10 => ?_
  clear hE8
  refine wpOps_nil ?_
  refine then_normal ?_
  refine go_seq_region [0, 1, 2, 3, 4, 5, 6, 7, 8, 9, 10, 11, 12, 13, 14, 15] (by kernel_rfl) ?_
  refine go_rn [0, 1, 2, 3, 4] [5, 6, 7, 8, 9, 10, 11, 12, 13, 14, 15] [(1, .v (.int .i64 v)), (2, .p 0 0), (9, .v (.bool (decide (x1 ≤ v))))] hW7 hE10 fun a11 hE12 => ?_
  clear hE10
  refine (Bool.eq_false_or_eq_true (decide (x1 ≤ v))).elim (fun hc13 => ?_) (fun hc13 => ?_)
  ·
    have hf14 := of_decide_eq_true hc13
    have hE15 := hE12.cast (env' := [(1, .v (.int .i64 v)), (2, .p 0 0), (9, .v (.bool true))]) (by rw [hc13])
    clear hE12
    refine go_rn [5, 6, 7, 8] [9, 10, 11, 12, 13, 14, 15] [(1, .v (.int .i64 v)), (2, .p 0 0), (9, .v (.bool true)), (13, .v (.bool (decide (x2 < 0))))] hW7 hE15 fun a16 hE17 => ?_
    clear hE15
    refine (Bool.eq_false_or_eq_true (decide (x2 < 0))).elim (fun hc18 => ?_) (fun hc18 => ?_)
    ·
      have hf19 := of_decide_eq_true hc18
      have hE20 := hE17.cast (env' := [(1, .v (.int .i64 v)), (2, .p 0 0), (9, .v (.bool true)), (13, .v (.bool true))]) (by rw [hc18])
      clear hE17
      refine go_rn [9, 10, 11, 12, 13, 14, 15] [] [(4, .v (.bool true))] hW7 hE20 fun a21 hE22 => ?_
      clear hE20
      refine wpOps_nil ?_
      refine then_normal ?_
      refine wp_ret ?_
      refine leave hE22 hW7.cells (v := .bool true) (by kernel_rfl) ?_
      exact ⟨by simp only [Fld.has, hc13, hc18, Bool.true_and, Bool.and_true, Bool.false_and, Bool.and_false, Bool.true_or, Bool.false_or, Bool.or_true, Bool.or_false], hW7.step⟩
    ·
      have hf23 := of_decide_eq_false hc18
      have hE24 := hE17.cast (env' := [(1, .v (.int .i64 v)), (2, .p 0 0), (9, .v (.bool true)), (13, .v (.bool false))]) (by rw [hc18])
      clear hE17
      refine go_rn [9, 10, 11, 12, 13, 14, 15] [] [(4, .v (.bool (decide (v ≤ x2))))] hW7 hE24 fun a25 hE26 => ?_
      clear hE24
      refine wpOps_nil ?_
      refine then_normal ?_
      refine wp_ret ?_
      refine leave hE26 hW7.cells (v := .bool (decide (v ≤ x2))) (by kernel_rfl) ?_
      exact ⟨by simp only [Fld.has, hc13, hc18, Bool.true_and, Bool.and_true, Bool.false_and, Bool.and_false, Bool.true_or, Bool.false_or, Bool.or_true, Bool.or_false], hW7.step⟩
  ·
    have hf27 := of_decide_eq_false hc13
    have hE28 := hE12.cast (env' := [(1, .v (.int .i64 v)), (2, .p 0 0), (9, .v (.bool false))]) (by rw [hc13])
    clear hE12
    refine go_rn [5, 6, 7, 8, 9, 10, 11, 12, 13, 14, 15] [] [(4, .v (.bool false))] hW7 hE28 fun a29 hE30 => ?_
    clear hE28
    refine wpOps_nil ?_
    refine then_normal ?_
    refine wp_ret ?_
    refine leave hE30 hW7.cells (v := .bool false) (by kernel_rfl) ?_
    exact ⟨by simp only [Fld.has, hc13, Bool.true_and, Bool.and_true, Bool.false_and, Bool.and_false, Bool.true_or, Bool.false_or, Bool.or_true, Bool.or_false], hW7.step⟩

theorem sNull (k x1 x2 x3 x4 x5 x6 : Int) (fs : List Fld) (AF : Option Addr) (cF : Nat) (v : Int) (n : Int) (s : Bs) (b : Bool) (l : List Tree) (u : List (Int × Bs)) (A1 : Option Addr) (c1 : Nat) (A2 : Option Addr) (c2 : Nat) (A3 : Option Addr) (c3 : Nat) (w : World) :
    Calls Tryz.prog 138 #[.agg #[.int .i64 k, .int .i64 x1, .int .i64 x2, .int .i64 x3, .int .i64 x4, .int .i64 x5, .int .i64 x6, .slice AF fs.length cF], .int .i64 v, .agg #[.int .i64 n, .slice A1 s.length c1, .bool b, .slice A2 l.length c2, .slice A3 u.length c3]] w (Gives w (.bool (Fld.nul (Fld.mk k x1 x2 x3 x4 x5 x6 fs) v (Tree.mk n s b l u)))) := by
  refine enter (n := 20) Tryz.func138 rfl Tryz.ntmps138 (by kernel_rfl) fun a hE => ?_
  have hW := WOk.start w Nil
  refine go_seq_region [0, 1, 2] (by kernel_rfl) ?_
  refine of_op (wpOp_box hW hE (d := 3) (cs := [.int .i64 k, .int .i64 x1, .int .i64 x2, .int .i64 x3, .int .i64 x4, .int .i64 x5, .int .i64 x6, .slice AF fs.length cF]) (by kernel_rfl) fun b1 a2 w3 hb4 hz5 hF6 hW7 hE8 => ?_)
  clear hE hW
  refine of_op (wpOp_box hW7 hE8 (d := 5) (cs := [.int .i64 n, .slice A1 s.length c1, .bool b, .slice A2 l.length c2, .slice A3 u.length c3]) (by kernel_rfl) fun b9 a10 w11 hb12 hz13 hF14 hW15 hE16 => ?_)
  clear hE8 hW7
  refine go_rn [2] [] [(1, .v (.int .i64 v)), (3, .p 0 0), (5, .p 1 0)] hW15 hE16 fun a17 hE18 => ?_
  clear hE16
  refine wpOps_nil ?_
  refine then_normal ?_
  refine go_seq_region [0, 1, 2, 3, 4, 5, 6, 7, 8, 9, 10, 11, 12, 13] (by kernel_rfl) ?_
  refine go_rn [0, 1, 2] [3, 4, 5, 6, 7, 8, 9, 10, 11, 12, 13] [(1, .v (.int .i64 v)), (3, .p 0 0), (9, .v (.bool b))] hW15 hE18 fun a19 hE20 => ?_
  clear hE18
  refine (Bool.eq_false_or_eq_true (b)).elim (fun hc21 => ?_) (fun hc21 => ?_)
  ·
    have hE23 := hE20.cast (env' := [(1, .v (.int .i64 v)), (3, .p 0 0), (9, .v (.bool true))]) (by rw [hc21])
    clear hE20
    refine go_rn [3, 4, 5, 6, 7] [8, 9, 10, 11, 12, 13] [(1, .v (.int .i64 v)), (3, .p 0 0), (14, .v (.bool (decide (x3 ≥ 0))))] hW15 hE23 fun a24 hE25 => ?_
    clear hE23
    refine (Bool.eq_false_or_eq_true (decide (x3 ≥ 0))).elim (fun hc26 => ?_) (fun hc26 => ?_)
    ·
      have hf27 := of_decide_eq_true hc26
      have hE28 := hE25.cast (env' := [(1, .v (.int .i64 v)), (3, .p 0 0), (14, .v (.bool true))]) (by rw [hc26])
      clear hE25
      refine go_rn [8, 9, 10, 11, 12, 13] [] [(6, .v (.bool (decide (v ≥ x3))))] hW15 hE28 fun a29 hE30 => ?_
      clear hE28
      refine wpOps_nil ?_
      refine then_normal ?_
      refine wp_ret ?_
      refine leave hE30 hW15.cells (v := .bool (decide (v ≥ x3))) (by kernel_rfl) ?_
      exact ⟨by simp only [Fld.nul, hc21, hc26, Bool.true_and, Bool.and_true, Bool.false_and, Bool.and_false, Bool.true_or, Bool.false_or, Bool.or_true, Bool.or_false], hW15.step⟩
    ·
      have hf31 := of_decide_eq_false hc26
      have hE32 := hE25.cast (env' := [(1, .v (.int .i64 v)), (3, .p 0 0), (14, .v (.bool false))]) (by rw [hc26])
      clear hE25
      refine go_rn [8, 9, 10, 11, 12, 13] [] [(6, .v (.bool false))] hW15 hE32 fun a33 hE34 => ?_
      clear hE32
      refine wpOps_nil ?_
      refine then_normal ?_
      refine wp_ret ?_
      refine leave hE34 hW15.cells (v := .bool false) (by kernel_rfl) ?_
      exact ⟨by simp only [Fld.nul, hc21, hc26, Bool.true_and, Bool.and_true, Bool.false_and, Bool.and_false, Bool.true_or, Bool.false_or, Bool.or_true, Bool.or_false], hW15.step⟩
  ·
    have hE36 := hE20.cast (env' := [(1, .v (.int .i64 v)), (3, .p 0 0), (9, .v (.bool false))]) (by rw [hc21])
    clear hE20
    refine go_rn [3, 4, 5, 6, 7, 8, 9, 10, 11, 12, 13] [] [(6, .v (.bool false))] hW15 hE36 fun a37 hE38 => ?_
    clear hE36
    refine wpOps_nil ?_
    refine then_normal ?_
    refine wp_ret ?_
    refine leave hE38 hW15.cells (v := .bool false) (by kernel_rfl) ?_
    exact ⟨by simp only [Fld.nul, hc21, Bool.true_and, Bool.and_true, Bool.false_and, Bool.and_false, Bool.true_or, Bool.false_or, Bool.or_true, Bool.or_false], hW15.step⟩

theorem sWidth (k : Int) (w : World) : Calls Tryz.prog 137 #[.int .i64 k] w (Gives w (.int .i64 ((widthI k : Nat) : Int))) := by
  refine enter (n := 11) Tryz.func137 rfl Tryz.ntmps137 (by kernel_rfl) fun a hE => ?_
  have hW := WOk.start w Nil
  refine go_sp [(0, .v (.int .i64 k))] hW hE fun a1 hE2 => ?_
  clear hE
  refine wp_seq ?_
  refine go_sp [(3, .v (.int .i64 k))] hW hE2 fun a3 hE4 => ?_
  clear hE2
  refine wp_block ?_
  refine go_sp [(3, .v (.int .i64 k)), (4, .v (.bool (k == 1)))] hW hE4 fun a5 hE6 => ?_
  clear hE4
  refine cond_of hE6 (b := k == 1) (by kernel_rfl) (fun hc7 => ?_) (fun hc7 => ?_)
  ·
    have hf8 : k = 1 := by simpa using hc7
    refine go_sp [(2, .v (.int .i64 1))] hW hE6 fun a9 hE10 => ?_
    clear hE6
    refine wp_ret ?_
    refine block_ret ?_
    refine then_ret ?_
    refine leave hE10 hW.cells (v := .int .i64 1) (by kernel_rfl) ?_
    exact ⟨by simp_all [widthI], hW.step⟩
  ·
    have hf11 : k ≠ 1 := by simpa using hc7
    refine wp_seq ?_
    refine go_sp [(3, .v (.int .i64 k)), (6, .v (.bool (k == 2)))] hW hE6 fun a12 hE13 => ?_
    clear hE6
    refine cond_of hE13 (b := k == 2) (by kernel_rfl) (fun hc14 => ?_) (fun hc14 => ?_)
    ·
      have hf15 : k = 2 := by simpa using hc14
      refine wp_skip ?_
      refine then_normal ?_
      refine cond_true hE13 (b := k == 2) (by kernel_rfl) (hc14) ?_
      refine go_sp [(2, .v (.int .i64 2))] hW hE13 fun a16 hE17 => ?_
      clear hE13
      refine wp_ret ?_
      refine block_ret ?_
      refine then_ret ?_
      refine leave hE17 hW.cells (v := .int .i64 2) (by kernel_rfl) ?_
      exact ⟨by simp_all [widthI], hW.step⟩
    ·
      have hf18 : k ≠ 2 := by simpa using hc14
      refine go_region [0, 1] (by kernel_rfl) ?_
      refine go_rn [0, 1] [] [(3, .v (.int .i64 k)), (6, .v (.bool (k == 5)))] hW hE13 fun a19 hE20 => ?_
      clear hE13
      refine wpOps_nil ?_
      refine then_normal ?_
      refine cond_of hE20 (b := k == 5) (by kernel_rfl) (fun hc21 => ?_) (fun hc21 => ?_)
      ·
        have hf22 : k = 5 := by simpa using hc21
        refine go_sp [(2, .v (.int .i64 2))] hW hE20 fun a23 hE24 => ?_
        clear hE20
        refine wp_ret ?_
        refine block_ret ?_
        refine then_ret ?_
        refine leave hE24 hW.cells (v := .int .i64 2) (by kernel_rfl) ?_
        exact ⟨by simp_all [widthI], hW.step⟩
      ·
        have hf25 : k ≠ 5 := by simpa using hc21
        refine go_sp [(9, .v (.bool (k == 3)))] hW hE20 fun a26 hE27 => ?_
        clear hE20
        refine cond_of hE27 (b := k == 3) (by kernel_rfl) (fun hc28 => ?_) (fun hc28 => ?_)
        ·
          have hf29 : k = 3 := by simpa using hc28
          refine go_sp [(2, .v (.int .i64 4))] hW hE27 fun a30 hE31 => ?_
          clear hE27
          refine wp_ret ?_
          refine block_ret ?_
          refine then_ret ?_
          refine leave hE31 hW.cells (v := .int .i64 4) (by kernel_rfl) ?_
          exact ⟨by simp_all [widthI], hW.step⟩
        ·
          have hf32 : k ≠ 3 := by simpa using hc28
          refine wp_skip ?_
          refine block_normal ?_
          refine then_normal ?_
          refine go_sp [(2, .v (.int .i64 8))] hW hE27 fun a33 hE34 => ?_
          clear hE27
          refine wp_ret ?_
          refine leave hE34 hW.cells (v := .int .i64 8) (by kernel_rfl) ?_
          exact ⟨by simp_all [widthI], hW.step⟩

theorem sWhole (A : Option Addr) (c : Nat) (s : Bs) (hc : s.length ≤ c) (w : World) :
    Calls Tryz.prog 88 #[.slice A s.length c] w (Gives w (.slice A (whole s).length c)) := by
  refine enter (n := 8) Tryz.func88 rfl Tryz.ntmps88 (by kernel_rfl) fun a hE => ?_
  have hW := WOk.start w Nil
  refine go_sp [(0, .v (.slice A s.length c))] hW hE fun a1 hE2 => ?_
  clear hE
  refine go_seq_region [0, 1, 2, 3, 4, 5] (by kernel_rfl) ?_
  refine go_rn [0, 1, 2, 3] [4, 5] [(3, .v (.slice A s.length c)), (6, .v (.int .i64 (if 32767 < ((s.length : Nat) : Int) then 32767 else ((s.length : Nat) : Int))))] hW hE2 fun a3 hE4 => ?_
  clear hE2
  refine of_op (wpOp_cut_hi hE4 (t := 22) (A := A) (m := s.length) (cp := c) (q := (if 32767 < ((s.length : Nat) : Int) then 32767 else ((s.length : Nat) : Int))) (d := 7) (j := (whole s).length) (by kernel_rfl) (e := 5) (size := 1) (bytes := 1) (by kernel_rfl) (by simpa [whole] using min_lit s.length) (by simp only [whole, List.length_take]; omega) fun a5 hE6 => ?_)
  clear hE4
  refine go_rn [5] [] [(2, .v (.slice A ((whole s).length) c))] hW hE6 fun a7 hE8 => ?_
  clear hE6
  refine wpOps_nil ?_
  refine then_normal ?_
  refine wp_ret ?_
  refine leave hE8 hW.cells (v := .slice A ((whole s).length) c) (by kernel_rfl) ?_
  exact ⟨rfl, hW.step⟩

theorem sThings (A : Option Addr) (c : Nat) (s : List Tree) (hc : s.length ≤ c) (w : World) :
    Calls Tryz.prog 139 #[.slice A s.length c] w (Gives w (.slice A (things s).length c)) := by
  refine enter (n := 8) Tryz.func139 rfl Tryz.ntmps139 (by kernel_rfl) fun a hE => ?_
  have hW := WOk.start w Nil
  refine go_sp [(0, .v (.slice A s.length c))] hW hE fun a1 hE2 => ?_
  clear hE
  refine go_seq_region [0, 1, 2, 3, 4, 5] (by kernel_rfl) ?_
  refine go_rn [0, 1, 2, 3] [4, 5] [(3, .v (.slice A s.length c)), (6, .v (.int .i64 (if 32767 < ((s.length : Nat) : Int) then 32767 else ((s.length : Nat) : Int))))] hW hE2 fun a3 hE4 => ?_
  clear hE2
  refine of_op (wpOp_cut_hi hE4 (t := 23) (A := A) (m := s.length) (cp := c) (q := (if 32767 < ((s.length : Nat) : Int) then 32767 else ((s.length : Nat) : Int))) (d := 7) (j := (things s).length) (by kernel_rfl) (e := 26) (size := 5) (bytes := 88) (by kernel_rfl) (by simpa [things] using min_lit s.length) (by simp only [things, List.length_take]; omega) fun a5 hE6 => ?_)
  clear hE4
  refine go_rn [5] [] [(2, .v (.slice A ((things s).length) c))] hW hE6 fun a7 hE8 => ?_
  clear hE6
  refine wpOps_nil ?_
  refine then_normal ?_
  refine wp_ret ?_
  refine leave hE8 hW.cells (v := .slice A ((things s).length) c) (by kernel_rfl) ?_
  exact ⟨rfl, hW.step⟩

theorem sSame (A A' : Option Addr) (c c' : Nat) (s t : Bs) (w : World) (F : Nat → Nat → Prop) (hs : Octs w F A c s) (ht : Octs w F A' c' t) :
    Calls Tryz.prog 16 #[.slice A s.length c, .slice A' t.length c'] w (Gives w (.bool (decide (s = t)))) := by
  refine enter (n := 26) Tryz.func16 rfl Tryz.ntmps16 (by kernel_rfl) fun a hE => ?_
  have hW := WOk.start w Nil
  have hl := Slots.small hs
  refine go_sp [(0, .v (.slice A s.length c)), (1, .v (.slice A' t.length c'))] hW hE fun a1 hE2 => ?_
  clear hE
  refine wp_seq ?_
  refine go_sp [(0, .v (.slice A s.length c)), (1, .v (.slice A' t.length c')), (10, .v (.bool (((s.length : Nat) : Int) != ((t.length : Nat) : Int))))] hW hE2 fun a3 hE4 => ?_
  clear hE2
  refine cond_of hE4 (b := ((s.length : Nat) : Int) != ((t.length : Nat) : Int)) (by kernel_rfl) (fun hc5 => ?_) (fun hc5 => ?_)
  ·
    have hf6 : ((s.length : Nat) : Int) ≠ ((t.length : Nat) : Int) := by simpa using hc5
    refine go_sp [(4, .v (.bool false))] hW hE4 fun a7 hE8 => ?_
    clear hE4
    refine wp_ret ?_
    refine then_ret ?_
    refine leave hE8 hW.cells (v := .bool false) (by kernel_rfl) ?_
    exact ⟨by first | rw [← same_end hq (by omega) hlen] | rw [← same_el (by assumption)] | rw [← same_len (by assumption)], hW.step⟩
  ·
    have hf9 : ((s.length : Nat) : Int) = ((t.length : Nat) : Int) := by simpa using hc5
    refine wp_skip ?_
    refine then_normal ?_
    refine wp_seq ?_
    refine go_sp [(0, .v (.slice A s.length c)), (1, .v (.slice A' t.length c')), (12, .v (.int .i64 ((s.length : Nat) : Int))), (13, .v (.int .i64 0))] hW hE4 fun a10 hE11 => ?_
    clear hE4
    refine wp_block ?_
    have hlen : s.length = t.length := by omega
    refine wp_loop_ghost (fun n_ a_ w_ => ∃ (k : Nat), n_ = s.length - k ∧ k ≤ s.length ∧ (s.take k = t.take k) ∧ LInv hW 26 [] [] [(0, .v (.slice A s.length c)), (1, .v (.slice A' t.length c')), (12, .v (.int .i64 ((s.length : Nat) : Int))), (13, .v (.int .i64 ((k : Nat) : Int)))] a_ w_) (s.length) ⟨0, by omega, by omega, rfl, hE11.pk, hW, Fr.refl _ _ _⟩ ?_
    clear hE11
    rintro n12 a13 w14 ⟨k, hn17, hk18, hq, hE15, hW16, hF19⟩
    refine go_sp [(0, .v (.slice A s.length c)), (1, .v (.slice A' t.length c')), (12, .v (.int .i64 ((s.length : Nat) : Int))), (13, .v (.int .i64 ((k : Nat) : Int))), (14, .v (.bool (decide (((k : Nat) : Int) < ((s.length : Nat) : Int)))))] hW16 hE15 fun a20 hE21 => ?_
    clear hE15
    refine wp_seq ?_
    refine cond_of hE21 (b := decide (((k : Nat) : Int) < ((s.length : Nat) : Int))) (by kernel_rfl) (fun hc22 => ?_) (fun hc22 => ?_)
    ·
      have hf23 := of_decide_eq_true hc22
      refine wp_skip ?_
      refine then_normal ?_
      refine wp_seq ?_
      refine wp_block ?_
      refine go_sp [(0, .v (.slice A s.length c)), (1, .v (.slice A' t.length c')), (5, .v (.int .i64 ((k : Nat) : Int))), (12, .v (.int .i64 ((s.length : Nat) : Int))), (13, .v (.int .i64 ((k : Nat) : Int)))] hW16 hE21 fun a24 hE25 => ?_
      clear hE21
      refine go_seq_drawQ (by kernel_rfl) hW16 fun w26 hF27 hW28 => ?_
      clear hW16
      refine go_rnD [0, 1, 4, 5] [(0, .v (.slice A s.length c)), (1, .v (.slice A' t.length c')), (12, .v (.int .i64 ((s.length : Nat) : Int))), (13, .v (.int .i64 ((k : Nat) : Int))), (16, .v (.slice A s.length c)), (17, .v (.int .i64 ((k : Nat) : Int))), (20, .v (.slice A' t.length c')), (21, .v (.int .i64 ((k : Nat) : Int)))] 5 (panicFree_then (panicFree_block (panicFree_then (panicFree_then (panicFree_block (panicFree_then panicFree_body)))))) (fun _ h => h ▸ hW28.cells) rfl hE25 fun a29 hE30 => ?_
      clear hE25
      obtain ⟨b31, o32, hA33, hl34, hat35⟩ := Slots.get hs (i := k) (by omega)
      refine takeC_index hE30 (i := 2) (t := 22) (A := A) (m := s.length) (q := ((k : Nat) : Int)) (d := 18) (by kernel_rfl) (e := 5) (size := 1) (bytes := 1) (by kernel_rfl) hA33 rfl (by omega) (by kernel_rfl) (by kernel_rfl) (panicFree_then (panicFree_block (panicFree_then (panicFree_then (panicFree_block (panicFree_then panicFree_body)))))) rfl fun a36 hE37 => ?_
      clear hE30
      refine takeC_load hE37 (i := 3) (t := 5) (b := b31) (o := o32 + k * 1) (d := 19) (by kernel_rfl) (cs := [.int .u8 ((s.getD k 0).toNat : Int)]) (v := .int .u8 ((s.getD k 0).toNat : Int)) (by kernel_rfl) (fun w' h' => h' ▸ (AtF.move hat35 hW28.step nilM keepF).at_) (by kernel_rfl) (by kernel_rfl) (panicFree_then (panicFree_block (panicFree_then (panicFree_then (panicFree_block (panicFree_then panicFree_body)))))) rfl fun a38 hE39 => ?_
      clear hE37
      obtain ⟨b40, o41, hA42, hl43, hat44⟩ := Slots.get ht (i := k) (by omega)
      refine takeC_index hE39 (i := 6) (t := 22) (A := A') (m := t.length) (q := ((k : Nat) : Int)) (d := 22) (by kernel_rfl) (e := 5) (size := 1) (bytes := 1) (by kernel_rfl) hA42 rfl (by omega) (by kernel_rfl) (by kernel_rfl) (panicFree_then (panicFree_block (panicFree_then (panicFree_then (panicFree_block (panicFree_then panicFree_body)))))) rfl fun a45 hE46 => ?_
      clear hE39
      refine takeC_load hE46 (i := 7) (t := 5) (b := b40) (o := o41 + k * 1) (d := 23) (by kernel_rfl) (cs := [.int .u8 ((t.getD k 0).toNat : Int)]) (v := .int .u8 ((t.getD k 0).toNat : Int)) (by kernel_rfl) (fun w' h' => h' ▸ (AtF.move hat44 hW28.step nilM keepF).at_) (by kernel_rfl) (by kernel_rfl) (panicFree_then (panicFree_block (panicFree_then (panicFree_then (panicFree_block (panicFree_then panicFree_body)))))) rfl fun a47 hE48 => ?_
      clear hE46
      refine go_rnD [8] [(0, .v (.slice A s.length c)), (1, .v (.slice A' t.length c')), (12, .v (.int .i64 ((s.length : Nat) : Int))), (13, .v (.int .i64 ((k : Nat) : Int))), (24, .v (.bool (((s.getD k 0).toNat : Int) != ((t.getD k 0).toNat : Int))))] 0 (panicFree_then (panicFree_block (panicFree_then (panicFree_then (panicFree_block (panicFree_then panicFree_body)))))) (fun _ h => h ▸ hW28.cells) rfl hE48 fun a49 hE50 => ?_
      clear hE48
      refine anyC_done (by kernel_rfl) ?_ _
      refine then_normal ?_
      refine cond_of hE50 (b := ((s.getD k 0).toNat : Int) != ((t.getD k 0).toNat : Int)) (by kernel_rfl) (fun hc51 => ?_) (fun hc51 => ?_)
      ·
        have hf52 : ((s.getD k 0).toNat : Int) ≠ ((t.getD k 0).toNat : Int) := by simpa using hc51
        refine go_sp [(4, .v (.bool false))] hW28 hE50 fun a53 hE54 => ?_
        clear hE50
        refine wp_ret ?_
        refine block_ret ?_
        refine then_ret ?_
        refine then_ret ?_
        refine block_ret ?_
        refine then_ret ?_
        refine leave hE54 hW28.cells (v := .bool false) (by kernel_rfl) ?_
        exact ⟨by first | rw [← same_end hq (by omega) hlen] | rw [← same_el (by assumption)] | rw [← same_len (by assumption)], hW28.step⟩
      ·
        have hf55 : ((s.getD k 0).toNat : Int) = ((t.getD k 0).toNat : Int) := by simpa using hc51
        refine wp_skip ?_
        refine block_normal ?_
        refine then_normal ?_
        refine go_region [0, 1] (by kernel_rfl) ?_
        refine go_rn [0, 1] [] [(0, .v (.slice A s.length c)), (1, .v (.slice A' t.length c')), (12, .v (.int .i64 ((s.length : Nat) : Int))), (13, .v (.int .i64 (IntKind.i64.wrap (((k : Nat) : Int) + 1))))] hW28 hE50 fun a56 hE57 => ?_
        clear hE50
        refine wpOps_nil ?_
        refine then_normal ?_
        have he58 : IntKind.i64.wrap (((k : Nat) : Int) + 1) = ((k + 1 : Nat) : Int) := wrap_succ (by omega)
        rw [he58] at hE57
        exact ⟨s.length - (k + 1), by omega, k + 1, rfl, by omega, take_step hq (by omega) hlen (by assumption), hE57.pk, hW28, (Fr.trans hF19 hF27)⟩
    ·
      have hf59 := of_decide_eq_false hc22
      refine wp_exit ?_
      refine then_exit ?_
      refine then_exit ?_
      refine block_exit ?_
      refine then_normal ?_
      refine go_sp [(4, .v (.bool true))] hW16 hE21 fun a60 hE61 => ?_
      clear hE21
      refine wp_ret ?_
      refine leave hE61 hW16.cells (v := .bool true) (by kernel_rfl) ?_
      exact ⟨by first | rw [← same_end hq (by omega) hlen] | rw [← same_el (by assumption)] | rw [← same_len (by assumption)], hW16.step⟩

theorem sAt (ct : List Value) (t : Tree) (i : Nat) (w : World) (F : Nat → Nat → Prop) (ht : TreeR w F ct t) :
    Calls Tryz.prog 82 #[.agg ct.toArray, .int .i64 (i : Int)] w (GivesO w F (t.at_ i)) := by
  obtain ⟨n1, s2, b3, l4, u5, A6, c7, A8, c9, A10, c11, xs12, rfl, rfl, h14, h15, h16, h17⟩ := ht.open_
  have hsm19 := h14.small
  have hsm20 := h15.small
  refine enter (n := 16) Tryz.func82 rfl Tryz.ntmps82 (by kernel_rfl) fun a hE => ?_
  have hW := WOk.start w Nil
  refine go_seq_region [0, 1] (by kernel_rfl) ?_
  refine of_op (wpOp_box hW hE (d := 2) (cs := [.int .i64 n1, .slice A6 s2.length c7, .bool b3, .slice A8 l4.length c9, .slice A10 u5.length c11]) (by kernel_rfl) fun b21 a22 w23 hb24 hz25 hF26 hW27 hE28 => ?_)
  clear hE hW
  refine of_op (wpOp_alloc hW27 hE28 (d := 4) (cs := [.int .i64 0, .slice none 0 0, .bool false, .slice none 0 0, .slice none 0 0]) (by kernel_rfl) fun b29 a30 w31 hb32 hz33 hF34 hW35 hE36 => ?_)
  clear hE28 hW27
  refine wpOps_nil ?_
  refine then_normal ?_
  refine wp_seq ?_
  refine go_sp [(1, .v (.int .i64 ((i : Nat) : Int))), (2, .p 0 0), (4, .p 1 0), (9, .v (.bool (decide (((i : Nat) : Int) < ((l4.length : Nat) : Int)))))] hW35 hE36 fun a37 hE38 => ?_
  clear hE36
  refine cond_of hE38 (b := decide (((i : Nat) : Int) < ((l4.length : Nat) : Int))) (by kernel_rfl) (fun hc39 => ?_) (fun hc39 => ?_)
  ·
    have hf40 := of_decide_eq_true hc39
    refine go_seq_region [0, 1, 2, 3, 4, 5] (by kernel_rfl) ?_
    refine go_rn [0, 1, 2] [3, 4, 5] [(4, .p 1 0), (11, .v (.slice A8 l4.length c9)), (12, .v (.int .i64 ((i : Nat) : Int)))] hW35 hE38 fun a41 hE42 => ?_
    clear hE38
    obtain ⟨b43, o44, hA45, hl46, hat47⟩ := Slots.get h15 (i := i) (by omega)
    obtain ⟨x48, he49⟩ : ∃ x, l4[i]? = some x := ⟨_, List.getElem?_eq_getElem (by omega)⟩
    have hr50 := h16 i x48 he49
    obtain ⟨n51, s52, b53, l54, u55, A56, c57, A58, c59, A60, c61, xs62, rfl, hcs63, h64, h65, h66, h67⟩ := hr50.open_
    rw [hcs63] at hr50
    have hsm69 := h64.small
    have hsm70 := h65.small
    rw [hcs63] at hat47
    refine of_op (wpOp_index hE42 (t := 23) (A := A8) (m := l4.length) (q := ((i : Nat) : Int)) (d := 13) (by kernel_rfl) (e := 26) (size := 5) (bytes := 88) (by kernel_rfl) hA45 rfl (by omega) fun a71 hE72 => ?_)
    clear hE42
    refine of_op (wpOp_load hE72 (t := 26) (b := b43) (o := o44 + i * 5) (d := 14) (by kernel_rfl) (cs := [.int .i64 n51, .slice A56 s52.length c57, .bool b53, .slice A58 l54.length c59, .slice A60 u55.length c61]) (v := .agg #[.int .i64 n51, .slice A56 s52.length c57, .bool b53, .slice A58 l54.length c59, .slice A60 u55.length c61]) (by kernel_rfl) (AtF.move hat47 hW35.step nilM keepF).at_ fun a73 hE74 => ?_)
    clear hE72
    refine of_op (wpOp_store hW35 hE74 (oi := 1) (cs := [.int .i64 n51, .slice A56 s52.length c57, .bool b53, .slice A58 l54.length c59, .slice A60 u55.length c61]) (by kernel_rfl) fun w75 hF76 hW77 hE78 => ?_)
    clear hE74 hW35
    refine wpOps_nil ?_
    refine then_normal ?_
    refine wp_ret ?_
    refine then_ret ?_
    refine leave hE78 hW77.cells (v := .agg #[.int .i64 n51, .slice A56 s52.length c57, .bool b53, .slice A58 l54.length c59, .slice A60 u55.length c61]) (by kernel_rfl) ?_
    exact ⟨_, rfl, by rw [at_some he49]; exact hr50, hW77.step⟩
  ·
    have hf79 := of_decide_eq_false hc39
    refine wp_skip ?_
    refine then_normal ?_
    refine go_seq_region [0, 1] (by kernel_rfl) ?_
    refine go_rn [0] [1] [(4, .p 1 0), (15, .v (.agg #[.int .i64 0, .slice none 0 0, .bool false, .slice none 0 0, .slice none 0 0]))] hW35 hE38 fun a80 hE81 => ?_
    clear hE38
    refine of_op (wpOp_store hW35 hE81 (oi := 1) (cs := [.int .i64 0, .slice none 0 0, .bool false, .slice none 0 0, .slice none 0 0]) (by kernel_rfl) fun w82 hF83 hW84 hE85 => ?_)
    clear hE81 hW35
    refine wpOps_nil ?_
    refine then_normal ?_
    refine wp_ret ?_
    refine leave hE85 hW84.cells (v := .agg #[.int .i64 0, .slice none 0 0, .bool false, .slice none 0 0, .slice none 0 0]) (by kernel_rfl) ?_
    exact ⟨_, rfl, by rw [at_none (by omega)]; exact TreeR.zero _ _, hW84.step⟩

theorem sFixed (x : Int) (size : Nat) (hsz : size ≤ 8) (w : World) :
    Calls Tryz.prog 136 #[.int .i64 x, .int .i64 ((size : Nat) : Int)] w (FreshB w 5 (be size x)) := by
  refine enter (n := 22) Tryz.func136 rfl Tryz.ntmps136 (by kernel_rfl) fun a hE => ?_
  have hW := WOk.start w Nil
  refine go_sp [(0, .v (.int .i64 x)), (1, .v (.int .i64 ((size : Nat) : Int)))] hW hE fun a1 hE2 => ?_
  clear hE
  refine go_sp [(0, .v (.int .i64 x)), (1, .v (.int .i64 ((size : Nat) : Int))), (5, .v (.slice none 0 0))] hW hE2 fun a3 hE4 => ?_
  clear hE2
  refine wp_seq ?_
  refine go_sp [(0, .v (.int .i64 x)), (5, .v (.slice none 0 0)), (6, .v (.int .i64 (IntKind.i64.wrap (((size : Nat) : Int) - 1))))] hW hE4 fun a5 hE6 => ?_
  clear hE4
  refine wp_block ?_
  have hW7 := hW.addNil 5 1
  have hF8 := hW.frNil 5 1
  clear hW
  have he17 : IntKind.i64.wrap (((size : Nat) : Int) - 1) = ((size : Nat) : Int) - 1 - ((0 : Nat) : Int) := by rw [wrap_i64 (by omega) (by omega)]; omega
  rw [he17] at hE6
  refine wp_loop_ghost (fun n_ a_ w_ => ∃ (k : Nat) (A : Option Addr) (c : Nat), n_ = size - k ∧ k ≤ size ∧ LInv hW7 22 [] [brow A c 5 ((be size x).take k)] [(0, .v (.int .i64 x)), (5, .v (.slice A (((be size x).take k).length) c)), (6, .v (.int .i64 (((size : Nat) : Int) - 1 - ((k : Nat) : Int))))] a_ w_) (size) ⟨0, none, 0, by omega, by omega, hE6.pk, hW7, Fr.refl _ _ _⟩ ?_
  clear hE6
  rintro n9 a10 w11 ⟨k, A, c, hn14, hk15, hE12, hW13, hF16⟩
  refine wp_seq ?_
  refine go_sp [(0, .v (.int .i64 x)), (5, .v (.slice A (((be size x).take k).length) c)), (6, .v (.int .i64 (((size : Nat) : Int) - 1 - ((k : Nat) : Int)))), (10, .v (.bool (decide ((((size : Nat) : Int) - 1 - ((k : Nat) : Int)) ≥ 0))))] hW13 hE12 fun a18 hE19 => ?_
  clear hE12
  refine cond_of hE19 (b := decide ((((size : Nat) : Int) - 1 - ((k : Nat) : Int)) ≥ 0)) (by kernel_rfl) (fun hc20 => ?_) (fun hc20 => ?_)
  ·
    have hf21 := of_decide_eq_true hc20
    refine wp_skip ?_
    refine then_normal ?_
    refine wp_seq ?_
    refine wp_block ?_
    refine go_region [0, 1, 2, 3, 4, 5, 6, 7, 8] (by kernel_rfl) ?_
    refine go_rn [0, 1, 2, 3] [4, 5, 6, 7, 8] [(0, .v (.int .i64 x)), (6, .v (.int .i64 (((size : Nat) : Int) - 1 - ((k : Nat) : Int)))), (13, .v (.slice A (((be size x).take k).length) c)), (14, .v (.int .i64 x)), (16, .v (.int .i64 (IntKind.i64.wrap (8 * (((size : Nat) : Int) - 1 - ((k : Nat) : Int))))))] hW13 hE19 fun a22 hE23 => ?_
    clear hE19
    refine of_op (wpOp_shr hE23 (k := .i64) (p := x) (q := (IntKind.i64.wrap (8 * (((size : Nat) : Int) - 1 - ((k : Nat) : Int))))) (d := 17) (j := 8 * (size - 1 - k)) (by kernel_rfl) (by rw [wrap_i64 (by omega) (by omega)]; omega) (by simp only [IntKind.bits]; omega) fun a24 hE25 => ?_)
    clear hE23
    refine go_rn [5] [6, 7, 8] [(0, .v (.int .i64 x)), (6, .v (.int .i64 (((size : Nat) : Int) - 1 - ((k : Nat) : Int)))), (13, .v (.slice A (((be size x).take k).length) c)), (18, .v (.int .u8 (IntKind.u8.wrap (x / 2 ^ (8 * (size - 1 - k))))))] hW13 hE25 fun a26 hE27 => ?_
    clear hE25
    refine wpOps_push hW13 hE27 (k := 0) (e := 5) (size := 1) (len := 1) (cs := [.int .u8 (IntKind.u8.wrap (x / 2 ^ (8 * (size - 1 - k))))]) (d1 := 19) (d := 20) (by kernel_rfl) (t := 22) (bytes := 1) (by kernel_rfl) (fun _ => by kernel_rfl) rfl (by kernel_rfl) (by first | (have := hroom; omega) | (simp; done) | (simp; omega)) fun A28 c29 a30 w31 hF32 hW33 ⟨_, hE34⟩ => ?_
    clear hE27 hW13
    have er35 : (⟨A28, c29, 5, 1, ((be size x).take k).length + 1, bc ((be size x).take k) ++ [.int .u8 (IntKind.u8.wrap (x / 2 ^ (8 * (size - 1 - k))))]⟩ : Rw) = brow A28 c29 5 ((be size x).take k ++ [by8 (x / 2 ^ (8 * (size - 1 - k)))]) := brow_eq (by simp only [bc, List.map, by8_wrap]; try rfl) rfl
    obtain ⟨hW36, hF38⟩ := hW33.rowEq 0 [brow A28 c29 5 ((be size x).take k ++ [by8 (x / 2 ^ (8 * (size - 1 - k)))])] er35
    clear hW33
    have hE39 := EnvOk.pick hE34 (ks := [0, 6, 13, 18, 20]) (env' := [(0, .v (.int .i64 x)), (6, .v (.int .i64 (((size : Nat) : Int) - 1 - ((k : Nat) : Int)))), (13, .v (.slice A (((be size x).take k).length) c)), (18, .v (.int .u8 (IntKind.u8.wrap (x / 2 ^ (8 * (size - 1 - k)))))), (20, .v (.slice A28 (((be size x).take k).length + 1) c29))]) (by kernel_rfl)
    have hE37 := hE39.cast (env' := [(0, .v (.int .i64 x)), (6, .v (.int .i64 (((size : Nat) : Int) - 1 - ((k : Nat) : Int)))), (13, .v (.slice A (((be size x).take k).length) c)), (18, .v (.int .u8 (IntKind.u8.wrap (x / 2 ^ (8 * (size - 1 - k)))))), (20, .v (.slice A28 (((be size x).take k ++ [by8 (x / 2 ^ (8 * (size - 1 - k)))]).length) c29))]) (by simp only [List.length_append, List.length_cons, List.length_nil, Nat.zero_add])
    clear hE34
    clear hE39
    refine go_rn [8] [] [(0, .v (.int .i64 x)), (5, .v (.slice A28 (((be size x).take k ++ [by8 (x / 2 ^ (8 * (size - 1 - k)))]).length) c29)), (6, .v (.int .i64 (((size : Nat) : Int) - 1 - ((k : Nat) : Int))))] hW36 hE37 fun a40 hE41 => ?_
    clear hE37
    refine wpOps_nil ?_
    refine block_normal ?_
    refine then_normal ?_
    refine go_region [0, 1, 2] (by kernel_rfl) ?_
    refine go_rn [0, 1, 2] [] [(0, .v (.int .i64 x)), (5, .v (.slice A28 (((be size x).take k ++ [by8 (x / 2 ^ (8 * (size - 1 - k)))]).length) c29)), (6, .v (.int .i64 (IntKind.i64.wrap ((((size : Nat) : Int) - 1 - ((k : Nat) : Int)) - 1))))] hW36 hE41 fun a42 hE43 => ?_
    clear hE41
    refine wpOps_nil ?_
    refine then_normal ?_
    have er44 : ((be size x).take k ++ [by8 (x / 2 ^ (8 * (size - 1 - k)))]) = ((be size x).take (k + 1)) := (be_take_succ (by omega)).symm
    have er45 := congrArg (brow A28 c29 5) er44
    obtain ⟨hW46, hF47⟩ := hW36.rowEq 0 [brow A28 c29 5 ((be size x).take (k + 1))] er45
    clear hW36
    rw [er44] at hE43
    have he48 : IntKind.i64.wrap ((((size : Nat) : Int) - 1 - ((k : Nat) : Int)) - 1) = ((size : Nat) : Int) - 1 - (((k + 1) : Nat) : Int) := by rw [wrap_i64 (by omega) (by omega)]; omega
    rw [he48] at hE43
    exact ⟨size - (k + 1), by omega, k + 1, A28, c29, rfl, by omega, hE43.pk, hW46, (Fr.trans (Fr.trans (Fr.trans hF16 hF32) hF38) hF47)⟩
  ·
    have hf49 := of_decide_eq_false hc20
    refine wp_exit ?_
    refine then_exit ?_
    refine then_exit ?_
    refine block_exit ?_
    refine then_normal ?_
    refine go_sp [(4, .v (.slice A (((be size x).take k).length) c))] hW13 hE19 fun a50 hE51 => ?_
    clear hE19
    refine wp_ret ?_
    refine leave hE51 hW13.cells (v := .slice A (((be size x).take k).length) c) (by kernel_rfl) ?_
    exact fresh_end hW13 (k := 0) rfl (List.take_of_length_le (by simp; omega))

theorem sUvarint (x : Nat) (hx : x < 18446744073709551616) (w : World) :
    Calls Tryz.prog 94 #[.int .u64 ((x : Nat) : Int)] w (FreshB w 5 (uv x)) := by
  refine enter (n := 20) Tryz.func94 rfl Tryz.ntmps94 (by kernel_rfl) fun a hE => ?_
  have hW := WOk.start w Nil
  refine go_sp [(0, .v (.int .u64 ((x : Nat) : Int)))] hW hE fun a1 hE2 => ?_
  clear hE
  refine go_sp [(0, .v (.int .u64 ((x : Nat) : Int))), (3, .v (.slice none 0 0))] hW hE2 fun a3 hE4 => ?_
  clear hE2
  refine wp_seq ?_
  refine wp_block ?_
  have hW5 := hW.addNil 5 1
  have hF6 := hW.frNil 5 1
  clear hW
  refine wp_loop_ghost (fun n_ a_ w_ => ∃ (A : Option Addr) (c : Nat) (pre : Bs) (m : Nat), n_ = m ∧ (pre ++ uv m = uv x) ∧ (m < 18446744073709551616) ∧ LInv hW5 20 [] [brow A c 5 pre] [(0, .v (.int .u64 ((m : Nat) : Int))), (3, .v (.slice A pre.length c))] a_ w_) (x) ⟨none, 0, [], x, rfl, rfl, hx, hE4.pk, hW5, Fr.refl _ _ _⟩ ?_
  clear hE4
  rintro n7 a8 w9 ⟨A, c, pre, m, hn12, hp, hm, hE10, hW11, hF13⟩
  refine wp_seq ?_
  refine go_sp [(0, .v (.int .u64 ((m : Nat) : Int))), (3, .v (.slice A pre.length c)), (5, .v (.bool (decide (((m : Nat) : Int) > 127))))] hW11 hE10 fun a14 hE15 => ?_
  clear hE10
  refine cond_of hE15 (b := decide (((m : Nat) : Int) > 127)) (by kernel_rfl) (fun hc16 => ?_) (fun hc16 => ?_)
  ·
    have hf17 := of_decide_eq_true hc16
    refine wp_skip ?_
    refine then_normal ?_
    refine wp_block ?_
    refine go_seq_region [0, 1, 2, 3, 4, 5, 6, 7] (by kernel_rfl) ?_
    refine go_rn [0, 1, 2, 3, 4] [5, 6, 7] [(0, .v (.int .u64 ((m : Nat) : Int))), (6, .v (.slice A pre.length c)), (10, .v (.int .u8 (IntKind.u8.wrap (BitVec.ofInt 8 (IntKind.u8.wrap (IntKind.u64.wrap (BitVec.ofInt 64 ((m : Nat) : Int) &&& BitVec.ofInt 64 127).toNat)) ||| BitVec.ofInt 8 128).toNat)))] hW11 hE15 fun a18 hE19 => ?_
    clear hE15
    refine wpOps_push hW11 hE19 (k := 0) (e := 5) (size := 1) (len := 1) (cs := [.int .u8 (IntKind.u8.wrap (BitVec.ofInt 8 (IntKind.u8.wrap (IntKind.u64.wrap (BitVec.ofInt 64 ((m : Nat) : Int) &&& BitVec.ofInt 64 127).toNat)) ||| BitVec.ofInt 8 128).toNat)]) (d1 := 11) (d := 12) (by kernel_rfl) (t := 22) (bytes := 1) (by kernel_rfl) (fun _ => by kernel_rfl) rfl (by kernel_rfl) (by have h1_ := uv_len10 x hx; rw [← hp, List.length_append] at h1_; omega) fun A20 c21 a22 w23 hF24 hW25 ⟨_, hE26⟩ => ?_
    clear hE19 hW11
    have er27 : (⟨A20, c21, 5, 1, pre.length + 1, bc pre ++ [.int .u8 (IntKind.u8.wrap (BitVec.ofInt 8 (IntKind.u8.wrap (IntKind.u64.wrap (BitVec.ofInt 64 ((m : Nat) : Int) &&& BitVec.ofInt 64 127).toNat)) ||| BitVec.ofInt 8 128).toNat)]⟩ : Rw) = brow A20 c21 5 (pre ++ [by8 (BitVec.ofInt 8 (IntKind.u8.wrap (IntKind.u64.wrap (BitVec.ofInt 64 ((m : Nat) : Int) &&& BitVec.ofInt 64 127).toNat)) ||| BitVec.ofInt 8 128).toNat]) := brow_eq (by simp only [bc, List.map, by8_wrap]; try rfl) rfl
    obtain ⟨hW28, hF30⟩ := hW25.rowEq 0 [brow A20 c21 5 (pre ++ [by8 (BitVec.ofInt 8 (IntKind.u8.wrap (IntKind.u64.wrap (BitVec.ofInt 64 ((m : Nat) : Int) &&& BitVec.ofInt 64 127).toNat)) ||| BitVec.ofInt 8 128).toNat])] er27
    clear hW25
    have hE31 := EnvOk.pick hE26 (ks := [0, 6, 10, 12]) (env' := [(0, .v (.int .u64 ((m : Nat) : Int))), (6, .v (.slice A pre.length c)), (10, .v (.int .u8 (IntKind.u8.wrap (BitVec.ofInt 8 (IntKind.u8.wrap (IntKind.u64.wrap (BitVec.ofInt 64 ((m : Nat) : Int) &&& BitVec.ofInt 64 127).toNat)) ||| BitVec.ofInt 8 128).toNat))), (12, .v (.slice A20 (pre.length + 1) c21))]) (by kernel_rfl)
    have hE29 := hE31.cast (env' := [(0, .v (.int .u64 ((m : Nat) : Int))), (6, .v (.slice A pre.length c)), (10, .v (.int .u8 (IntKind.u8.wrap (BitVec.ofInt 8 (IntKind.u8.wrap (IntKind.u64.wrap (BitVec.ofInt 64 ((m : Nat) : Int) &&& BitVec.ofInt 64 127).toNat)) ||| BitVec.ofInt 8 128).toNat))), (12, .v (.slice A20 ((pre ++ [by8 (BitVec.ofInt 8 (IntKind.u8.wrap (IntKind.u64.wrap (BitVec.ofInt 64 ((m : Nat) : Int) &&& BitVec.ofInt 64 127).toNat)) ||| BitVec.ofInt 8 128).toNat]).length) c21))]) (by simp only [List.length_append, List.length_cons, List.length_nil, Nat.zero_add])
    clear hE26
    clear hE31
    refine go_rn [7] [] [(0, .v (.int .u64 ((m : Nat) : Int))), (3, .v (.slice A20 ((pre ++ [by8 (BitVec.ofInt 8 (IntKind.u8.wrap (IntKind.u64.wrap (BitVec.ofInt 64 ((m : Nat) : Int) &&& BitVec.ofInt 64 127).toNat)) ||| BitVec.ofInt 8 128).toNat]).length) c21))] hW28 hE29 fun a32 hE33 => ?_
    clear hE29
    refine wpOps_nil ?_
    refine then_normal ?_
    refine go_region [0, 1, 2] (by kernel_rfl) ?_
    refine go_rn [0, 1, 2] [] [(0, .v (.int .u64 (Int.fdiv ((m : Nat) : Int) 128))), (3, .v (.slice A20 ((pre ++ [by8 (BitVec.ofInt 8 (IntKind.u8.wrap (IntKind.u64.wrap (BitVec.ofInt 64 ((m : Nat) : Int) &&& BitVec.ofInt 64 127).toNat)) ||| BitVec.ofInt 8 128).toNat]).length) c21))] hW28 hE33 fun a34 hE35 => ?_
    clear hE33
    refine wpOps_nil ?_
    refine block_normal ?_
    refine then_normal ?_
    have er36 : (pre ++ [by8 (BitVec.ofInt 8 (IntKind.u8.wrap (IntKind.u64.wrap (BitVec.ofInt 64 ((m : Nat) : Int) &&& BitVec.ofInt 64 127).toNat)) ||| BitVec.ofInt 8 128).toNat]) = (pre ++ [UInt8.ofNat (m % 128 + 128)]) := by rw [uv_oct64 m (by omega)]
    have er37 := congrArg (brow A20 c21 5) er36
    obtain ⟨hW38, hF39⟩ := hW28.rowEq 0 [brow A20 c21 5 (pre ++ [UInt8.ofNat (m % 128 + 128)])] er37
    clear hW28
    rw [er36] at hE35
    have he40 : Int.fdiv ((m : Nat) : Int) 128 = ((m / 128 : Nat) : Int) := fdiv128 m
    rw [he40] at hE35
    exact ⟨m / 128, by omega, A20, c21, pre ++ [UInt8.ofNat (m % 128 + 128)], m / 128, rfl, by rw [← hp, uv_big (show 128 ≤ m by omega)]; simp, by omega, hE35.pk, hW38, (Fr.trans (Fr.trans (Fr.trans hF13 hF24) hF30) hF39)⟩
  ·
    have hf41 := of_decide_eq_false hc16
    refine wp_exit ?_
    refine then_exit ?_
    refine then_exit ?_
    refine block_exit ?_
    refine then_normal ?_
    refine go_seq_region [0, 1, 2, 3, 4, 5] (by kernel_rfl) ?_
    refine go_rn [0, 1, 2] [3, 4, 5] [(15, .v (.slice A pre.length c)), (17, .v (.int .u8 (IntKind.u8.wrap ((m : Nat) : Int))))] hW11 hE15 fun a42 hE43 => ?_
    clear hE15
    refine wpOps_push hW11 hE43 (k := 0) (e := 5) (size := 1) (len := 1) (cs := [.int .u8 (IntKind.u8.wrap ((m : Nat) : Int))]) (d1 := 18) (d := 19) (by kernel_rfl) (t := 22) (bytes := 1) (by kernel_rfl) (fun _ => by kernel_rfl) rfl (by kernel_rfl) (by have h1_ := uv_len10 x hx; rw [← hp, List.length_append] at h1_; omega) fun A44 c45 a46 w47 hF48 hW49 ⟨_, hE50⟩ => ?_
    clear hE43 hW11
    have er51 : (⟨A44, c45, 5, 1, pre.length + 1, bc pre ++ [.int .u8 (IntKind.u8.wrap ((m : Nat) : Int))]⟩ : Rw) = brow A44 c45 5 (pre ++ [by8 ((m : Nat) : Int)]) := brow_eq (by simp only [bc, List.map, by8_wrap]; try rfl) rfl
    obtain ⟨hW52, hF54⟩ := hW49.rowEq 0 [brow A44 c45 5 (pre ++ [by8 ((m : Nat) : Int)])] er51
    clear hW49
    have hE55 := EnvOk.pick hE50 (ks := [15, 17, 19]) (env' := [(15, .v (.slice A pre.length c)), (17, .v (.int .u8 (IntKind.u8.wrap ((m : Nat) : Int)))), (19, .v (.slice A44 (pre.length + 1) c45))]) (by kernel_rfl)
    have hE53 := hE55.cast (env' := [(15, .v (.slice A pre.length c)), (17, .v (.int .u8 (IntKind.u8.wrap ((m : Nat) : Int)))), (19, .v (.slice A44 ((pre ++ [by8 ((m : Nat) : Int)]).length) c45))]) (by simp only [List.length_append, List.length_cons, List.length_nil, Nat.zero_add])
    clear hE50
    clear hE55
    refine go_rn [5] [] [(2, .v (.slice A44 ((pre ++ [by8 ((m : Nat) : Int)]).length) c45))] hW52 hE53 fun a56 hE57 => ?_
    clear hE53
    refine wpOps_nil ?_
    refine then_normal ?_
    refine wp_ret ?_
    refine leave hE57 hW52.cells (v := .slice A44 ((pre ++ [by8 ((m : Nat) : Int)]).length) c45) (by kernel_rfl) ?_
    exact fresh_end hW52 (k := 0) rfl (by rw [← hp, uv_small (show m < 128 by omega), by8_nat])

theorem sCounted (flex null : Bool) (m sz : Nat) (hm : m ≤ 1099511627776) (hsz : sz ≤ 8) (w : World) :
    Calls Tryz.prog 141 #[.bool flex, .bool null, .int .i64 ((m : Nat) : Int), .int .i64 ((sz : Nat) : Int)] w (FreshB w 5 (countedB flex null m sz)) := by
  refine enter (n := 28) Tryz.func141 rfl Tryz.ntmps141 (by kernel_rfl) fun a hE => ?_
  have hW := WOk.start w Nil
  refine go_sp [(0, .v (.bool flex)), (1, .v (.bool null)), (2, .v (.int .i64 ((m : Nat) : Int))), (3, .v (.int .i64 ((sz : Nat) : Int)))] hW hE fun a1 hE2 => ?_
  clear hE
  refine wp_seq ?_
  refine wp_block ?_
  refine go_seq_region [0, 1, 2, 3, 4] (by kernel_rfl) ?_
  refine go_rn [0, 1] [2, 3, 4] [(0, .v (.bool flex)), (1, .v (.bool null)), (2, .v (.int .i64 ((m : Nat) : Int))), (3, .v (.int .i64 ((sz : Nat) : Int))), (11, .v (.bool flex))] hW hE2 fun a3 hE4 => ?_
  clear hE2
  refine (Bool.eq_false_or_eq_true (flex)).elim (fun hc5 => ?_) (fun hc5 => ?_)
  ·
    have hE7 := hE4.cast (env' := [(0, .v (.bool true)), (1, .v (.bool null)), (2, .v (.int .i64 ((m : Nat) : Int))), (3, .v (.int .i64 ((sz : Nat) : Int))), (11, .v (.bool true))]) (by rw [hc5])
    clear hE4
    refine go_rn [2, 3, 4] [] [(0, .v (.bool true)), (1, .v (.bool null)), (2, .v (.int .i64 ((m : Nat) : Int))), (3, .v (.int .i64 ((sz : Nat) : Int))), (9, .v (.bool null))] hW hE7 fun a8 hE9 => ?_
    clear hE7
    refine wpOps_nil ?_
    refine then_normal ?_
    refine cond_of hE9 (b := null) (by kernel_rfl) (fun hc10 => ?_) (fun hc10 => ?_)
    ·
      refine go_seq_region [0, 1] (by kernel_rfl) ?_
      refine of_op (wpOp_lit hW hE9 (e := 5) (size := 1) (len := 1) (cs := [.int .u8 0]) (d := 14) (by kernel_rfl) (by kernel_rfl) fun b12 a13 w14 hb15 hz16 hF17 hW18 hE19 => ?_)
      clear hE9 hW
      have er20 : (⟨some ⟨b12, 0, none⟩, 1, 5, 1, 1, [.int .u8 0]⟩ : Rw) = brow (some ⟨b12, 0, none⟩) 1 5 [by8 0] := by first | rfl | (simp only [brow, bc, List.map, by8_wrap]; try rfl)
      obtain ⟨hW21, hF23⟩ := hW18.rowEq 0 [brow (some ⟨b12, 0, none⟩) 1 5 [by8 0]] er20
      clear hW18
      have hE25 := EnvOk.pick hE19 (ks := [0, 1, 2, 3, 9, 14]) (env' := [(0, .v (.bool true)), (1, .v (.bool null)), (2, .v (.int .i64 ((m : Nat) : Int))), (3, .v (.int .i64 ((sz : Nat) : Int))), (9, .v (.bool null)), (14, .v (.slice (some ⟨b12, 0, none⟩) 1 1))]) (by kernel_rfl)
      have hE24 := hE25.cast (env' := [(0, .v (.bool true)), (1, .v (.bool null)), (2, .v (.int .i64 ((m : Nat) : Int))), (3, .v (.int .i64 ((sz : Nat) : Int))), (9, .v (.bool null)), (14, .v (.slice (some ⟨b12, 0, none⟩) ([by8 0].length) 1))]) rfl
      clear hE19 hE25
      refine go_rn [1] [] [(8, .v (.slice (some ⟨b12, 0, none⟩) ([by8 0].length) 1))] hW21 hE24 fun a26 hE27 => ?_
      clear hE24
      refine wpOps_nil ?_
      refine then_normal ?_
      refine wp_ret ?_
      refine block_ret ?_
      refine then_ret ?_
      refine leave hE27 hW21.cells (v := .slice (some ⟨b12, 0, none⟩) ([by8 0].length) 1) (by kernel_rfl) ?_
      exact fresh_end hW21 (k := 0) rfl (by simp [countedB, hc5, hc10]; try rfl)
    ·
      refine go_sp [(1, .v (.bool null)), (2, .v (.int .i64 ((m : Nat) : Int))), (3, .v (.int .i64 ((sz : Nat) : Int))), (15, .v (.bool true))] hW hE9 fun a29 hE30 => ?_
      clear hE9
      refine cond_true hE30 (b := true) (by kernel_rfl) rfl ?_
      refine go_seq_region [0, 1, 2, 3, 4] (by kernel_rfl) ?_
      refine go_rn [0, 1, 2] [3, 4] [(19, .v (.int .u64 (IntKind.u64.wrap ((IntKind.u64.wrap ((m : Nat) : Int)) + 1))))] hW hE30 fun a31 hE32 => ?_
      clear hE30
      have he33 : IntKind.u64.wrap ((IntKind.u64.wrap ((m : Nat) : Int)) + 1) = ((m + 1 : Nat) : Int) := by simp only [wrap_u64, wrap_u32, wrap_u16, IntKind.wrap_i64, IntKind.wrap_i32]; omega
      have hE35 := EnvOk.pick hE32 (ks := [19]) (env' := [(19, .v (.int .u64 (IntKind.u64.wrap ((IntKind.u64.wrap ((m : Nat) : Int)) + 1))))]) (by kernel_rfl)
      have hE34 := hE35.cast (env' := [(19, .v (.int .u64 ((m + 1 : Nat) : Int)))]) (by rw [he33])
      clear hE32 hE35
      refine of_op (wpOp_call hE34 (f := 94) (vs := [.int .u64 ((m + 1 : Nat) : Int)]) (d := 20) (by kernel_rfl) Tryz.call94 (sUvarint (m + 1) (by omega) _) ?_)
      rintro e_ w40 ⟨A38, c39, rfl, ho37, hs36⟩
      refine ⟨_, rfl, fun a41 hE42 => ?_⟩
      obtain ⟨hW43, hF44⟩ := hW.frFresh hs36 (brow A38 c39 5 (uv (m + 1))) (Nat.le_refl _) ho37
      clear hE34 hW
      refine go_rn [4] [] [(8, .v (.slice A38 ((uv (m + 1)).length) c39))] hW43 hE42 fun a45 hE46 => ?_
      clear hE42
      refine wpOps_nil ?_
      refine then_normal ?_
      refine wp_ret ?_
      refine block_ret ?_
      refine then_ret ?_
      refine leave hE46 hW43.cells (v := .slice A38 ((uv (m + 1)).length) c39) (by kernel_rfl) ?_
      exact fresh_end hW43 (k := 0) rfl (by simp [countedB, hc5, hc10]; try rfl)
  ·
    have hE48 := hE4.cast (env' := [(0, .v (.bool false)), (1, .v (.bool null)), (2, .v (.int .i64 ((m : Nat) : Int))), (3, .v (.int .i64 ((sz : Nat) : Int))), (11, .v (.bool false))]) (by rw [hc5])
    clear hE4
    refine go_rn [2, 3, 4] [] [(0, .v (.bool false)), (1, .v (.bool null)), (2, .v (.int .i64 ((m : Nat) : Int))), (3, .v (.int .i64 ((sz : Nat) : Int))), (9, .v (.bool false))] hW hE48 fun a49 hE50 => ?_
    clear hE48
    refine wpOps_nil ?_
    refine then_normal ?_
    refine cond_false hE50 (b := false) (by kernel_rfl) rfl ?_
    refine go_sp [(1, .v (.bool null)), (2, .v (.int .i64 ((m : Nat) : Int))), (3, .v (.int .i64 ((sz : Nat) : Int))), (15, .v (.bool false))] hW hE50 fun a51 hE52 => ?_
    clear hE50
    refine cond_false hE52 (b := false) (by kernel_rfl) rfl ?_
    refine go_sp [(2, .v (.int .i64 ((m : Nat) : Int))), (3, .v (.int .i64 ((sz : Nat) : Int))), (21, .v (.bool null))] hW hE52 fun a53 hE54 => ?_
    clear hE52
    refine cond_of hE54 (b := null) (by kernel_rfl) (fun hc55 => ?_) (fun hc55 => ?_)
    ·
      refine go_seq_region [0, 1, 2] (by kernel_rfl) ?_
      refine go_rn [0] [1, 2] [(23, .v (.int .i64 ((sz : Nat) : Int)))] hW hE54 fun a57 hE58 => ?_
      clear hE54
      refine of_op (wpOp_call hE58 (f := 136) (vs := [.int .i64 (-1), .int .i64 ((sz : Nat) : Int)]) (d := 24) (by kernel_rfl) Tryz.call136 (sFixed (-1) sz (by first | decide | exact widthI_le _ | omega) _) ?_)
      rintro e_ w63 ⟨A61, c62, rfl, ho60, hs59⟩
      refine ⟨_, rfl, fun a64 hE65 => ?_⟩
      obtain ⟨hW66, hF67⟩ := hW.frFresh hs59 (brow A61 c62 5 (be sz (-1))) (Nat.le_refl _) ho60
      clear hE58 hW
      refine go_rn [2] [] [(8, .v (.slice A61 ((be sz (-1)).length) c62))] hW66 hE65 fun a68 hE69 => ?_
      clear hE65
      refine wpOps_nil ?_
      refine then_normal ?_
      refine wp_ret ?_
      refine block_ret ?_
      refine then_ret ?_
      refine leave hE69 hW66.cells (v := .slice A61 ((be sz (-1)).length) c62) (by kernel_rfl) ?_
      exact fresh_end hW66 (k := 0) rfl (by simp [countedB, hc5, hc55]; try rfl)
    ·
      refine wp_skip ?_
      refine block_normal ?_
      refine then_normal ?_
      refine go_seq_region [0, 1, 2, 3] (by kernel_rfl) ?_
      refine go_rn [0, 1] [2, 3] [(25, .v (.int .i64 ((m : Nat) : Int))), (26, .v (.int .i64 ((sz : Nat) : Int)))] hW hE54 fun a71 hE72 => ?_
      clear hE54
      refine of_op (wpOp_call hE72 (f := 136) (vs := [.int .i64 ((m : Nat) : Int), .int .i64 ((sz : Nat) : Int)]) (d := 27) (by kernel_rfl) Tryz.call136 (sFixed ((m : Nat) : Int) sz (by first | decide | exact widthI_le _ | omega) _) ?_)
      rintro e_ w77 ⟨A75, c76, rfl, ho74, hs73⟩
      refine ⟨_, rfl, fun a78 hE79 => ?_⟩
      obtain ⟨hW80, hF81⟩ := hW.frFresh hs73 (brow A75 c76 5 (be sz ((m : Nat) : Int))) (Nat.le_refl _) ho74
      clear hE72 hW
      refine go_rn [3] [] [(8, .v (.slice A75 ((be sz ((m : Nat) : Int)).length) c76))] hW80 hE79 fun a82 hE83 => ?_
      clear hE79
      refine wpOps_nil ?_
      refine then_normal ?_
      refine wp_ret ?_
      refine leave hE83 hW80.cells (v := .slice A75 ((be sz ((m : Nat) : Int)).length) c76) (by kernel_rfl) ?_
      exact fresh_end hW80 (k := 0) rfl (by simp [countedB, hc5, hc55]; try rfl)

theorem sKnown (A : Option Addr) (c : Nat) (l : List Fld) (w : World) (F : Nat → Nat → Prop) (hl : FldsR w F A c l) :
    Calls Tryz.prog 93 #[.slice A l.length c] w (Gives w (.int .u32 (knownI l))) := by
  obtain ⟨xfs, h1, h2⟩ := hl.ex
  have hsm := h1.small
  refine enter (n := 23) Tryz.func93 rfl Tryz.ntmps93 (by kernel_rfl) fun a hE => ?_
  have hW := WOk.start w Nil
  refine go_sp [(0, .v (.slice A l.length c))] hW hE fun a1 hE2 => ?_
  clear hE
  refine go_sp [(0, .v (.slice A l.length c)), (3, .v (.int .u32 0))] hW hE2 fun a3 hE4 => ?_
  clear hE2
  refine wp_seq ?_
  refine go_sp [(3, .v (.int .u32 0)), (6, .v (.slice A l.length c)), (7, .v (.int .i64 ((l.length : Nat) : Int))), (8, .v (.int .i64 0))] hW hE4 fun a5 hE6 => ?_
  clear hE4
  refine wp_block ?_
  refine wp_loop_ghost (fun n_ a_ w_ => ∃ (k : Nat), n_ = l.length - k ∧ k ≤ l.length ∧ LInv hW 23 [] [] [(3, .v (.int .u32 (knownI (l.take k)))), (6, .v (.slice A l.length c)), (7, .v (.int .i64 ((l.length : Nat) : Int))), (8, .v (.int .i64 ((k : Nat) : Int)))] a_ w_) (l.length) ⟨0, by omega, by omega, hE6.pk, hW, Fr.refl _ _ _⟩ ?_
  clear hE6
  rintro n7 a8 w9 ⟨k, hn12, hk13, hE10, hW11, hF14⟩
  refine go_sp [(3, .v (.int .u32 (knownI (l.take k)))), (6, .v (.slice A l.length c)), (7, .v (.int .i64 ((l.length : Nat) : Int))), (8, .v (.int .i64 ((k : Nat) : Int))), (9, .v (.bool (decide (((k : Nat) : Int) < ((l.length : Nat) : Int)))))] hW11 hE10 fun a15 hE16 => ?_
  clear hE10
  refine wp_seq ?_
  refine cond_of hE16 (b := decide (((k : Nat) : Int) < ((l.length : Nat) : Int))) (by kernel_rfl) (fun hc17 => ?_) (fun hc17 => ?_)
  ·
    have hf18 := of_decide_eq_true hc17
    refine wp_skip ?_
    refine then_normal ?_
    refine wp_seq ?_
    refine wp_block ?_
    refine go_seq_region [0, 1, 2, 3] (by kernel_rfl) ?_
    obtain ⟨b19, o20, hA21, hl22, hat23⟩ := Slots.get h1 (i := k) (by omega)
    obtain ⟨x24, he25⟩ : ∃ x, l[k]? = some x := ⟨_, List.getElem?_eq_getElem (by omega)⟩
    have hr26 := h2 k x24 he25
    obtain ⟨k27, y28, y29, y30, y31, y32, y33, l34, A35, c36, xs37, rfl, hcs38, h39, h40⟩ := hr26.open_
    rw [hcs38] at hr26
    have hsm41 := h39.small
    rw [hcs38] at hat23
    refine of_op (wpOp_index hE16 (t := 29) (A := A) (m := l.length) (q := ((k : Nat) : Int)) (d := 10) (by kernel_rfl) (e := 56) (size := 8) (bytes := 80) (by kernel_rfl) hA21 rfl (by omega) fun a42 hE43 => ?_)
    clear hE16
    refine of_op (wpOp_load hE43 (t := 56) (b := b19) (o := o20 + k * 8) (d := 11) (by kernel_rfl) (cs := [.int .i64 k27, .int .i64 y28, .int .i64 y29, .int .i64 y30, .int .i64 y31, .int .i64 y32, .int .i64 y33, .slice A35 l34.length c36]) (v := .agg #[.int .i64 k27, .int .i64 y28, .int .i64 y29, .int .i64 y30, .int .i64 y31, .int .i64 y32, .int .i64 y33, .slice A35 l34.length c36]) (by kernel_rfl) (AtF.move hat23 hW11.step nilM keepF).at_ fun a44 hE45 => ?_)
    clear hE43
    refine of_op (wpOp_alloc hW11 hE45 (d := 5) (cs := [.int .i64 0, .int .i64 0, .int .i64 0, .int .i64 0, .int .i64 0, .int .i64 0, .int .i64 0, .slice none 0 0]) (by kernel_rfl) fun b46 a47 w48 hb49 hz50 hF51 hW52 hE53 => ?_)
    clear hE45 hW11
    refine of_op (wpOp_store hW52 hE53 (oi := 0) (cs := [.int .i64 k27, .int .i64 y28, .int .i64 y29, .int .i64 y30, .int .i64 y31, .int .i64 y32, .int .i64 y33, .slice A35 l34.length c36]) (by kernel_rfl) fun w54 hF55 hW56 hE57 => ?_)
    clear hE53 hW52
    refine wpOps_nil ?_
    refine then_normal ?_
    refine go_sp [(3, .v (.int .u32 (knownI (l.take k)))), (5, .p 0 0), (6, .v (.slice A l.length c)), (7, .v (.int .i64 ((l.length : Nat) : Int))), (8, .v (.int .i64 ((k : Nat) : Int))), (14, .v (.bool (decide (y31 ≥ 0))))] hW56 hE57 fun a58 hE59 => ?_
    clear hE57
    refine cond_of hE59 (b := decide (y31 ≥ 0)) (by kernel_rfl) (fun hc60 => ?_) (fun hc60 => ?_)
    ·
      have hf61 := of_decide_eq_true hc60
      refine go_region [0, 1, 2, 3, 4, 5, 6] (by kernel_rfl) ?_
      refine go_rn [0, 1, 2, 3, 4, 5, 6] [] [(3, .v (.int .u32 (if IntKind.u32.wrap ((IntKind.u32.wrap y31) + 1) > knownI (l.take k) then IntKind.u32.wrap ((IntKind.u32.wrap y31) + 1) else knownI (l.take k)))), (6, .v (.slice A l.length c)), (7, .v (.int .i64 ((l.length : Nat) : Int))), (8, .v (.int .i64 ((k : Nat) : Int)))] hW56 hE59 fun a62 hE63 => ?_
      clear hE59
      refine wpOps_nil ?_
      refine block_normal ?_
      refine then_normal ?_
      refine go_region [0, 1] (by kernel_rfl) ?_
      refine go_rn [0, 1] [] [(3, .v (.int .u32 (if IntKind.u32.wrap ((IntKind.u32.wrap y31) + 1) > knownI (l.take k) then IntKind.u32.wrap ((IntKind.u32.wrap y31) + 1) else knownI (l.take k)))), (6, .v (.slice A l.length c)), (7, .v (.int .i64 ((l.length : Nat) : Int))), (8, .v (.int .i64 (IntKind.i64.wrap (((k : Nat) : Int) + 1))))] hW56 hE63 fun a64 hE65 => ?_
      clear hE63
      refine wpOps_nil ?_
      refine then_normal ?_
      obtain ⟨hE66, hW67, hF68⟩ := hW56.cutB hE65 0 [] [(3, .v (.int .u32 (if IntKind.u32.wrap ((IntKind.u32.wrap y31) + 1) > knownI (l.take k) then IntKind.u32.wrap ((IntKind.u32.wrap y31) + 1) else knownI (l.take k)))), (6, .v (.slice A l.length c)), (7, .v (.int .i64 ((l.length : Nat) : Int))), (8, .v (.int .i64 (IntKind.i64.wrap (((k : Nat) : Int) + 1))))]
      have he69 : IntKind.i64.wrap (((k : Nat) : Int) + 1) = ((k + 1 : Nat) : Int) := wrap_succ (by omega)
      rw [he69] at hE66
      have he70 : (if IntKind.u32.wrap ((IntKind.u32.wrap y31) + 1) > knownI (l.take k) then IntKind.u32.wrap ((IntKind.u32.wrap y31) + 1) else knownI (l.take k)) = knownI (l.take (k + 1)) := known_pos he25 hf61
      rw [he70] at hE66
      exact ⟨l.length - (k + 1), by omega, k + 1, rfl, by omega, hE66.pk, hW67, (Fr.trans (Fr.trans (Fr.trans hF14 hF51) hF55) hF68)⟩
    ·
      have hf71 := of_decide_eq_false hc60
      refine wp_skip ?_
      refine block_normal ?_
      refine then_normal ?_
      refine go_region [0, 1] (by kernel_rfl) ?_
      refine go_rn [0, 1] [] [(3, .v (.int .u32 (knownI (l.take k)))), (6, .v (.slice A l.length c)), (7, .v (.int .i64 ((l.length : Nat) : Int))), (8, .v (.int .i64 (IntKind.i64.wrap (((k : Nat) : Int) + 1))))] hW56 hE59 fun a72 hE73 => ?_
      clear hE59
      refine wpOps_nil ?_
      refine then_normal ?_
      obtain ⟨hE74, hW75, hF76⟩ := hW56.cutB hE73 0 [] [(3, .v (.int .u32 (knownI (l.take k)))), (6, .v (.slice A l.length c)), (7, .v (.int .i64 ((l.length : Nat) : Int))), (8, .v (.int .i64 (IntKind.i64.wrap (((k : Nat) : Int) + 1))))]
      have he77 : IntKind.i64.wrap (((k : Nat) : Int) + 1) = ((k + 1 : Nat) : Int) := wrap_succ (by omega)
      rw [he77] at hE74
      have he78 : knownI (l.take k) = knownI (l.take (k + 1)) := known_neg he25 hf71
      rw [he78] at hE74
      exact ⟨l.length - (k + 1), by omega, k + 1, rfl, by omega, hE74.pk, hW75, (Fr.trans (Fr.trans (Fr.trans hF14 hF51) hF55) hF76)⟩
  ·
    have hf79 := of_decide_eq_false hc17
    refine wp_exit ?_
    refine then_exit ?_
    refine then_exit ?_
    refine block_exit ?_
    refine then_normal ?_
    refine go_sp [(2, .v (.int .u32 (knownI (l.take k))))] hW11 hE16 fun a80 hE81 => ?_
    clear hE16
    refine wp_ret ?_
    refine leave hE81 hW11.cells (v := .int .u32 (knownI (l.take k))) (by kernel_rfl) ?_
    exact ⟨by rw [List.take_of_length_le (by omega)], hW11.step⟩

/-- the writing of a part whose fields are at most d deep -/
def PartOK (d : Nat) : Prop := ∀ (A : Option Addr) (c : Nat) (l : List Fld) (v : Int) (flex : Bool) (ct : List Value) (t : Tree) (w : World) (F : Nat → Nat → Prop), FldsR w F A c l → depths l ≤ d → TreeR w F ct t → (partB d l v flex t).length ≤ 1099511627776 →
    Calls Tryz.prog 42 #[.slice A l.length c, .int .i64 v, .bool flex, .agg ct.toArray] w (FreshB w 5 (partB d l v flex t))

theorem sValue {d : Nat} (hp : PartOK d) (kind : Int) (A : Option Addr) (c : Nat) (l : List Fld) (null : Bool) (v : Int) (flex : Bool) (ct : List Value) (t : Tree) (w : World) (F : Nat → Nat → Prop) (hl : FldsR w F A c l) (hd : depths l ≤ d) (ht : TreeR w F ct t) (hroom : (valueB (partB d l v flex) kind null flex t).length ≤ 1099511627776) :
    Calls Tryz.prog 142 #[.int .i64 kind, .slice A l.length c, .bool null, .int .i64 v, .bool flex, .agg ct.toArray] w (FreshB w 5 (valueB (partB d l v flex) kind null flex t)) := by
  obtain ⟨n1, s2, b3, l4, u5, A6, c7, A8, c9, A10, c11, xs12, rfl, rfl, h14, h15, h16, h17⟩ := ht.open_
  have hsm19 := h14.small
  have hsm20 := h15.small
  have hl0 := hl
  obtain ⟨xfs, h1, h2⟩ := hl.ex
  have hsm := h1.small
  refine enter (n := 70) Tryz.func142 rfl Tryz.ntmps142 (by kernel_rfl) fun a hE => ?_
  have hW := WOk.start w Nil
  refine go_seq_region [0, 1] (by kernel_rfl) ?_
  refine of_op (wpOp_box hW hE (d := 11) (cs := [.int .i64 n1, .slice A6 s2.length c7, .bool b3, .slice A8 l4.length c9, .slice A10 u5.length c11]) (by kernel_rfl) fun b21 a22 w23 hb24 hz25 hF26 hW27 hE28 => ?_)
  clear hE hW
  refine go_rn [1] [] [(0, .v (.int .i64 kind)), (1, .v (.slice A l.length c)), (2, .v (.bool null)), (3, .v (.int .i64 v)), (4, .v (.bool flex)), (11, .p 0 0)] hW27 hE28 fun a29 hE30 => ?_
  clear hE28
  refine wpOps_nil ?_
  refine then_normal ?_
  refine wp_seq ?_
  refine go_sp [(0, .v (.int .i64 kind)), (1, .v (.slice A l.length c)), (2, .v (.bool null)), (3, .v (.int .i64 v)), (4, .v (.bool flex)), (11, .p 0 0), (16, .v (.int .i64 kind))] hW27 hE30 fun a31 hE32 => ?_
  clear hE30
  refine wp_block ?_
  refine go_sp [(0, .v (.int .i64 kind)), (1, .v (.slice A l.length c)), (2, .v (.bool null)), (3, .v (.int .i64 v)), (4, .v (.bool flex)), (11, .p 0 0), (16, .v (.int .i64 kind)), (17, .v (.bool (kind == 0)))] hW27 hE32 fun a33 hE34 => ?_
  clear hE32
  refine cond_of hE34 (b := kind == 0) (by kernel_rfl) (fun hc35 => ?_) (fun hc35 => ?_)
  ·
    have hf36 : kind = 0 := by simpa using hc35
    refine go_seq_region [0, 1, 2, 3, 4, 5] (by kernel_rfl) ?_
    refine go_rn [0, 1, 2, 3] [4, 5] [(22, .v (.int .u8 (IntKind.u8.wrap (IntKind.i64.wrap (BitVec.ofInt 64 n1 &&& BitVec.ofInt 64 1).toNat))))] hW27 hE34 fun a37 hE38 => ?_
    clear hE34
    refine of_op (wpOp_lit hW27 hE38 (e := 5) (size := 1) (len := 1) (cs := [.int .u8 (IntKind.u8.wrap (IntKind.i64.wrap (BitVec.ofInt 64 n1 &&& BitVec.ofInt 64 1).toNat))]) (d := 23) (by kernel_rfl) (by kernel_rfl) fun b39 a40 w41 hb42 hz43 hF44 hW45 hE46 => ?_)
    clear hE38 hW27
    have er47 : (⟨some ⟨b39, 0, none⟩, 1, 5, 1, 1, [.int .u8 (IntKind.u8.wrap (IntKind.i64.wrap (BitVec.ofInt 64 n1 &&& BitVec.ofInt 64 1).toNat))]⟩ : Rw) = brow (some ⟨b39, 0, none⟩) 1 5 [by8 (IntKind.i64.wrap (BitVec.ofInt 64 n1 &&& BitVec.ofInt 64 1).toNat)] := by first | rfl | (simp only [brow, bc, List.map, by8_wrap]; try rfl)
    obtain ⟨hW48, hF50⟩ := hW45.rowEq 0 [brow (some ⟨b39, 0, none⟩) 1 5 [by8 (IntKind.i64.wrap (BitVec.ofInt 64 n1 &&& BitVec.ofInt 64 1).toNat)]] er47
    clear hW45
    have hE52 := EnvOk.pick hE46 (ks := [22, 23]) (env' := [(22, .v (.int .u8 (IntKind.u8.wrap (IntKind.i64.wrap (BitVec.ofInt 64 n1 &&& BitVec.ofInt 64 1).toNat)))), (23, .v (.slice (some ⟨b39, 0, none⟩) 1 1))]) (by kernel_rfl)
    have hE51 := hE52.cast (env' := [(22, .v (.int .u8 (IntKind.u8.wrap (IntKind.i64.wrap (BitVec.ofInt 64 n1 &&& BitVec.ofInt 64 1).toNat)))), (23, .v (.slice (some ⟨b39, 0, none⟩) ([by8 (IntKind.i64.wrap (BitVec.ofInt 64 n1 &&& BitVec.ofInt 64 1).toNat)].length) 1))]) rfl
    clear hE46 hE52
    refine go_rn [5] [] [(12, .v (.slice (some ⟨b39, 0, none⟩) ([by8 (IntKind.i64.wrap (BitVec.ofInt 64 n1 &&& BitVec.ofInt 64 1).toNat)].length) 1))] hW48 hE51 fun a53 hE54 => ?_
    clear hE51
    refine wpOps_nil ?_
    refine then_normal ?_
    refine wp_ret ?_
    refine block_ret ?_
    refine then_ret ?_
    refine leave hE54 hW48.cells (v := .slice (some ⟨b39, 0, none⟩) ([by8 (IntKind.i64.wrap (BitVec.ofInt 64 n1 &&& BitVec.ofInt 64 1).toNat)].length) 1) (by kernel_rfl) ?_
    exact fresh_end hW48 (k := 0) rfl (by (try simp only [and1]); simp [valueB, Tree.S, Tree.N, hf36, hc35])
  ·
    have hf55 : kind ≠ 0 := by simpa using hc35
    refine go_sp [(0, .v (.int .i64 kind)), (1, .v (.slice A l.length c)), (2, .v (.bool null)), (3, .v (.int .i64 v)), (4, .v (.bool flex)), (11, .p 0 0), (16, .v (.int .i64 kind)), (24, .v (.bool (kind == 7)))] hW27 hE34 fun a56 hE57 => ?_
    clear hE34
    refine cond_of hE57 (b := kind == 7) (by kernel_rfl) (fun hc58 => ?_) (fun hc58 => ?_)
    ·
      have hf59 : kind = 7 := by simpa using hc58
      refine go_seq_region [0, 1] (by kernel_rfl) ?_
      refine of_op (wpOp_make1 hW27 hE57 (d := 26) (j := 16) (t := 22) (e := 5) (bytes := 1) (z := .int .u8 0) (by kernel_rfl) (by kernel_rfl) (by kernel_rfl) (by kernel_rfl) (rfl) (rfl) (by omega) fun b60 a61 w62 hb63 hz64 hF65 hW66 hE67 => ?_)
      clear hE57 hW27
      refine go_rn [1] [] [(11, .p 0 0), (13, .v (.slice (some ⟨b60, 0, none⟩) 16 16))] hW66 hE67 fun a68 hE69 => ?_
      clear hE67
      refine wpOps_nil ?_
      refine then_normal ?_
      refine go_seq_region [0, 1, 2, 3] (by kernel_rfl) ?_
      refine go_rn [0, 1, 2] [3] [(13, .v (.slice (some ⟨b60, 0, none⟩) 16 16)), (27, .v (.slice (some ⟨b60, 0, none⟩) 16 16)), (29, .v (.slice A6 s2.length c7))] hW66 hE69 fun a70 hE71 => ?_
      clear hE69
      refine of_op (wpOp_copyR hW66 hE71 (k := 0) (d := 30) (t := 22) (u := 22) (e := 5) (bytes := 1) (A := (some ⟨b60, 0, none⟩)) (As := A6) (m := s2.length) (cs := c7) (m0 := 16) (c := 16) (xs := (List.replicate 16 (.int .u8 0))) (news := bc s2) (by kernel_rfl) (by kernel_rfl) rfl (h14.move hW66.step nilM hW66.imm).src fun a72 w73 hF74 hW75 hE76 => ?_)
      clear hE71 hW66
      have er77 : (⟨(some ⟨b60, 0, none⟩), 16, 5, 1, 16, splice (List.replicate 16 (.int .u8 0)) 0 ((bc s2).take (min s2.length 16))⟩ : Rw) = brow (some ⟨b60, 0, none⟩) 16 5 (uuidB s2) := uuid_row _ _ _
      obtain ⟨hW78, hF80⟩ := hW75.rowEq 0 [brow (some ⟨b60, 0, none⟩) 16 5 (uuidB s2)] er77
      clear hW75
      have hE82 := EnvOk.pick hE76 (ks := [13, 27, 29, 30]) (env' := [(13, .v (.slice (some ⟨b60, 0, none⟩) 16 16)), (27, .v (.slice (some ⟨b60, 0, none⟩) 16 16)), (29, .v (.slice A6 s2.length c7)), (30, .v (.int .i64 ((min s2.length 16 : Nat) : Int)))]) (by kernel_rfl)
      have hE81 := hE82.cast (env' := [(13, .v (.slice (some ⟨b60, 0, none⟩) ((uuidB s2).length) 16)), (27, .v (.slice (some ⟨b60, 0, none⟩) ((uuidB s2).length) 16)), (29, .v (.slice A6 s2.length c7)), (30, .v (.int .i64 ((min s2.length 16 : Nat) : Int)))]) (by rw [uuidB_length _])
      clear hE76 hE82
      refine wpOps_nil ?_
      refine then_normal ?_
      refine go_sp [(12, .v (.slice (some ⟨b60, 0, none⟩) ((uuidB s2).length) 16))] hW78 hE81 fun a83 hE84 => ?_
      clear hE81
      refine wp_ret ?_
      refine block_ret ?_
      refine then_ret ?_
      refine leave hE84 hW78.cells (v := .slice (some ⟨b60, 0, none⟩) ((uuidB s2).length) 16) (by kernel_rfl) ?_
      exact fresh_end hW78 (k := 0) rfl (by (try simp only [and1]); simp [valueB, Tree.S, Tree.N, hf55, hf59, hc35, hc58])
    ·
      have hf85 : kind ≠ 7 := by simpa using hc58
      refine go_sp [(0, .v (.int .i64 kind)), (1, .v (.slice A l.length c)), (2, .v (.bool null)), (3, .v (.int .i64 v)), (4, .v (.bool flex)), (11, .p 0 0), (16, .v (.int .i64 kind)), (32, .v (.bool (kind == 8)))] hW27 hE57 fun a86 hE87 => ?_
      clear hE57
      refine cond_of hE87 (b := kind == 8) (by kernel_rfl) (fun hc88 => ?_) (fun hc88 => ?_)
      ·
        have hf89 : kind = 8 := by simpa using hc88
        refine go_seq_region [0, 1, 2, 3] (by kernel_rfl) ?_
        refine go_rn [0, 1] [2, 3] [(2, .v (.bool null)), (4, .v (.bool flex)), (35, .v (.slice A6 s2.length c7))] hW27 hE87 fun a90 hE91 => ?_
        clear hE87
        have hwl93 := whole_le s2
        refine of_op (wpOp_call hE91 (f := 88) (vs := [.slice A6 s2.length c7]) (d := 36) (by kernel_rfl) Tryz.call88 (sWhole _ _ s2 (h14.move hW27.step nilM hW27.imm).le _) ?_)
        rintro e_ w94 ⟨rfl, hs92⟩
        refine ⟨_, rfl, fun a95 hE96 => ?_⟩
        have hW97 := hW27.next_nil hs92
        have hF98 := hW27.frN hs92
        clear hE91 hW27
        refine go_rn [3] [] [(2, .v (.bool null)), (4, .v (.bool flex)), (14, .v (.slice A6 ((whole s2).length) c7))] hW97 hE96 fun a99 hE100 => ?_
        clear hE96
        refine wpOps_nil ?_
        refine then_normal ?_
        refine wp_seq ?_
        refine go_sp [(2, .v (.bool null)), (4, .v (.bool flex)), (14, .v (.slice A6 ((whole s2).length) c7)), (37, .v (.bool null))] hW97 hE100 fun a101 hE102 => ?_
        clear hE100
        refine cond_of hE102 (b := null) (by kernel_rfl) (fun hc103 => ?_) (fun hc103 => ?_)
        ·
          refine go_region [0] (by kernel_rfl) ?_
          refine go_rn [0] [] [(2, .v (.bool null)), (4, .v (.bool flex)), (14, .v (.slice none 0 0))] hW97 hE102 fun a105 hE106 => ?_
          clear hE102
          refine wpOps_nil ?_
          refine then_normal ?_
          refine go_seq_region [0, 1, 2, 3, 4, 5, 6, 7] (by kernel_rfl) ?_
          refine go_rn [0, 1, 2, 3] [4, 5, 6, 7] [(14, .v (.slice none 0 0)), (38, .v (.bool flex)), (39, .v (.bool null)), (41, .v (.int .i64 0))] hW97 hE106 fun a107 hE108 => ?_
          clear hE106
          refine of_op (wpOp_call hE108 (f := 141) (vs := [.bool flex, .bool null, .int .i64 0, .int .i64 2]) (d := 42) (by kernel_rfl) Tryz.call141 (sCounted flex null 0 2 (by first | omega | exact Nat.le_trans (whole_le _) (by decide) | exact Nat.le_trans (things_le _) (by decide) | (simp; done) | (have := hroom; omega)) (by first | decide | omega) _) ?_)
          rintro e_ w113 ⟨A111, c112, rfl, ho110, hs109⟩
          refine ⟨_, rfl, fun a114 hE115 => ?_⟩
          obtain ⟨hW116, hF117⟩ := hW97.frFresh hs109 (brow A111 c112 5 (countedB flex null 0 2)) (Nat.le_refl _) ho110
          clear hE108 hW97
          refine go_rn [5] [6, 7] [(42, .v (.slice A111 ((countedB flex null 0 2).length) c112)), (43, .v (.slice none 0 0))] hW116 hE115 fun a118 hE119 => ?_
          clear hE115
          refine of_op (wpOp_append hW116 hE119 (k := 0) (d := 44) (t := 22) (e := 5) (size := 1) (bytes := 1) (A := A111) (As := none) (m0 := ((countedB flex null 0 2).length)) (c := c112) (m := 0) (cs := 0) (xs := (bc (countedB flex null 0 2))) (news := bc ([] : Bs)) (by kernel_rfl) (by kernel_rfl) rfl (Octs.nil _ (fun _ _ => True)).src (fun _ => rfl) (by first | exact cw_room (by omega) (by decide) (by omega) | exact cw_room (Nat.le_trans (whole_le _) (by decide)) (by decide) (Nat.le_trans (whole_le _) (by decide)) | (simp; done)) fun A120 c121 a122 w123 hF124 hW125 hE126 => ?_)
          clear hE119 hW116
          have er127 : (⟨A120, c121, 5, 1, (countedB flex null 0 2).length + 0, bc (countedB flex null 0 2) ++ bc ([] : Bs)⟩ : Rw) = brow A120 c121 5 (countedB flex null 0 2 ++ ([] : Bs)) := brow_eq (rfl) rfl
          obtain ⟨hW128, hF130⟩ := hW125.rowEq 0 [brow A120 c121 5 (countedB flex null 0 2 ++ ([] : Bs))] er127
          clear hW125
          have hE131 := EnvOk.pick hE126 (ks := [42, 43, 44]) (env' := [(42, .v (.slice A111 ((countedB flex null 0 2).length) c112)), (43, .v (.slice none 0 0)), (44, .v (.slice A120 ((countedB flex null 0 2).length + 0) c121))]) (by kernel_rfl)
          have hE129 := hE131.cast (env' := [(42, .v (.slice A111 ((countedB flex null 0 2).length) c112)), (43, .v (.slice none 0 0)), (44, .v (.slice A120 ((countedB flex null 0 2 ++ ([] : Bs)).length) c121))]) (by simp only [List.length_append, List.length_cons, List.length_nil, Nat.zero_add])
          clear hE126
          clear hE131
          refine go_rn [7] [] [(12, .v (.slice A120 ((countedB flex null 0 2 ++ ([] : Bs)).length) c121))] hW128 hE129 fun a132 hE133 => ?_
          clear hE129
          refine wpOps_nil ?_
          refine then_normal ?_
          refine wp_ret ?_
          refine block_ret ?_
          refine then_ret ?_
          refine leave hE133 hW128.cells (v := .slice A120 ((countedB flex null 0 2 ++ ([] : Bs)).length) c121) (by kernel_rfl) ?_
          exact fresh_end hW128 (k := 0) rfl (by (try simp only [and1]); simp [valueB, Tree.S, Tree.N, hf55, hf85, hf89, hc35, hc58, hc88, hc103])
        ·
          refine wp_skip ?_
          refine then_normal ?_
          refine go_seq_region [0, 1, 2, 3, 4, 5, 6, 7] (by kernel_rfl) ?_
          refine go_rn [0, 1, 2, 3] [4, 5, 6, 7] [(14, .v (.slice A6 ((whole s2).length) c7)), (38, .v (.bool flex)), (39, .v (.bool null)), (41, .v (.int .i64 (((whole s2).length : Nat) : Int)))] hW97 hE102 fun a135 hE136 => ?_
          clear hE102
          refine of_op (wpOp_call hE136 (f := 141) (vs := [.bool flex, .bool null, .int .i64 (((whole s2).length : Nat) : Int), .int .i64 2]) (d := 42) (by kernel_rfl) Tryz.call141 (sCounted flex null ((whole s2).length) 2 (by first | omega | exact Nat.le_trans (whole_le _) (by decide) | exact Nat.le_trans (things_le _) (by decide) | (simp; done) | (have := hroom; omega)) (by first | decide | omega) _) ?_)
          rintro e_ w141 ⟨A139, c140, rfl, ho138, hs137⟩
          refine ⟨_, rfl, fun a142 hE143 => ?_⟩
          obtain ⟨hW144, hF145⟩ := hW97.frFresh hs137 (brow A139 c140 5 (countedB flex null ((whole s2).length) 2)) (Nat.le_refl _) ho138
          clear hE136 hW97
          refine go_rn [5] [6, 7] [(42, .v (.slice A139 ((countedB flex null ((whole s2).length) 2).length) c140)), (43, .v (.slice A6 ((whole s2).length) c7))] hW144 hE143 fun a146 hE147 => ?_
          clear hE143
          refine of_op (wpOp_append hW144 hE147 (k := 0) (d := 44) (t := 22) (e := 5) (size := 1) (bytes := 1) (A := A139) (As := A6) (m0 := ((countedB flex null ((whole s2).length) 2).length)) (c := c140) (m := ((whole s2).length)) (cs := c7) (xs := (bc (countedB flex null ((whole s2).length) 2))) (news := bc (whole s2)) (by kernel_rfl) (by kernel_rfl) rfl ((h14.take 32767).move hW144.step nilM hW144.imm).src ((h14.take 32767).move hW144.step nilM hW144.imm).cap (by first | exact cw_room (by omega) (by decide) (by omega) | exact cw_room (Nat.le_trans (whole_le _) (by decide)) (by decide) (Nat.le_trans (whole_le _) (by decide)) | (simp; done)) fun A148 c149 a150 w151 hF152 hW153 hE154 => ?_)
          clear hE147 hW144
          have er155 : (⟨A148, c149, 5, 1, (countedB flex null ((whole s2).length) 2).length + (whole s2).length, bc (countedB flex null ((whole s2).length) 2) ++ bc (whole s2)⟩ : Rw) = brow A148 c149 5 (countedB flex null ((whole s2).length) 2 ++ (whole s2)) := brow_eq (rfl) rfl
          obtain ⟨hW156, hF158⟩ := hW153.rowEq 0 [brow A148 c149 5 (countedB flex null ((whole s2).length) 2 ++ (whole s2))] er155
          clear hW153
          have hE159 := EnvOk.pick hE154 (ks := [42, 43, 44]) (env' := [(42, .v (.slice A139 ((countedB flex null ((whole s2).length) 2).length) c140)), (43, .v (.slice A6 ((whole s2).length) c7)), (44, .v (.slice A148 ((countedB flex null ((whole s2).length) 2).length + (whole s2).length) c149))]) (by kernel_rfl)
          have hE157 := hE159.cast (env' := [(42, .v (.slice A139 ((countedB flex null ((whole s2).length) 2).length) c140)), (43, .v (.slice A6 ((whole s2).length) c7)), (44, .v (.slice A148 ((countedB flex null ((whole s2).length) 2 ++ (whole s2)).length) c149))]) (by simp only [List.length_append, List.length_cons, List.length_nil, Nat.zero_add])
          clear hE154
          clear hE159
          refine go_rn [7] [] [(12, .v (.slice A148 ((countedB flex null ((whole s2).length) 2 ++ (whole s2)).length) c149))] hW156 hE157 fun a160 hE161 => ?_
          clear hE157
          refine wpOps_nil ?_
          refine then_normal ?_
          refine wp_ret ?_
          refine block_ret ?_
          refine then_ret ?_
          refine leave hE161 hW156.cells (v := .slice A148 ((countedB flex null ((whole s2).length) 2 ++ (whole s2)).length) c149) (by kernel_rfl) ?_
          exact fresh_end hW156 (k := 0) rfl (by (try simp only [and1]); simp [valueB, Tree.S, Tree.N, hf55, hf85, hf89, hc35, hc58, hc88, hc103])
      ·
        have hf162 : kind ≠ 8 := by simpa using hc88
        refine go_sp [(0, .v (.int .i64 kind)), (1, .v (.slice A l.length c)), (2, .v (.bool null)), (3, .v (.int .i64 v)), (4, .v (.bool flex)), (11, .p 0 0), (16, .v (.int .i64 kind)), (45, .v (.bool (kind == 9)))] hW27 hE87 fun a163 hE164 => ?_
        clear hE87
        refine cond_of hE164 (b := kind == 9) (by kernel_rfl) (fun hc165 => ?_) (fun hc165 => ?_)
        ·
          have hf166 : kind = 9 := by simpa using hc165
          refine go_seq_region [0, 1, 2, 3] (by kernel_rfl) ?_
          refine go_rn [0, 1] [2, 3] [(2, .v (.bool null)), (4, .v (.bool flex)), (48, .v (.slice A6 s2.length c7))] hW27 hE164 fun a167 hE168 => ?_
          clear hE164
          have hwl170 := whole_le s2
          refine of_op (wpOp_call hE168 (f := 88) (vs := [.slice A6 s2.length c7]) (d := 49) (by kernel_rfl) Tryz.call88 (sWhole _ _ s2 (h14.move hW27.step nilM hW27.imm).le _) ?_)
          rintro e_ w171 ⟨rfl, hs169⟩
          refine ⟨_, rfl, fun a172 hE173 => ?_⟩
          have hW174 := hW27.next_nil hs169
          have hF175 := hW27.frN hs169
          clear hE168 hW27
          refine go_rn [3] [] [(2, .v (.bool null)), (4, .v (.bool flex)), (15, .v (.slice A6 ((whole s2).length) c7))] hW174 hE173 fun a176 hE177 => ?_
          clear hE173
          refine wpOps_nil ?_
          refine then_normal ?_
          refine wp_seq ?_
          refine go_sp [(2, .v (.bool null)), (4, .v (.bool flex)), (15, .v (.slice A6 ((whole s2).length) c7)), (50, .v (.bool null))] hW174 hE177 fun a178 hE179 => ?_
          clear hE177
          refine cond_of hE179 (b := null) (by kernel_rfl) (fun hc180 => ?_) (fun hc180 => ?_)
          ·
            refine go_region [0] (by kernel_rfl) ?_
            refine go_rn [0] [] [(2, .v (.bool null)), (4, .v (.bool flex)), (15, .v (.slice none 0 0))] hW174 hE179 fun a182 hE183 => ?_
            clear hE179
            refine wpOps_nil ?_
            refine then_normal ?_
            refine go_seq_region [0, 1, 2, 3, 4, 5, 6, 7] (by kernel_rfl) ?_
            refine go_rn [0, 1, 2, 3] [4, 5, 6, 7] [(15, .v (.slice none 0 0)), (51, .v (.bool flex)), (52, .v (.bool null)), (54, .v (.int .i64 0))] hW174 hE183 fun a184 hE185 => ?_
            clear hE183
            refine of_op (wpOp_call hE185 (f := 141) (vs := [.bool flex, .bool null, .int .i64 0, .int .i64 4]) (d := 55) (by kernel_rfl) Tryz.call141 (sCounted flex null 0 4 (by first | omega | exact Nat.le_trans (whole_le _) (by decide) | exact Nat.le_trans (things_le _) (by decide) | (simp; done) | (have := hroom; omega)) (by first | decide | omega) _) ?_)
            rintro e_ w190 ⟨A188, c189, rfl, ho187, hs186⟩
            refine ⟨_, rfl, fun a191 hE192 => ?_⟩
            obtain ⟨hW193, hF194⟩ := hW174.frFresh hs186 (brow A188 c189 5 (countedB flex null 0 4)) (Nat.le_refl _) ho187
            clear hE185 hW174
            refine go_rn [5] [6, 7] [(55, .v (.slice A188 ((countedB flex null 0 4).length) c189)), (56, .v (.slice none 0 0))] hW193 hE192 fun a195 hE196 => ?_
            clear hE192
            refine of_op (wpOp_append hW193 hE196 (k := 0) (d := 57) (t := 22) (e := 5) (size := 1) (bytes := 1) (A := A188) (As := none) (m0 := ((countedB flex null 0 4).length)) (c := c189) (m := 0) (cs := 0) (xs := (bc (countedB flex null 0 4))) (news := bc ([] : Bs)) (by kernel_rfl) (by kernel_rfl) rfl (Octs.nil _ (fun _ _ => True)).src (fun _ => rfl) (by first | exact cw_room (by omega) (by decide) (by omega) | exact cw_room (Nat.le_trans (whole_le _) (by decide)) (by decide) (Nat.le_trans (whole_le _) (by decide)) | (simp; done)) fun A197 c198 a199 w200 hF201 hW202 hE203 => ?_)
            clear hE196 hW193
            have er204 : (⟨A197, c198, 5, 1, (countedB flex null 0 4).length + 0, bc (countedB flex null 0 4) ++ bc ([] : Bs)⟩ : Rw) = brow A197 c198 5 (countedB flex null 0 4 ++ ([] : Bs)) := brow_eq (rfl) rfl
            obtain ⟨hW205, hF207⟩ := hW202.rowEq 0 [brow A197 c198 5 (countedB flex null 0 4 ++ ([] : Bs))] er204
            clear hW202
            have hE208 := EnvOk.pick hE203 (ks := [55, 56, 57]) (env' := [(55, .v (.slice A188 ((countedB flex null 0 4).length) c189)), (56, .v (.slice none 0 0)), (57, .v (.slice A197 ((countedB flex null 0 4).length + 0) c198))]) (by kernel_rfl)
            have hE206 := hE208.cast (env' := [(55, .v (.slice A188 ((countedB flex null 0 4).length) c189)), (56, .v (.slice none 0 0)), (57, .v (.slice A197 ((countedB flex null 0 4 ++ ([] : Bs)).length) c198))]) (by simp only [List.length_append, List.length_cons, List.length_nil, Nat.zero_add])
            clear hE203
            clear hE208
            refine go_rn [7] [] [(12, .v (.slice A197 ((countedB flex null 0 4 ++ ([] : Bs)).length) c198))] hW205 hE206 fun a209 hE210 => ?_
            clear hE206
            refine wpOps_nil ?_
            refine then_normal ?_
            refine wp_ret ?_
            refine block_ret ?_
            refine then_ret ?_
            refine leave hE210 hW205.cells (v := .slice A197 ((countedB flex null 0 4 ++ ([] : Bs)).length) c198) (by kernel_rfl) ?_
            exact fresh_end hW205 (k := 0) rfl (by (try simp only [and1]); simp [valueB, Tree.S, Tree.N, hf55, hf85, hf162, hf166, hc35, hc58, hc88, hc165, hc180])
          ·
            refine wp_skip ?_
            refine then_normal ?_
            refine go_seq_region [0, 1, 2, 3, 4, 5, 6, 7] (by kernel_rfl) ?_
            refine go_rn [0, 1, 2, 3] [4, 5, 6, 7] [(15, .v (.slice A6 ((whole s2).length) c7)), (51, .v (.bool flex)), (52, .v (.bool null)), (54, .v (.int .i64 (((whole s2).length : Nat) : Int)))] hW174 hE179 fun a212 hE213 => ?_
            clear hE179
            refine of_op (wpOp_call hE213 (f := 141) (vs := [.bool flex, .bool null, .int .i64 (((whole s2).length : Nat) : Int), .int .i64 4]) (d := 55) (by kernel_rfl) Tryz.call141 (sCounted flex null ((whole s2).length) 4 (by first | omega | exact Nat.le_trans (whole_le _) (by decide) | exact Nat.le_trans (things_le _) (by decide) | (simp; done) | (have := hroom; omega)) (by first | decide | omega) _) ?_)
            rintro e_ w218 ⟨A216, c217, rfl, ho215, hs214⟩
            refine ⟨_, rfl, fun a219 hE220 => ?_⟩
            obtain ⟨hW221, hF222⟩ := hW174.frFresh hs214 (brow A216 c217 5 (countedB flex null ((whole s2).length) 4)) (Nat.le_refl _) ho215
            clear hE213 hW174
            refine go_rn [5] [6, 7] [(55, .v (.slice A216 ((countedB flex null ((whole s2).length) 4).length) c217)), (56, .v (.slice A6 ((whole s2).length) c7))] hW221 hE220 fun a223 hE224 => ?_
            clear hE220
            refine of_op (wpOp_append hW221 hE224 (k := 0) (d := 57) (t := 22) (e := 5) (size := 1) (bytes := 1) (A := A216) (As := A6) (m0 := ((countedB flex null ((whole s2).length) 4).length)) (c := c217) (m := ((whole s2).length)) (cs := c7) (xs := (bc (countedB flex null ((whole s2).length) 4))) (news := bc (whole s2)) (by kernel_rfl) (by kernel_rfl) rfl ((h14.take 32767).move hW221.step nilM hW221.imm).src ((h14.take 32767).move hW221.step nilM hW221.imm).cap (by first | exact cw_room (by omega) (by decide) (by omega) | exact cw_room (Nat.le_trans (whole_le _) (by decide)) (by decide) (Nat.le_trans (whole_le _) (by decide)) | (simp; done)) fun A225 c226 a227 w228 hF229 hW230 hE231 => ?_)
            clear hE224 hW221
            have er232 : (⟨A225, c226, 5, 1, (countedB flex null ((whole s2).length) 4).length + (whole s2).length, bc (countedB flex null ((whole s2).length) 4) ++ bc (whole s2)⟩ : Rw) = brow A225 c226 5 (countedB flex null ((whole s2).length) 4 ++ (whole s2)) := brow_eq (rfl) rfl
            obtain ⟨hW233, hF235⟩ := hW230.rowEq 0 [brow A225 c226 5 (countedB flex null ((whole s2).length) 4 ++ (whole s2))] er232
            clear hW230
            have hE236 := EnvOk.pick hE231 (ks := [55, 56, 57]) (env' := [(55, .v (.slice A216 ((countedB flex null ((whole s2).length) 4).length) c217)), (56, .v (.slice A6 ((whole s2).length) c7)), (57, .v (.slice A225 ((countedB flex null ((whole s2).length) 4).length + (whole s2).length) c226))]) (by kernel_rfl)
            have hE234 := hE236.cast (env' := [(55, .v (.slice A216 ((countedB flex null ((whole s2).length) 4).length) c217)), (56, .v (.slice A6 ((whole s2).length) c7)), (57, .v (.slice A225 ((countedB flex null ((whole s2).length) 4 ++ (whole s2)).length) c226))]) (by simp only [List.length_append, List.length_cons, List.length_nil, Nat.zero_add])
            clear hE231
            clear hE236
            refine go_rn [7] [] [(12, .v (.slice A225 ((countedB flex null ((whole s2).length) 4 ++ (whole s2)).length) c226))] hW233 hE234 fun a237 hE238 => ?_
            clear hE234
            refine wpOps_nil ?_
            refine then_normal ?_
            refine wp_ret ?_
            refine block_ret ?_
            refine then_ret ?_
            refine leave hE238 hW233.cells (v := .slice A225 ((countedB flex null ((whole s2).length) 4 ++ (whole s2)).length) c226) (by kernel_rfl) ?_
            exact fresh_end hW233 (k := 0) rfl (by (try simp only [and1]); simp [valueB, Tree.S, Tree.N, hf55, hf85, hf162, hf166, hc35, hc58, hc88, hc165, hc180])
        ·
          have hf239 : kind ≠ 9 := by simpa using hc165
          refine go_sp [(0, .v (.int .i64 kind)), (1, .v (.slice A l.length c)), (3, .v (.int .i64 v)), (4, .v (.bool flex)), (11, .p 0 0), (58, .v (.bool (kind == 10)))] hW27 hE164 fun a240 hE241 => ?_
          clear hE164
          refine cond_of hE241 (b := kind == 10) (by kernel_rfl) (fun hc242 => ?_) (fun hc242 => ?_)
          ·
            have hf243 : kind = 10 := by simpa using hc242
            refine go_seq_region [0, 1, 2, 3, 4, 5] (by kernel_rfl) ?_
            refine go_rn [0, 1, 2, 3] [4, 5] [(60, .v (.slice A l.length c)), (61, .v (.int .i64 v)), (62, .v (.bool flex)), (63, .v (.agg #[.int .i64 n1, .slice A6 s2.length c7, .bool b3, .slice A8 l4.length c9, .slice A10 u5.length c11]))] hW27 hE241 fun a244 hE245 => ?_
            clear hE241
            refine of_op (wpOp_call hE245 (f := 42) (vs := [.slice A l.length c, .int .i64 v, .bool flex, .agg #[.int .i64 n1, .slice A6 s2.length c7, .bool b3, .slice A8 l4.length c9, .slice A10 u5.length c11]]) (d := 64) (by kernel_rfl) Tryz.call42 (hp _ _ l v flex _ (Tree.mk n1 s2 b3 l4 u5) _ _ ⟨xfs, (h1.move hW27.step nilM hW27.imm), (fun i_ x_ h_ => ((h2 i_ x_ h_).move hW27.step nilM hW27.imm))⟩ hd (ht.move hW27.step nilM hW27.imm) (by simpa [valueB, hf55, hf85, hf162, hf239, hf243, hc35, hc58, hc88, hc165, hc242] using hroom)) ?_)
            rintro e_ w250 ⟨A248, c249, rfl, ho247, hs246⟩
            refine ⟨_, rfl, fun a251 hE252 => ?_⟩
            obtain ⟨hW253, hF254⟩ := hW27.frFresh hs246 (brow A248 c249 5 (partB d l v flex (Tree.mk n1 s2 b3 l4 u5))) (Nat.le_refl _) ho247
            clear hE245 hW27
            refine go_rn [5] [] [(12, .v (.slice A248 ((partB d l v flex (Tree.mk n1 s2 b3 l4 u5)).length) c249))] hW253 hE252 fun a255 hE256 => ?_
            clear hE252
            refine wpOps_nil ?_
            refine then_normal ?_
            refine wp_ret ?_
            refine block_ret ?_
            refine then_ret ?_
            refine leave hE256 hW253.cells (v := .slice A248 ((partB d l v flex (Tree.mk n1 s2 b3 l4 u5)).length) c249) (by kernel_rfl) ?_
            exact fresh_end hW253 (k := 0) rfl (by (try simp only [and1]); simp [valueB, Tree.S, Tree.N, hf55, hf85, hf162, hf239, hf243, hc35, hc58, hc88, hc165, hc242])
          ·
            have hf257 : kind ≠ 10 := by simpa using hc242
            refine wp_skip ?_
            refine block_normal ?_
            refine then_normal ?_
            refine go_seq_drawK 5 (by kernel_rfl) hW27 fun w258 hF259 hW260 hT261 => ?_
            clear hW27
            refine go_rnD [0, 1, 2] [(66, .v (.int .i64 n1)), (67, .v (.int .i64 kind))] 3 (panicFree_then panicFree_body) (fun _ h => h.cells) hT261 hE241 fun a262 hE263 => ?_
            clear hE241
            refine anyC_op (i := 3) (by kernel_rfl) (wpOp_call hE263 (f := 137) (vs := [.int .i64 kind]) (d := 68) (by kernel_rfl) Tryz.call137 (sWidth kind _) ?_)
            rintro e_ w265 ⟨rfl, hs264⟩
            refine ⟨_, rfl, fun a266 hE267 => ?_⟩
            have hW268 := hW260.next_nil hs264
            have hF269 := hW260.frN hs264
            clear hE263
            have hT270 := TT.ofW hF269 hW268
            refine ⟨fun _ => hT270, ?_⟩
            refine anyC_op (i := 4) (by kernel_rfl) (wpOp_call hE267 (f := 136) (vs := [.int .i64 n1, .int .i64 ((widthI kind : Nat) : Int)]) (d := 69) (by kernel_rfl) Tryz.call136 (sFixed n1 (widthI kind) (by first | decide | exact widthI_le _ | omega) _) ?_)
            rintro e_ w275 ⟨A273, c274, rfl, ho272, hs271⟩
            refine ⟨_, rfl, fun a276 hE277 => ?_⟩
            obtain ⟨hW278, hF279⟩ := hW268.frFresh hs271 (brow A273 c274 5 (be (widthI kind) n1)) (Nat.le_refl _) ho272
            clear hE267 hW268
            have hT280 := TT.ofW (Fr.trans hF269 hF279) hW278
            refine ⟨fun _ => hT280, ?_⟩
            refine anyC_op (i := 5) (by kernel_rfl) (wpOp_pure [12] hW278.cells hE277 (env' := [(12, .v (.slice A273 ((be (widthI kind) n1).length) c274))]) (by kernel_rfl) fun a281 hE282 => ?_)
            clear hE277
            refine ⟨fun h => absurd rfl h, ?_⟩
            refine anyC_done (by kernel_rfl) ?_ _
            refine then_normal ?_
            refine wp_ret ?_
            refine leave hE282 hW278.cells (v := .slice A273 ((be (widthI kind) n1).length) c274) (by kernel_rfl) ?_
            exact fresh_end hW278 (k := 0) rfl (by (try simp only [and1]); simp [valueB, Tree.S, Tree.N, hf55, hf85, hf162, hf239, hf257, hc35, hc58, hc88, hc165, hc242])

theorem sField {d : Nat} (hp : PartOK d) (cf : List Value) (f : Fld) (v : Int) (flex : Bool) (ct : List Value) (t : Tree) (w : World) (F : Nat → Nat → Prop) (hf : FldR w F cf f) (hd : depths f.sub ≤ d) (ht : TreeR w F ct t) (hroom : (fieldD d f v flex t).length ≤ 1099511627776) :
    Calls Tryz.prog 92 #[.agg cf.toArray, .int .i64 v, .bool flex, .agg ct.toArray] w (FreshB w 5 (fieldD d f v flex t)) := by
  obtain ⟨n1, s2, b3, l4, u5, A6, c7, A8, c9, A10, c11, xs12, rfl, rfl, h14, h15, h16, h17⟩ := ht.open_
  have hsm19 := h14.small
  have hsm20 := h15.small
  obtain ⟨k21, y22, y23, y24, y25, y26, y27, l28, A29, c30, xs31, rfl, rfl, h33, h34⟩ := hf.open_
  have hsm35 := h33.small
  refine enter (n := 76) Tryz.func92 rfl Tryz.ntmps92 (by kernel_rfl) fun a hE => ?_
  have hW := WOk.start w Nil
  refine go_seq_region [0, 1, 2] (by kernel_rfl) ?_
  refine of_op (wpOp_box hW hE (d := 4) (cs := [.int .i64 k21, .int .i64 y22, .int .i64 y23, .int .i64 y24, .int .i64 y25, .int .i64 y26, .int .i64 y27, .slice A29 l28.length c30]) (by kernel_rfl) fun b36 a37 w38 hb39 hz40 hF41 hW42 hE43 => ?_)
  clear hE hW
  refine of_op (wpOp_box hW42 hE43 (d := 7) (cs := [.int .i64 n1, .slice A6 s2.length c7, .bool b3, .slice A8 l4.length c9, .slice A10 u5.length c11]) (by kernel_rfl) fun b44 a45 w46 hb47 hz48 hF49 hW50 hE51 => ?_)
  clear hE43 hW42
  refine go_rn [2] [] [(1, .v (.int .i64 v)), (2, .v (.bool flex)), (4, .p 0 0), (7, .p 1 0)] hW50 hE51 fun a52 hE53 => ?_
  clear hE51
  refine wpOps_nil ?_
  refine then_normal ?_
  refine go_seq_region [0, 1, 2, 3, 4] (by kernel_rfl) ?_
  refine go_rn [0, 1, 2] [3, 4] [(1, .v (.int .i64 v)), (2, .v (.bool flex)), (4, .p 0 0), (7, .p 1 0), (13, .v (.agg #[.int .i64 k21, .int .i64 y22, .int .i64 y23, .int .i64 y24, .int .i64 y25, .int .i64 y26, .int .i64 y27, .slice A29 l28.length c30])), (14, .v (.int .i64 v)), (15, .v (.agg #[.int .i64 n1, .slice A6 s2.length c7, .bool b3, .slice A8 l4.length c9, .slice A10 u5.length c11]))] hW50 hE53 fun a54 hE55 => ?_
  clear hE53
  refine of_op (wpOp_call hE55 (f := 138) (vs := [.agg #[.int .i64 k21, .int .i64 y22, .int .i64 y23, .int .i64 y24, .int .i64 y25, .int .i64 y26, .int .i64 y27, .slice A29 l28.length c30], .int .i64 v, .agg #[.int .i64 n1, .slice A6 s2.length c7, .bool b3, .slice A8 l4.length c9, .slice A10 u5.length c11]]) (d := 16) (by kernel_rfl) Tryz.call138 (sNull k21 y22 y23 y24 y25 y26 y27 l28 _ _ v n1 s2 b3 l4 u5 _ _ _ _ _ _ _) ?_)
  rintro e_ w57 ⟨rfl, hs56⟩
  refine ⟨_, rfl, fun a58 hE59 => ?_⟩
  have hW60 := hW50.next_nil hs56
  have hF61 := hW50.frN hs56
  clear hE55 hW50
  refine go_rn [4] [] [(1, .v (.int .i64 v)), (2, .v (.bool flex)), (4, .p 0 0), (7, .p 1 0), (9, .v (.bool (Fld.nul (Fld.mk k21 y22 y23 y24 y25 y26 y27 l28) v (Tree.mk n1 s2 b3 l4 u5))))] hW60 hE59 fun a62 hE63 => ?_
  clear hE59
  refine wpOps_nil ?_
  refine then_normal ?_
  refine wp_seq ?_
  refine go_sp [(1, .v (.int .i64 v)), (2, .v (.bool flex)), (4, .p 0 0), (7, .p 1 0), (9, .v (.bool (Fld.nul (Fld.mk k21 y22 y23 y24 y25 y26 y27 l28) v (Tree.mk n1 s2 b3 l4 u5)))), (19, .v (.bool (k21 == 11)))] hW60 hE63 fun a64 hE65 => ?_
  clear hE63
  refine cond_of hE65 (b := k21 == 11) (by kernel_rfl) (fun hc66 => ?_) (fun hc66 => ?_)
  ·
    have hf67 : k21 = 11 := by simpa using hc66
    refine go_seq_region [0, 1, 2, 3] (by kernel_rfl) ?_
    refine go_rn [0, 1] [2, 3] [(1, .v (.int .i64 v)), (2, .v (.bool flex)), (4, .p 0 0), (9, .v (.bool (Fld.nul (Fld.mk k21 y22 y23 y24 y25 y26 y27 l28) v (Tree.mk n1 s2 b3 l4 u5)))), (21, .v (.slice A8 l4.length c9))] hW60 hE65 fun a68 hE69 => ?_
    clear hE65
    refine of_op (wpOp_call hE69 (f := 139) (vs := [.slice A8 l4.length c9]) (d := 22) (by kernel_rfl) Tryz.call139 (sThings _ _ l4 (h15.move hW60.step nilM hW60.imm).le _) ?_)
    rintro e_ w71 ⟨rfl, hs70⟩
    refine ⟨_, rfl, fun a72 hE73 => ?_⟩
    have hW74 := hW60.next_nil hs70
    have hF75 := hW60.frN hs70
    clear hE69 hW60
    refine go_rn [3] [] [(1, .v (.int .i64 v)), (2, .v (.bool flex)), (4, .p 0 0), (9, .v (.bool (Fld.nul (Fld.mk k21 y22 y23 y24 y25 y26 y27 l28) v (Tree.mk n1 s2 b3 l4 u5)))), (10, .v (.slice A8 ((things l4).length) c9))] hW74 hE73 fun a76 hE77 => ?_
    clear hE73
    refine wpOps_nil ?_
    refine then_normal ?_
    refine wp_seq ?_
    refine go_sp [(1, .v (.int .i64 v)), (2, .v (.bool flex)), (4, .p 0 0), (9, .v (.bool (Fld.nul (Fld.mk k21 y22 y23 y24 y25 y26 y27 l28) v (Tree.mk n1 s2 b3 l4 u5)))), (10, .v (.slice A8 ((things l4).length) c9)), (23, .v (.bool (Fld.nul (Fld.mk k21 y22 y23 y24 y25 y26 y27 l28) v (Tree.mk n1 s2 b3 l4 u5))))] hW74 hE77 fun a78 hE79 => ?_
    clear hE77
    refine cond_of hE79 (b := Fld.nul (Fld.mk k21 y22 y23 y24 y25 y26 y27 l28) v (Tree.mk n1 s2 b3 l4 u5)) (by kernel_rfl) (fun hc80 => ?_) (fun hc80 => ?_)
    ·
      refine go_region [0] (by kernel_rfl) ?_
      refine go_rn [0] [] [(1, .v (.int .i64 v)), (2, .v (.bool flex)), (4, .p 0 0), (9, .v (.bool (Fld.nul (Fld.mk k21 y22 y23 y24 y25 y26 y27 l28) v (Tree.mk n1 s2 b3 l4 u5)))), (10, .v (.slice none 0 0))] hW74 hE79 fun a82 hE83 => ?_
      clear hE79
      refine wpOps_nil ?_
      refine then_normal ?_
      refine go_seq_region [0, 1, 2, 3, 4, 5] (by kernel_rfl) ?_
      refine go_rn [0, 1, 2, 3] [4, 5] [(1, .v (.int .i64 v)), (2, .v (.bool flex)), (4, .p 0 0), (10, .v (.slice none 0 0)), (24, .v (.bool flex)), (25, .v (.bool (Fld.nul (Fld.mk k21 y22 y23 y24 y25 y26 y27 l28) v (Tree.mk n1 s2 b3 l4 u5)))), (27, .v (.int .i64 0))] hW74 hE83 fun a84 hE85 => ?_
      clear hE83
      refine of_op (wpOp_call hE85 (f := 141) (vs := [.bool flex, .bool (Fld.nul (Fld.mk k21 y22 y23 y24 y25 y26 y27 l28) v (Tree.mk n1 s2 b3 l4 u5)), .int .i64 0, .int .i64 4]) (d := 28) (by kernel_rfl) Tryz.call141 (sCounted flex (Fld.nul (Fld.mk k21 y22 y23 y24 y25 y26 y27 l28) v (Tree.mk n1 s2 b3 l4 u5)) 0 4 (by first | omega | exact Nat.le_trans (whole_le _) (by decide) | exact Nat.le_trans (things_le _) (by decide) | (simp; done) | (have := hroom; omega)) (by first | decide | omega) _) ?_)
      rintro e_ w90 ⟨A88, c89, rfl, ho87, hs86⟩
      refine ⟨_, rfl, fun a91 hE92 => ?_⟩
      obtain ⟨hW93, hF94⟩ := hW74.frFresh hs86 (brow A88 c89 5 (countedB flex (Fld.nul (Fld.mk k21 y22 y23 y24 y25 y26 y27 l28) v (Tree.mk n1 s2 b3 l4 u5)) 0 4)) (Nat.le_refl _) ho87
      clear hE85 hW74
      refine go_rn [5] [] [(1, .v (.int .i64 v)), (2, .v (.bool flex)), (4, .p 0 0), (10, .v (.slice none 0 0)), (11, .v (.slice A88 ((countedB flex (Fld.nul (Fld.mk k21 y22 y23 y24 y25 y26 y27 l28) v (Tree.mk n1 s2 b3 l4 u5)) 0 4).length) c89))] hW93 hE92 fun a95 hE96 => ?_
      clear hE92
      refine wpOps_nil ?_
      refine then_normal ?_
      refine wp_seq ?_
      refine go_sp [(1, .v (.int .i64 v)), (2, .v (.bool flex)), (4, .p 0 0), (10, .v (.slice none 0 0)), (11, .v (.slice A88 ((countedB flex (Fld.nul (Fld.mk k21 y22 y23 y24 y25 y26 y27 l28) v (Tree.mk n1 s2 b3 l4 u5)) 0 4).length) c89)), (30, .v (.int .i64 0)), (31, .v (.int .i64 0))] hW93 hE96 fun a97 hE98 => ?_
      clear hE96
      refine wp_block ?_
      have hr2 : (countedB flex (Fld.nul (Fld.mk k21 y22 y23 y24 y25 y26 y27 l28) v (Tree.mk n1 s2 b3 l4 u5)) 0 4 ++ ([] : List Tree).flatMap (valueB (partB d l28 v flex) y27 false flex)).length ≤ 1099511627776 := by have h_ := hroom; rw [fieldD_11n (by assumption) (by assumption)] at h_; exact h_
      rw [List.length_append] at hr2
      have hr3 := flatMap_take_le ([] : List Tree) (valueB (partB d l28 v flex) y27 false flex)
      have er99 : (countedB flex (Fld.nul (Fld.mk k21 y22 y23 y24 y25 y26 y27 l28) v (Tree.mk n1 s2 b3 l4 u5)) 0 4) = (countedB flex (Fld.nul (Fld.mk k21 y22 y23 y24 y25 y26 y27 l28) v (Tree.mk n1 s2 b3 l4 u5)) 0 4 ++ (([] : List Tree).take 0).flatMap (valueB (partB d l28 v flex) y27 false flex)) := by simp
      have er100 := congrArg (brow A88 c89 5) er99
      obtain ⟨hW101, hF102⟩ := hW93.rowEq 0 [brow A88 c89 5 (countedB flex (Fld.nul (Fld.mk k21 y22 y23 y24 y25 y26 y27 l28) v (Tree.mk n1 s2 b3 l4 u5)) 0 4 ++ (([] : List Tree).take 0).flatMap (valueB (partB d l28 v flex) y27 false flex))] er100
      clear hW93
      rw [er99] at hE98
      refine wp_loop_ghost (fun n_ a_ w_ => ∃ (k : Nat) (A_ : Option Addr) (c_ : Nat), n_ = 0 - k ∧ k ≤ 0 ∧ LInv hW101 76 [⟨b36, 0, [.int .i64 k21, .int .i64 y22, .int .i64 y23, .int .i64 y24, .int .i64 y25, .int .i64 y26, .int .i64 y27, .slice A29 l28.length c30], true⟩, ⟨b44, 0, [.int .i64 n1, .slice A6 s2.length c7, .bool b3, .slice A8 l4.length c9, .slice A10 u5.length c11], true⟩] [brow A_ c_ 5 (countedB flex (Fld.nul (Fld.mk k21 y22 y23 y24 y25 y26 y27 l28) v (Tree.mk n1 s2 b3 l4 u5)) 0 4 ++ (([] : List Tree).take k).flatMap (valueB (partB d l28 v flex) y27 false flex))] [(1, .v (.int .i64 v)), (2, .v (.bool flex)), (4, .p 0 0), (10, .v (.slice none 0 0)), (11, .v (.slice A_ ((countedB flex (Fld.nul (Fld.mk k21 y22 y23 y24 y25 y26 y27 l28) v (Tree.mk n1 s2 b3 l4 u5)) 0 4 ++ (([] : List Tree).take k).flatMap (valueB (partB d l28 v flex) y27 false flex)).length) c_)), (30, .v (.int .i64 0)), (31, .v (.int .i64 ((k : Nat) : Int)))] a_ w_) (0) ⟨0, A88, c89, by omega, by omega, hE98.pk, hW101, Fr.refl _ _ _⟩ ?_
      clear hE98
      rintro n103 a104 w105 ⟨k, A_, c_, hn108, hk109, hE106, hW107, hF110⟩
      refine go_sp [(1, .v (.int .i64 v)), (2, .v (.bool flex)), (4, .p 0 0), (10, .v (.slice none 0 0)), (11, .v (.slice A_ ((countedB flex (Fld.nul (Fld.mk k21 y22 y23 y24 y25 y26 y27 l28) v (Tree.mk n1 s2 b3 l4 u5)) 0 4 ++ (([] : List Tree).take k).flatMap (valueB (partB d l28 v flex) y27 false flex)).length) c_)), (30, .v (.int .i64 0)), (31, .v (.int .i64 ((k : Nat) : Int))), (32, .v (.bool (decide (((k : Nat) : Int) < 0))))] hW107 hE106 fun a111 hE112 => ?_
      clear hE106
      refine wp_seq ?_
      refine cond_false hE112 (b := decide (((k : Nat) : Int) < 0)) (by kernel_rfl) (decide_eq_false (by omega)) ?_
      refine wp_exit ?_
      refine then_exit ?_
      refine then_exit ?_
      refine block_exit ?_
      refine then_normal ?_
      refine go_sp [(8, .v (.slice A_ ((countedB flex (Fld.nul (Fld.mk k21 y22 y23 y24 y25 y26 y27 l28) v (Tree.mk n1 s2 b3 l4 u5)) 0 4 ++ (([] : List Tree).take k).flatMap (valueB (partB d l28 v flex) y27 false flex)).length) c_))] hW107 hE112 fun a113 hE114 => ?_
      clear hE112
      refine wp_ret ?_
      refine then_ret ?_
      refine leave hE114 hW107.cells (v := .slice A_ ((countedB flex (Fld.nul (Fld.mk k21 y22 y23 y24 y25 y26 y27 l28) v (Tree.mk n1 s2 b3 l4 u5)) 0 4 ++ (([] : List Tree).take k).flatMap (valueB (partB d l28 v flex) y27 false flex)).length) c_) (by kernel_rfl) ?_
      exact fresh_end hW107 (k := 0) rfl (by rw [fieldD_11n (by assumption) (by assumption)]; simp)
    ·
      refine wp_skip ?_
      refine then_normal ?_
      refine go_seq_region [0, 1, 2, 3, 4, 5] (by kernel_rfl) ?_
      refine go_rn [0, 1, 2, 3] [4, 5] [(1, .v (.int .i64 v)), (2, .v (.bool flex)), (4, .p 0 0), (10, .v (.slice A8 ((things l4).length) c9)), (24, .v (.bool flex)), (25, .v (.bool (Fld.nul (Fld.mk k21 y22 y23 y24 y25 y26 y27 l28) v (Tree.mk n1 s2 b3 l4 u5)))), (27, .v (.int .i64 (((things l4).length : Nat) : Int)))] hW74 hE79 fun a116 hE117 => ?_
      clear hE79
      refine of_op (wpOp_call hE117 (f := 141) (vs := [.bool flex, .bool (Fld.nul (Fld.mk k21 y22 y23 y24 y25 y26 y27 l28) v (Tree.mk n1 s2 b3 l4 u5)), .int .i64 (((things l4).length : Nat) : Int), .int .i64 4]) (d := 28) (by kernel_rfl) Tryz.call141 (sCounted flex (Fld.nul (Fld.mk k21 y22 y23 y24 y25 y26 y27 l28) v (Tree.mk n1 s2 b3 l4 u5)) ((things l4).length) 4 (by first | omega | exact Nat.le_trans (whole_le _) (by decide) | exact Nat.le_trans (things_le _) (by decide) | (simp; done) | (have := hroom; omega)) (by first | decide | omega) _) ?_)
      rintro e_ w122 ⟨A120, c121, rfl, ho119, hs118⟩
      refine ⟨_, rfl, fun a123 hE124 => ?_⟩
      obtain ⟨hW125, hF126⟩ := hW74.frFresh hs118 (brow A120 c121 5 (countedB flex (Fld.nul (Fld.mk k21 y22 y23 y24 y25 y26 y27 l28) v (Tree.mk n1 s2 b3 l4 u5)) ((things l4).length) 4)) (Nat.le_refl _) ho119
      clear hE117 hW74
      refine go_rn [5] [] [(1, .v (.int .i64 v)), (2, .v (.bool flex)), (4, .p 0 0), (10, .v (.slice A8 ((things l4).length) c9)), (11, .v (.slice A120 ((countedB flex (Fld.nul (Fld.mk k21 y22 y23 y24 y25 y26 y27 l28) v (Tree.mk n1 s2 b3 l4 u5)) ((things l4).length) 4).length) c121))] hW125 hE124 fun a127 hE128 => ?_
      clear hE124
      refine wpOps_nil ?_
      refine then_normal ?_
      refine wp_seq ?_
      refine go_sp [(1, .v (.int .i64 v)), (2, .v (.bool flex)), (4, .p 0 0), (10, .v (.slice A8 ((things l4).length) c9)), (11, .v (.slice A120 ((countedB flex (Fld.nul (Fld.mk k21 y22 y23 y24 y25 y26 y27 l28) v (Tree.mk n1 s2 b3 l4 u5)) ((things l4).length) 4).length) c121)), (30, .v (.int .i64 (((things l4).length : Nat) : Int))), (31, .v (.int .i64 0))] hW125 hE128 fun a129 hE130 => ?_
      clear hE128
      refine wp_block ?_
      have hr2 : (countedB flex (Fld.nul (Fld.mk k21 y22 y23 y24 y25 y26 y27 l28) v (Tree.mk n1 s2 b3 l4 u5)) ((things l4).length) 4 ++ (things l4).flatMap (valueB (partB d l28 v flex) y27 false flex)).length ≤ 1099511627776 := by have h_ := hroom; rw [fieldD_11 (by assumption) (by assumption)] at h_; exact h_
      rw [List.length_append] at hr2
      have hr3 := flatMap_take_le (things l4) (valueB (partB d l28 v flex) y27 false flex)
      have hsm3 : (things l4).length ≤ 32767 := by simp only [things, List.length_take]; omega
      have er131 : (countedB flex (Fld.nul (Fld.mk k21 y22 y23 y24 y25 y26 y27 l28) v (Tree.mk n1 s2 b3 l4 u5)) ((things l4).length) 4) = (countedB flex (Fld.nul (Fld.mk k21 y22 y23 y24 y25 y26 y27 l28) v (Tree.mk n1 s2 b3 l4 u5)) ((things l4).length) 4 ++ ((things l4).take 0).flatMap (valueB (partB d l28 v flex) y27 false flex)) := by simp
      have er132 := congrArg (brow A120 c121 5) er131
      obtain ⟨hW133, hF134⟩ := hW125.rowEq 0 [brow A120 c121 5 (countedB flex (Fld.nul (Fld.mk k21 y22 y23 y24 y25 y26 y27 l28) v (Tree.mk n1 s2 b3 l4 u5)) ((things l4).length) 4 ++ ((things l4).take 0).flatMap (valueB (partB d l28 v flex) y27 false flex))] er132
      clear hW125
      rw [er131] at hE130
      refine wp_loop_ghost (fun n_ a_ w_ => ∃ (k : Nat) (A_ : Option Addr) (c_ : Nat), n_ = (things l4).length - k ∧ k ≤ (things l4).length ∧ LInv hW133 76 [⟨b36, 0, [.int .i64 k21, .int .i64 y22, .int .i64 y23, .int .i64 y24, .int .i64 y25, .int .i64 y26, .int .i64 y27, .slice A29 l28.length c30], true⟩, ⟨b44, 0, [.int .i64 n1, .slice A6 s2.length c7, .bool b3, .slice A8 l4.length c9, .slice A10 u5.length c11], true⟩] [brow A_ c_ 5 (countedB flex (Fld.nul (Fld.mk k21 y22 y23 y24 y25 y26 y27 l28) v (Tree.mk n1 s2 b3 l4 u5)) ((things l4).length) 4 ++ ((things l4).take k).flatMap (valueB (partB d l28 v flex) y27 false flex))] [(1, .v (.int .i64 v)), (2, .v (.bool flex)), (4, .p 0 0), (10, .v (.slice A8 ((things l4).length) c9)), (11, .v (.slice A_ ((countedB flex (Fld.nul (Fld.mk k21 y22 y23 y24 y25 y26 y27 l28) v (Tree.mk n1 s2 b3 l4 u5)) ((things l4).length) 4 ++ ((things l4).take k).flatMap (valueB (partB d l28 v flex) y27 false flex)).length) c_)), (30, .v (.int .i64 (((things l4).length : Nat) : Int))), (31, .v (.int .i64 ((k : Nat) : Int)))] a_ w_) ((things l4).length) ⟨0, A120, c121, by omega, by omega, hE130.pk, hW133, Fr.refl _ _ _⟩ ?_
      clear hE130
      rintro n135 a136 w137 ⟨k, A_, c_, hn140, hk141, hE138, hW139, hF142⟩
      refine go_sp [(1, .v (.int .i64 v)), (2, .v (.bool flex)), (4, .p 0 0), (10, .v (.slice A8 ((things l4).length) c9)), (11, .v (.slice A_ ((countedB flex (Fld.nul (Fld.mk k21 y22 y23 y24 y25 y26 y27 l28) v (Tree.mk n1 s2 b3 l4 u5)) ((things l4).length) 4 ++ ((things l4).take k).flatMap (valueB (partB d l28 v flex) y27 false flex)).length) c_)), (30, .v (.int .i64 (((things l4).length : Nat) : Int))), (31, .v (.int .i64 ((k : Nat) : Int))), (32, .v (.bool (decide (((k : Nat) : Int) < (((things l4).length : Nat) : Int)))))] hW139 hE138 fun a143 hE144 => ?_
      clear hE138
      refine wp_seq ?_
      refine cond_of hE144 (b := decide (((k : Nat) : Int) < (((things l4).length : Nat) : Int))) (by kernel_rfl) (fun hc145 => ?_) (fun hc145 => ?_)
      ·
        have hf146 := of_decide_eq_true hc145
        refine wp_skip ?_
        refine then_normal ?_
        refine wp_seq ?_
        refine wp_block ?_
        refine go_sp [(1, .v (.int .i64 v)), (2, .v (.bool flex)), (4, .p 0 0), (10, .v (.slice A8 ((things l4).length) c9)), (11, .v (.slice A_ ((countedB flex (Fld.nul (Fld.mk k21 y22 y23 y24 y25 y26 y27 l28) v (Tree.mk n1 s2 b3 l4 u5)) ((things l4).length) 4 ++ ((things l4).take k).flatMap (valueB (partB d l28 v flex) y27 false flex)).length) c_)), (12, .v (.int .i64 ((k : Nat) : Int))), (30, .v (.int .i64 (((things l4).length : Nat) : Int))), (31, .v (.int .i64 ((k : Nat) : Int)))] hW139 hE144 fun a147 hE148 => ?_
        clear hE144
        refine go_drawK 13 (by kernel_rfl) hW139 fun w149 hF150 hW151 hT152 => ?_
        clear hW139
        refine go_rnD [0, 1, 2, 3, 4, 5, 6, 7, 8] [(1, .v (.int .i64 v)), (2, .v (.bool flex)), (4, .p 0 0), (10, .v (.slice A8 ((things l4).length) c9)), (11, .v (.slice A_ ((countedB flex (Fld.nul (Fld.mk k21 y22 y23 y24 y25 y26 y27 l28) v (Tree.mk n1 s2 b3 l4 u5)) ((things l4).length) 4 ++ ((things l4).take k).flatMap (valueB (partB d l28 v flex) y27 false flex)).length) c_)), (30, .v (.int .i64 (((things l4).length : Nat) : Int))), (31, .v (.int .i64 ((k : Nat) : Int))), (34, .v (.slice A_ ((countedB flex (Fld.nul (Fld.mk k21 y22 y23 y24 y25 y26 y27 l28) v (Tree.mk n1 s2 b3 l4 u5)) ((things l4).length) 4 ++ ((things l4).take k).flatMap (valueB (partB d l28 v flex) y27 false flex)).length) c_)), (36, .v (.int .i64 y27)), (38, .v (.slice A29 l28.length c30)), (39, .v (.int .i64 v)), (40, .v (.bool flex)), (41, .v (.slice A8 ((things l4).length) c9)), (42, .v (.int .i64 ((k : Nat) : Int)))] 5 (panicFree_block (panicFree_then (panicFree_then (panicFree_block (panicFree_then (panicFree_then panicFree_body)))))) (fun _ h => h.cells) hT152 hE148 fun a153 hE154 => ?_
        clear hE148
        obtain ⟨b155, o156, hA157, hl158, hat159⟩ := Slots.get (things_slots h15) (i := k) (by omega)
        obtain ⟨x160, he161⟩ : ∃ x, (things l4)[k]? = some x := ⟨_, List.getElem?_eq_getElem (by omega)⟩
        have hr162 := (things_each h16) k x160 he161
        obtain ⟨n163, s164, b165, l166, u167, A168, c169, A170, c171, A172, c173, xs174, rfl, hcs175, h176, h177, h178, h179⟩ := hr162.open_
        rw [hcs175] at hr162
        have hsm181 := h176.small
        have hsm182 := h177.small
        rw [hcs175] at hat159
        refine takeC_index hE154 (i := 9) (t := 23) (A := A8) (m := ((things l4).length)) (q := ((k : Nat) : Int)) (d := 43) (by kernel_rfl) (e := 26) (size := 5) (bytes := 88) (by kernel_rfl) hA157 rfl (by omega) (by kernel_rfl) (by kernel_rfl) (panicFree_block (panicFree_then (panicFree_then (panicFree_block (panicFree_then (panicFree_then panicFree_body)))))) hT152 fun a183 hE184 => ?_
        clear hE154
        refine takeC_load hE184 (i := 10) (t := 26) (b := b155) (o := o156 + k * 5) (d := 44) (by kernel_rfl) (cs := [.int .i64 n163, .slice A168 s164.length c169, .bool b165, .slice A170 l166.length c171, .slice A172 u167.length c173]) (v := .agg #[.int .i64 n163, .slice A168 s164.length c169, .bool b165, .slice A170 l166.length c171, .slice A172 u167.length c173]) (by kernel_rfl) (fun w' h' => (AtF.move hat159 (TT.step0 hW151 h') nilM keepF).at_) (by kernel_rfl) (by kernel_rfl) (panicFree_block (panicFree_then (panicFree_then (panicFree_block (panicFree_then (panicFree_then panicFree_body)))))) hT152 fun a185 hE186 => ?_
        clear hE184
        refine anyC_op (i := 11) (by kernel_rfl) (wpOp_call hE186 (f := 142) (vs := [.int .i64 y27, .slice A29 l28.length c30, .bool false, .int .i64 v, .bool flex, .agg #[.int .i64 n163, .slice A168 s164.length c169, .bool b165, .slice A170 l166.length c171, .slice A172 u167.length c173]]) (d := 45) (by kernel_rfl) Tryz.call142 (sValue hp y27 _ _ l28 false v flex _ (Tree.mk n163 s164 b165 l166 u167) _ _ ⟨xs31, (h33.move hW151.step nilM hW151.imm), (fun i_ x_ h_ => ((h34 i_ x_ h_).move hW151.step nilM hW151.imm))⟩ hd (hr162.move hW151.step nilM hW151.imm) (by have := flatMap_le (g := valueB (partB d l28 v flex) y27 false flex) he161; omega)) ?_)
        rintro e_ w191 ⟨A189, c190, rfl, ho188, hs187⟩
        refine ⟨_, rfl, fun a192 hE193 => ?_⟩
        obtain ⟨hW194, hF195⟩ := hW151.frFresh hs187 (brow A189 c190 5 (valueB (partB d l28 v flex) y27 false flex (Tree.mk n163 s164 b165 l166 u167))) (Nat.le_refl _) ho188
        clear hE186
        have hT196 := TT.ofW hF195 hW194
        refine ⟨fun _ => hT196, ?_⟩
        refine anyC_op (i := 12) (by kernel_rfl) (wpOp_append hW194 hE193 (k := 0) (d := 46) (t := 22) (e := 5) (size := 1) (bytes := 1) (A := A_) (As := A189) (m0 := ((countedB flex (Fld.nul (Fld.mk k21 y22 y23 y24 y25 y26 y27 l28) v (Tree.mk n1 s2 b3 l4 u5)) ((things l4).length) 4 ++ ((things l4).take k).flatMap (valueB (partB d l28 v flex) y27 false flex)).length)) (c := c_) (m := ((valueB (partB d l28 v flex) y27 false flex (Tree.mk n163 s164 b165 l166 u167)).length)) (cs := c190) (xs := (bc (countedB flex (Fld.nul (Fld.mk k21 y22 y23 y24 y25 y26 y27 l28) v (Tree.mk n1 s2 b3 l4 u5)) ((things l4).length) 4 ++ ((things l4).take k).flatMap (valueB (partB d l28 v flex) y27 false flex)))) (news := bc (valueB (partB d l28 v flex) y27 false flex (Tree.mk n163 s164 b165 l166 u167))) (by kernel_rfl) (by kernel_rfl) rfl (own_src (hW194.own 1 _ rfl) (bc_one _)) (own_cap (hW194.own 1 _ rfl)) (by rw [List.length_append]; have h8_ := hr3 k; have h9_ := flatMap_le (g := valueB (partB d l28 v flex) y27 false flex) he161; omega) fun A197 c198 a199 w200 hF201 hW202 hE203 => ?_)
        clear hE193 hW194
        have er204 : (⟨A197, c198, 5, 1, (countedB flex (Fld.nul (Fld.mk k21 y22 y23 y24 y25 y26 y27 l28) v (Tree.mk n1 s2 b3 l4 u5)) ((things l4).length) 4 ++ ((things l4).take k).flatMap (valueB (partB d l28 v flex) y27 false flex)).length + (valueB (partB d l28 v flex) y27 false flex (Tree.mk n163 s164 b165 l166 u167)).length, bc (countedB flex (Fld.nul (Fld.mk k21 y22 y23 y24 y25 y26 y27 l28) v (Tree.mk n1 s2 b3 l4 u5)) ((things l4).length) 4 ++ ((things l4).take k).flatMap (valueB (partB d l28 v flex) y27 false flex)) ++ bc (valueB (partB d l28 v flex) y27 false flex (Tree.mk n163 s164 b165 l166 u167))⟩ : Rw) = brow A197 c198 5 (countedB flex (Fld.nul (Fld.mk k21 y22 y23 y24 y25 y26 y27 l28) v (Tree.mk n1 s2 b3 l4 u5)) ((things l4).length) 4 ++ ((things l4).take k).flatMap (valueB (partB d l28 v flex) y27 false flex) ++ (valueB (partB d l28 v flex) y27 false flex (Tree.mk n163 s164 b165 l166 u167))) := brow_eq (rfl) rfl
        obtain ⟨hW205, hF207⟩ := hW202.rowEq 0 [brow A197 c198 5 (countedB flex (Fld.nul (Fld.mk k21 y22 y23 y24 y25 y26 y27 l28) v (Tree.mk n1 s2 b3 l4 u5)) ((things l4).length) 4 ++ ((things l4).take k).flatMap (valueB (partB d l28 v flex) y27 false flex) ++ (valueB (partB d l28 v flex) y27 false flex (Tree.mk n163 s164 b165 l166 u167))), brow A189 c190 5 (valueB (partB d l28 v flex) y27 false flex (Tree.mk n163 s164 b165 l166 u167))] er204
        clear hW202
        have hE208 := EnvOk.pick hE203 (ks := [1, 2, 4, 10, 11, 30, 31, 34, 36, 38, 39, 40, 41, 42, 43, 44, 45, 46]) (env' := [(1, .v (.int .i64 v)), (2, .v (.bool flex)), (4, .p 0 0), (10, .v (.slice A8 ((things l4).length) c9)), (11, .v (.slice A_ ((countedB flex (Fld.nul (Fld.mk k21 y22 y23 y24 y25 y26 y27 l28) v (Tree.mk n1 s2 b3 l4 u5)) ((things l4).length) 4 ++ ((things l4).take k).flatMap (valueB (partB d l28 v flex) y27 false flex)).length) c_)), (30, .v (.int .i64 (((things l4).length : Nat) : Int))), (31, .v (.int .i64 ((k : Nat) : Int))), (34, .v (.slice A_ ((countedB flex (Fld.nul (Fld.mk k21 y22 y23 y24 y25 y26 y27 l28) v (Tree.mk n1 s2 b3 l4 u5)) ((things l4).length) 4 ++ ((things l4).take k).flatMap (valueB (partB d l28 v flex) y27 false flex)).length) c_)), (36, .v (.int .i64 y27)), (38, .v (.slice A29 l28.length c30)), (39, .v (.int .i64 v)), (40, .v (.bool flex)), (41, .v (.slice A8 ((things l4).length) c9)), (42, .v (.int .i64 ((k : Nat) : Int))), (43, .v (.pointer (some ⟨b155, o156 + k * 5, none⟩))), (44, .v (.agg #[.int .i64 n163, .slice A168 s164.length c169, .bool b165, .slice A170 l166.length c171, .slice A172 u167.length c173])), (45, .v (.slice A189 ((valueB (partB d l28 v flex) y27 false flex (Tree.mk n163 s164 b165 l166 u167)).length) c190)), (46, .v (.slice A197 ((countedB flex (Fld.nul (Fld.mk k21 y22 y23 y24 y25 y26 y27 l28) v (Tree.mk n1 s2 b3 l4 u5)) ((things l4).length) 4 ++ ((things l4).take k).flatMap (valueB (partB d l28 v flex) y27 false flex)).length + (valueB (partB d l28 v flex) y27 false flex (Tree.mk n163 s164 b165 l166 u167)).length) c198))]) (by kernel_rfl)
        have hE206 := hE208.cast (env' := [(1, .v (.int .i64 v)), (2, .v (.bool flex)), (4, .p 0 0), (10, .v (.slice A8 ((things l4).length) c9)), (11, .v (.slice A_ ((countedB flex (Fld.nul (Fld.mk k21 y22 y23 y24 y25 y26 y27 l28) v (Tree.mk n1 s2 b3 l4 u5)) ((things l4).length) 4 ++ ((things l4).take k).flatMap (valueB (partB d l28 v flex) y27 false flex)).length) c_)), (30, .v (.int .i64 (((things l4).length : Nat) : Int))), (31, .v (.int .i64 ((k : Nat) : Int))), (34, .v (.slice A_ ((countedB flex (Fld.nul (Fld.mk k21 y22 y23 y24 y25 y26 y27 l28) v (Tree.mk n1 s2 b3 l4 u5)) ((things l4).length) 4 ++ ((things l4).take k).flatMap (valueB (partB d l28 v flex) y27 false flex)).length) c_)), (36, .v (.int .i64 y27)), (38, .v (.slice A29 l28.length c30)), (39, .v (.int .i64 v)), (40, .v (.bool flex)), (41, .v (.slice A8 ((things l4).length) c9)), (42, .v (.int .i64 ((k : Nat) : Int))), (43, .v (.pointer (some ⟨b155, o156 + k * 5, none⟩))), (44, .v (.agg #[.int .i64 n163, .slice A168 s164.length c169, .bool b165, .slice A170 l166.length c171, .slice A172 u167.length c173])), (45, .v (.slice A189 ((valueB (partB d l28 v flex) y27 false flex (Tree.mk n163 s164 b165 l166 u167)).length) c190)), (46, .v (.slice A197 ((countedB flex (Fld.nul (Fld.mk k21 y22 y23 y24 y25 y26 y27 l28) v (Tree.mk n1 s2 b3 l4 u5)) ((things l4).length) 4 ++ ((things l4).take k).flatMap (valueB (partB d l28 v flex) y27 false flex) ++ (valueB (partB d l28 v flex) y27 false flex (Tree.mk n163 s164 b165 l166 u167))).length) c198))]) (by simp only [List.length_append, List.length_cons, List.length_nil, Nat.zero_add])
        clear hE203
        clear hE208
        have hT209 := TT.ofW (Fr.trans (Fr.trans hF195 hF201) hF207) hW205
        refine ⟨fun _ => hT209, ?_⟩
        refine anyC_op (i := 13) (by kernel_rfl) (wpOp_pure [1, 2, 4, 10, 11, 30, 31] hW205.cells hE206 (env' := [(1, .v (.int .i64 v)), (2, .v (.bool flex)), (4, .p 0 0), (10, .v (.slice A8 ((things l4).length) c9)), (11, .v (.slice A197 ((countedB flex (Fld.nul (Fld.mk k21 y22 y23 y24 y25 y26 y27 l28) v (Tree.mk n1 s2 b3 l4 u5)) ((things l4).length) 4 ++ ((things l4).take k).flatMap (valueB (partB d l28 v flex) y27 false flex) ++ (valueB (partB d l28 v flex) y27 false flex (Tree.mk n163 s164 b165 l166 u167))).length) c198)), (30, .v (.int .i64 (((things l4).length : Nat) : Int))), (31, .v (.int .i64 ((k : Nat) : Int)))]) (by kernel_rfl) fun a210 hE211 => ?_)
        clear hE206
        refine ⟨fun h => absurd rfl h, ?_⟩
        refine anyC_done (by kernel_rfl) ?_ _
        refine block_normal ?_
        refine then_normal ?_
        refine go_region [0, 1] (by kernel_rfl) ?_
        refine go_rn [0, 1] [] [(1, .v (.int .i64 v)), (2, .v (.bool flex)), (4, .p 0 0), (10, .v (.slice A8 ((things l4).length) c9)), (11, .v (.slice A197 ((countedB flex (Fld.nul (Fld.mk k21 y22 y23 y24 y25 y26 y27 l28) v (Tree.mk n1 s2 b3 l4 u5)) ((things l4).length) 4 ++ ((things l4).take k).flatMap (valueB (partB d l28 v flex) y27 false flex) ++ (valueB (partB d l28 v flex) y27 false flex (Tree.mk n163 s164 b165 l166 u167))).length) c198)), (30, .v (.int .i64 (((things l4).length : Nat) : Int))), (31, .v (.int .i64 (IntKind.i64.wrap (((k : Nat) : Int) + 1))))] hW205 hE211 fun a212 hE213 => ?_
        clear hE211
        refine wpOps_nil ?_
        refine then_normal ?_
        obtain ⟨hW214, hF215⟩ := hW205.cutR 1 [brow A197 c198 5 (countedB flex (Fld.nul (Fld.mk k21 y22 y23 y24 y25 y26 y27 l28) v (Tree.mk n1 s2 b3 l4 u5)) ((things l4).length) 4 ++ ((things l4).take k).flatMap (valueB (partB d l28 v flex) y27 false flex) ++ (valueB (partB d l28 v flex) y27 false flex (Tree.mk n163 s164 b165 l166 u167)))]
        have er216 : (countedB flex (Fld.nul (Fld.mk k21 y22 y23 y24 y25 y26 y27 l28) v (Tree.mk n1 s2 b3 l4 u5)) ((things l4).length) 4 ++ ((things l4).take k).flatMap (valueB (partB d l28 v flex) y27 false flex) ++ (valueB (partB d l28 v flex) y27 false flex (Tree.mk n163 s164 b165 l166 u167))) = (countedB flex (Fld.nul (Fld.mk k21 y22 y23 y24 y25 y26 y27 l28) v (Tree.mk n1 s2 b3 l4 u5)) ((things l4).length) 4 ++ ((things l4).take (k + 1)).flatMap (valueB (partB d l28 v flex) y27 false flex)) := by rw [flatMap_take_succ he161, List.append_assoc]
        have er217 := congrArg (brow A197 c198 5) er216
        obtain ⟨hW218, hF219⟩ := hW214.rowEq 0 [brow A197 c198 5 (countedB flex (Fld.nul (Fld.mk k21 y22 y23 y24 y25 y26 y27 l28) v (Tree.mk n1 s2 b3 l4 u5)) ((things l4).length) 4 ++ ((things l4).take (k + 1)).flatMap (valueB (partB d l28 v flex) y27 false flex))] er217
        clear hW214
        rw [er216] at hE213
        have he220 : IntKind.i64.wrap (((k : Nat) : Int) + 1) = ((k + 1 : Nat) : Int) := wrap_succ (by omega)
        rw [he220] at hE213
        exact ⟨(things l4).length - (k + 1), by omega, k + 1, A197, c198, rfl, by omega, hE213.pk, hW218, (Fr.trans (Fr.trans (Fr.trans (Fr.trans (Fr.trans (Fr.trans hF142 hF150) hF195) hF201) hF207) hF215) hF219)⟩
      ·
        have hf221 := of_decide_eq_false hc145
        refine wp_exit ?_
        refine then_exit ?_
        refine then_exit ?_
        refine block_exit ?_
        refine then_normal ?_
        refine go_sp [(8, .v (.slice A_ ((countedB flex (Fld.nul (Fld.mk k21 y22 y23 y24 y25 y26 y27 l28) v (Tree.mk n1 s2 b3 l4 u5)) ((things l4).length) 4 ++ ((things l4).take k).flatMap (valueB (partB d l28 v flex) y27 false flex)).length) c_))] hW139 hE144 fun a222 hE223 => ?_
        clear hE144
        refine wp_ret ?_
        refine then_ret ?_
        refine leave hE223 hW139.cells (v := .slice A_ ((countedB flex (Fld.nul (Fld.mk k21 y22 y23 y24 y25 y26 y27 l28) v (Tree.mk n1 s2 b3 l4 u5)) ((things l4).length) 4 ++ ((things l4).take k).flatMap (valueB (partB d l28 v flex) y27 false flex)).length) c_) (by kernel_rfl) ?_
        have hkk : (things l4).take k = things l4 := List.take_of_length_le (by omega)
        exact fresh_end hW139 (k := 0) rfl (by rw [hkk, fieldD_11 (by assumption) (by assumption)]; rfl)
  ·
    have hf224 : k21 ≠ 11 := by simpa using hc66
    refine wp_skip ?_
    refine then_normal ?_
    refine wp_seq ?_
    refine go_seq_region [0, 1, 2, 3, 4, 5, 6, 7] (by kernel_rfl) ?_
    refine go_rn [0, 1, 2, 3] [4, 5, 6, 7] [(1, .v (.int .i64 v)), (2, .v (.bool flex)), (4, .p 0 0), (7, .p 1 0), (9, .v (.bool (Fld.nul (Fld.mk k21 y22 y23 y24 y25 y26 y27 l28) v (Tree.mk n1 s2 b3 l4 u5)))), (52, .v (.bool (k21 == 10)))] hW60 hE65 fun a225 hE226 => ?_
    clear hE65
    refine (Bool.eq_false_or_eq_true (k21 == 10)).elim (fun hc227 => ?_) (fun hc227 => ?_)
    ·
      have hf228 : k21 = 10 := by simpa using hc227
      have hE229 := hE226.cast (env' := [(1, .v (.int .i64 v)), (2, .v (.bool flex)), (4, .p 0 0), (7, .p 1 0), (9, .v (.bool (Fld.nul (Fld.mk k21 y22 y23 y24 y25 y26 y27 l28) v (Tree.mk n1 s2 b3 l4 u5)))), (52, .v (.bool true))]) (by rw [hc227])
      clear hE226
      refine go_rn [4, 5, 6, 7] [] [(1, .v (.int .i64 v)), (2, .v (.bool flex)), (4, .p 0 0), (7, .p 1 0), (9, .v (.bool (Fld.nul (Fld.mk k21 y22 y23 y24 y25 y26 y27 l28) v (Tree.mk n1 s2 b3 l4 u5)))), (56, .v (.bool (decide (y24 ≥ 0))))] hW60 hE229 fun a230 hE231 => ?_
      clear hE229
      refine wpOps_nil ?_
      refine then_normal ?_
      refine cond_of hE231 (b := decide (y24 ≥ 0)) (by kernel_rfl) (fun hc232 => ?_) (fun hc232 => ?_)
      ·
        have hf233 := of_decide_eq_true hc232
        refine wp_seq ?_
        refine go_sp [(1, .v (.int .i64 v)), (2, .v (.bool flex)), (4, .p 0 0), (7, .p 1 0), (57, .v (.bool (Fld.nul (Fld.mk k21 y22 y23 y24 y25 y26 y27 l28) v (Tree.mk n1 s2 b3 l4 u5))))] hW60 hE231 fun a234 hE235 => ?_
        clear hE231
        refine cond_of hE235 (b := Fld.nul (Fld.mk k21 y22 y23 y24 y25 y26 y27 l28) v (Tree.mk n1 s2 b3 l4 u5)) (by kernel_rfl) (fun hc236 => ?_) (fun hc236 => ?_)
        ·
          refine go_seq_region [0, 1] (by kernel_rfl) ?_
          refine of_op (wpOp_call hE235 (f := 136) (vs := [.int .i64 (-1), .int .i64 1]) (d := 58) (by kernel_rfl) Tryz.call136 (sFixed (-1) 1 (by first | decide | exact widthI_le _ | omega) _) ?_)
          rintro e_ w242 ⟨A240, c241, rfl, ho239, hs238⟩
          refine ⟨_, rfl, fun a243 hE244 => ?_⟩
          obtain ⟨hW245, hF246⟩ := hW60.frFresh hs238 (brow A240 c241 5 (be 1 (-1))) (Nat.le_refl _) ho239
          clear hE235 hW60
          refine go_rn [1] [] [(8, .v (.slice A240 ((be 1 (-1)).length) c241))] hW245 hE244 fun a247 hE248 => ?_
          clear hE244
          refine wpOps_nil ?_
          refine then_normal ?_
          refine wp_ret ?_
          refine then_ret ?_
          refine then_ret ?_
          refine leave hE248 hW245.cells (v := .slice A240 ((be 1 (-1)).length) c241) (by kernel_rfl) ?_
          exact fresh_end hW245 (k := 0) rfl (by first | rw [fieldD_0 (by assumption) (by assumption)] | rw [fieldD_1 (by assumption) (by assumption) (by assumption)] | rw [fieldD_10 (by assumption) (by assumption) (by assumption) (by assumption)] | rw [fieldD_10n (by assumption) (by assumption) (by assumption) (by assumption)])
        ·
          refine wp_skip ?_
          refine then_normal ?_
          refine go_seq_drawK 8 (by kernel_rfl) hW60 fun w250 hF251 hW252 hT253 => ?_
          clear hW60
          refine go_rnD [1, 2, 3, 4, 5] [(61, .v (.slice A29 l28.length c30)), (62, .v (.int .i64 v)), (63, .v (.bool flex)), (64, .v (.agg #[.int .i64 n1, .slice A6 s2.length c7, .bool b3, .slice A8 l4.length c9, .slice A10 u5.length c11]))] 4 (panicFree_then (panicFree_then panicFree_body)) (fun _ h => h.cells) hT253 hE235 fun a254 hE255 => ?_
          clear hE235
          refine anyC_op (i := 0) (by kernel_rfl) (wpOp_call hE255 (f := 136) (vs := [.int .i64 1, .int .i64 1]) (d := 59) (by kernel_rfl) Tryz.call136 (sFixed 1 1 (by first | decide | exact widthI_le _ | omega) _) ?_)
          rintro e_ w260 ⟨A258, c259, rfl, ho257, hs256⟩
          refine ⟨_, rfl, fun a261 hE262 => ?_⟩
          obtain ⟨hW263, hF264⟩ := hW252.frFresh hs256 (brow A258 c259 5 (be 1 1)) (Nat.le_refl _) ho257
          clear hE255
          have hT265 := TT.ofW hF264 hW263
          refine ⟨fun _ => hT265, ?_⟩
          refine anyC_op (i := 6) (by kernel_rfl) (wpOp_call hE262 (f := 42) (vs := [.slice A29 l28.length c30, .int .i64 v, .bool flex, .agg #[.int .i64 n1, .slice A6 s2.length c7, .bool b3, .slice A8 l4.length c9, .slice A10 u5.length c11]]) (d := 65) (by kernel_rfl) Tryz.call42 (hp _ _ l28 v flex _ (Tree.mk n1 s2 b3 l4 u5) _ _ ⟨xs31, (h33.move hW263.step nilM hW263.imm), (fun i_ x_ h_ => ((h34 i_ x_ h_).move hW263.step nilM hW263.imm))⟩ hd (ht.move hW263.step nilM hW263.imm) (by have h9_ := hroom; rw [fieldD_10 (by assumption) (by assumption) (by assumption) (by assumption), List.length_append] at h9_; omega)) ?_)
          rintro e_ w270 ⟨A268, c269, rfl, ho267, hs266⟩
          refine ⟨_, rfl, fun a271 hE272 => ?_⟩
          obtain ⟨hW273, hF274⟩ := hW263.frFresh hs266 (brow A268 c269 5 (partB d l28 v flex (Tree.mk n1 s2 b3 l4 u5))) (Nat.le_refl _) ho267
          clear hE262 hW263
          have hT275 := TT.ofW (Fr.trans hF264 hF274) hW273
          refine ⟨fun _ => hT275, ?_⟩
          refine anyC_op (i := 7) (by kernel_rfl) (wpOp_append hW273 hE272 (k := 0) (d := 66) (t := 22) (e := 5) (size := 1) (bytes := 1) (A := A258) (As := A268) (m0 := ((be 1 1).length)) (c := c259) (m := ((partB d l28 v flex (Tree.mk n1 s2 b3 l4 u5)).length)) (cs := c269) (xs := (bc (be 1 1))) (news := bc (partB d l28 v flex (Tree.mk n1 s2 b3 l4 u5))) (by kernel_rfl) (by kernel_rfl) rfl (own_src (hW273.own 1 _ rfl) (bc_one _)) (own_cap (hW273.own 1 _ rfl)) (by have h9_ := hroom; rw [fieldD_10 (by assumption) (by assumption) (by assumption) (by assumption), List.length_append] at h9_; omega) fun A276 c277 a278 w279 hF280 hW281 hE282 => ?_)
          clear hE272 hW273
          have er283 : (⟨A276, c277, 5, 1, (be 1 1).length + (partB d l28 v flex (Tree.mk n1 s2 b3 l4 u5)).length, bc (be 1 1) ++ bc (partB d l28 v flex (Tree.mk n1 s2 b3 l4 u5))⟩ : Rw) = brow A276 c277 5 (be 1 1 ++ (partB d l28 v flex (Tree.mk n1 s2 b3 l4 u5))) := brow_eq (rfl) rfl
          obtain ⟨hW284, hF286⟩ := hW281.rowEq 0 [brow A276 c277 5 (be 1 1 ++ (partB d l28 v flex (Tree.mk n1 s2 b3 l4 u5))), brow A268 c269 5 (partB d l28 v flex (Tree.mk n1 s2 b3 l4 u5))] er283
          clear hW281
          have hE287 := EnvOk.pick hE282 (ks := [61, 62, 63, 64, 59, 65, 66]) (env' := [(61, .v (.slice A29 l28.length c30)), (62, .v (.int .i64 v)), (63, .v (.bool flex)), (64, .v (.agg #[.int .i64 n1, .slice A6 s2.length c7, .bool b3, .slice A8 l4.length c9, .slice A10 u5.length c11])), (59, .v (.slice A258 ((be 1 1).length) c259)), (65, .v (.slice A268 ((partB d l28 v flex (Tree.mk n1 s2 b3 l4 u5)).length) c269)), (66, .v (.slice A276 ((be 1 1).length + (partB d l28 v flex (Tree.mk n1 s2 b3 l4 u5)).length) c277))]) (by kernel_rfl)
          have hE285 := hE287.cast (env' := [(61, .v (.slice A29 l28.length c30)), (62, .v (.int .i64 v)), (63, .v (.bool flex)), (64, .v (.agg #[.int .i64 n1, .slice A6 s2.length c7, .bool b3, .slice A8 l4.length c9, .slice A10 u5.length c11])), (59, .v (.slice A258 ((be 1 1).length) c259)), (65, .v (.slice A268 ((partB d l28 v flex (Tree.mk n1 s2 b3 l4 u5)).length) c269)), (66, .v (.slice A276 ((be 1 1 ++ (partB d l28 v flex (Tree.mk n1 s2 b3 l4 u5))).length) c277))]) (by simp only [List.length_append, List.length_cons, List.length_nil, Nat.zero_add])
          clear hE282
          clear hE287
          have hT288 := TT.ofW (Fr.trans (Fr.trans (Fr.trans hF264 hF274) hF280) hF286) hW284
          refine ⟨fun _ => hT288, ?_⟩
          refine anyC_op (i := 8) (by kernel_rfl) (wpOp_pure [8] hW284.cells hE285 (env' := [(8, .v (.slice A276 ((be 1 1 ++ (partB d l28 v flex (Tree.mk n1 s2 b3 l4 u5))).length) c277))]) (by kernel_rfl) fun a289 hE290 => ?_)
          clear hE285
          refine ⟨fun h => absurd rfl h, ?_⟩
          refine anyC_done (by kernel_rfl) ?_ _
          refine then_normal ?_
          refine wp_ret ?_
          refine then_ret ?_
          refine leave hE290 hW284.cells (v := .slice A276 ((be 1 1 ++ (partB d l28 v flex (Tree.mk n1 s2 b3 l4 u5))).length) c277) (by kernel_rfl) ?_
          exact fresh_end hW284 (k := 0) rfl (by first | rw [fieldD_0 (by assumption) (by assumption)] | rw [fieldD_1 (by assumption) (by assumption) (by assumption)] | rw [fieldD_10 (by assumption) (by assumption) (by assumption) (by assumption)] | rw [fieldD_10n (by assumption) (by assumption) (by assumption) (by assumption)])
      ·
        have hf291 := of_decide_eq_false hc232
        refine wp_skip ?_
        refine then_normal ?_
        refine go_seq_region [0, 1, 2, 3, 4, 5, 6, 7, 8, 9] (by kernel_rfl) ?_
        refine go_rn [0, 1, 2, 3, 4, 5, 6, 7] [8, 9] [(68, .v (.int .i64 k21)), (70, .v (.slice A29 l28.length c30)), (71, .v (.bool (Fld.nul (Fld.mk k21 y22 y23 y24 y25 y26 y27 l28) v (Tree.mk n1 s2 b3 l4 u5)))), (72, .v (.int .i64 v)), (73, .v (.bool flex)), (74, .v (.agg #[.int .i64 n1, .slice A6 s2.length c7, .bool b3, .slice A8 l4.length c9, .slice A10 u5.length c11]))] hW60 hE231 fun a292 hE293 => ?_
        clear hE231
        refine of_op (wpOp_call hE293 (f := 142) (vs := [.int .i64 k21, .slice A29 l28.length c30, .bool (Fld.nul (Fld.mk k21 y22 y23 y24 y25 y26 y27 l28) v (Tree.mk n1 s2 b3 l4 u5)), .int .i64 v, .bool flex, .agg #[.int .i64 n1, .slice A6 s2.length c7, .bool b3, .slice A8 l4.length c9, .slice A10 u5.length c11]]) (d := 75) (by kernel_rfl) Tryz.call142 (sValue hp k21 _ _ l28 (Fld.nul (Fld.mk k21 y22 y23 y24 y25 y26 y27 l28) v (Tree.mk n1 s2 b3 l4 u5)) v flex _ (Tree.mk n1 s2 b3 l4 u5) _ _ ⟨xs31, (h33.move hW60.step nilM hW60.imm), (fun i_ x_ h_ => ((h34 i_ x_ h_).move hW60.step nilM hW60.imm))⟩ hd (ht.move hW60.step nilM hW60.imm) (by have h_ := hroom; (first | rw [fieldD_0 (by assumption) (by assumption)] at h_ | rw [fieldD_1 (by assumption) (by assumption) (by assumption)] at h_); exact h_)) ?_)
        rintro e_ w298 ⟨A296, c297, rfl, ho295, hs294⟩
        refine ⟨_, rfl, fun a299 hE300 => ?_⟩
        obtain ⟨hW301, hF302⟩ := hW60.frFresh hs294 (brow A296 c297 5 (valueB (partB d l28 v flex) k21 (Fld.nul (Fld.mk k21 y22 y23 y24 y25 y26 y27 l28) v (Tree.mk n1 s2 b3 l4 u5)) flex (Tree.mk n1 s2 b3 l4 u5))) (Nat.le_refl _) ho295
        clear hE293 hW60
        refine go_rn [9] [] [(8, .v (.slice A296 ((valueB (partB d l28 v flex) k21 (Fld.nul (Fld.mk k21 y22 y23 y24 y25 y26 y27 l28) v (Tree.mk n1 s2 b3 l4 u5)) flex (Tree.mk n1 s2 b3 l4 u5)).length) c297))] hW301 hE300 fun a303 hE304 => ?_
        clear hE300
        refine wpOps_nil ?_
        refine then_normal ?_
        refine wp_ret ?_
        refine leave hE304 hW301.cells (v := .slice A296 ((valueB (partB d l28 v flex) k21 (Fld.nul (Fld.mk k21 y22 y23 y24 y25 y26 y27 l28) v (Tree.mk n1 s2 b3 l4 u5)) flex (Tree.mk n1 s2 b3 l4 u5)).length) c297) (by kernel_rfl) ?_
        exact fresh_end hW301 (k := 0) rfl (by first | rw [fieldD_0 (by assumption) (by assumption)] | rw [fieldD_1 (by assumption) (by assumption) (by assumption)] | rw [fieldD_10 (by assumption) (by assumption) (by assumption) (by assumption)] | rw [fieldD_10n (by assumption) (by assumption) (by assumption) (by assumption)])
    ·
      have hf305 : k21 ≠ 10 := by simpa using hc227
      have hE306 := hE226.cast (env' := [(1, .v (.int .i64 v)), (2, .v (.bool flex)), (4, .p 0 0), (7, .p 1 0), (9, .v (.bool (Fld.nul (Fld.mk k21 y22 y23 y24 y25 y26 y27 l28) v (Tree.mk n1 s2 b3 l4 u5)))), (52, .v (.bool false))]) (by rw [hc227])
      clear hE226
      refine go_rn [4, 5, 6, 7] [] [(1, .v (.int .i64 v)), (2, .v (.bool flex)), (4, .p 0 0), (7, .p 1 0), (9, .v (.bool (Fld.nul (Fld.mk k21 y22 y23 y24 y25 y26 y27 l28) v (Tree.mk n1 s2 b3 l4 u5)))), (56, .v (.bool false))] hW60 hE306 fun a307 hE308 => ?_
      clear hE306
      refine wpOps_nil ?_
      refine then_normal ?_
      refine cond_false hE308 (b := false) (by kernel_rfl) rfl ?_
      refine wp_skip ?_
      refine then_normal ?_
      refine go_seq_region [0, 1, 2, 3, 4, 5, 6, 7, 8, 9] (by kernel_rfl) ?_
      refine go_rn [0, 1, 2, 3, 4, 5, 6, 7] [8, 9] [(68, .v (.int .i64 k21)), (70, .v (.slice A29 l28.length c30)), (71, .v (.bool (Fld.nul (Fld.mk k21 y22 y23 y24 y25 y26 y27 l28) v (Tree.mk n1 s2 b3 l4 u5)))), (72, .v (.int .i64 v)), (73, .v (.bool flex)), (74, .v (.agg #[.int .i64 n1, .slice A6 s2.length c7, .bool b3, .slice A8 l4.length c9, .slice A10 u5.length c11]))] hW60 hE308 fun a309 hE310 => ?_
      clear hE308
      refine of_op (wpOp_call hE310 (f := 142) (vs := [.int .i64 k21, .slice A29 l28.length c30, .bool (Fld.nul (Fld.mk k21 y22 y23 y24 y25 y26 y27 l28) v (Tree.mk n1 s2 b3 l4 u5)), .int .i64 v, .bool flex, .agg #[.int .i64 n1, .slice A6 s2.length c7, .bool b3, .slice A8 l4.length c9, .slice A10 u5.length c11]]) (d := 75) (by kernel_rfl) Tryz.call142 (sValue hp k21 _ _ l28 (Fld.nul (Fld.mk k21 y22 y23 y24 y25 y26 y27 l28) v (Tree.mk n1 s2 b3 l4 u5)) v flex _ (Tree.mk n1 s2 b3 l4 u5) _ _ ⟨xs31, (h33.move hW60.step nilM hW60.imm), (fun i_ x_ h_ => ((h34 i_ x_ h_).move hW60.step nilM hW60.imm))⟩ hd (ht.move hW60.step nilM hW60.imm) (by have h_ := hroom; (first | rw [fieldD_0 (by assumption) (by assumption)] at h_ | rw [fieldD_1 (by assumption) (by assumption) (by assumption)] at h_); exact h_)) ?_)
      rintro e_ w315 ⟨A313, c314, rfl, ho312, hs311⟩
      refine ⟨_, rfl, fun a316 hE317 => ?_⟩
      obtain ⟨hW318, hF319⟩ := hW60.frFresh hs311 (brow A313 c314 5 (valueB (partB d l28 v flex) k21 (Fld.nul (Fld.mk k21 y22 y23 y24 y25 y26 y27 l28) v (Tree.mk n1 s2 b3 l4 u5)) flex (Tree.mk n1 s2 b3 l4 u5))) (Nat.le_refl _) ho312
      clear hE310 hW60
      refine go_rn [9] [] [(8, .v (.slice A313 ((valueB (partB d l28 v flex) k21 (Fld.nul (Fld.mk k21 y22 y23 y24 y25 y26 y27 l28) v (Tree.mk n1 s2 b3 l4 u5)) flex (Tree.mk n1 s2 b3 l4 u5)).length) c314))] hW318 hE317 fun a320 hE321 => ?_
      clear hE317
      refine wpOps_nil ?_
      refine then_normal ?_
      refine wp_ret ?_
      refine leave hE321 hW318.cells (v := .slice A313 ((valueB (partB d l28 v flex) k21 (Fld.nul (Fld.mk k21 y22 y23 y24 y25 y26 y27 l28) v (Tree.mk n1 s2 b3 l4 u5)) flex (Tree.mk n1 s2 b3 l4 u5)).length) c314) (by kernel_rfl) ?_
      exact fresh_end hW318 (k := 0) rfl (by first | rw [fieldD_0 (by assumption) (by assumption)] | rw [fieldD_1 (by assumption) (by assumption) (by assumption)] | rw [fieldD_10 (by assumption) (by assumption) (by assumption) (by assumption)] | rw [fieldD_10n (by assumption) (by assumption) (by assumption) (by assumption)])

end Go.Proofs.YtnhgfbgdoelfoaaGreatDoor.ME

/- Contracts: printed by tools/sp.py. Own work. -/
namespace Go.Proofs.YtnhgfbgdoelfoaaGreatDoor.ME
open Go
set_option linter.unusedVariables false
set_option linter.unusedSimpArgs false
set_option maxRecDepth 20000

theorem sUnknown (Af : Option Addr) (cf : Nat) (l : List Fld) (A : Option Addr) (c : Nat) (u : List (Int × Bs)) (w : World) (F : Nat → Nat → Prop) (hl : FldsR w F Af cf l) (hu : TagsR w F A c u) :
    Calls Tryz.prog 87 #[.slice Af l.length cf, .slice A u.length c] w (GivesU w F (unknownT l u)) := by
  obtain ⟨xf, hf1, hf2⟩ := hl.ex
  obtain ⟨xu, hu1, hu2⟩ := hu.ex
  have hsmu := hu1.small
  have hule : (u.take 32767).length ≤ 32767 := by rw [List.length_take]; omega
  refine enter (n := 85) Tryz.func87 rfl Tryz.ntmps87 (by kernel_rfl) fun a hE => ?_
  have hW := WOk.start w Nil
  refine go_sp [(0, .v (.slice Af l.length cf)), (1, .v (.slice A u.length c))] hW hE fun a1 hE2 => ?_
  clear hE
  refine go_seq_region [0, 1, 2] (by kernel_rfl) ?_
  refine go_rn [0] [1, 2] [(1, .v (.slice A u.length c)), (11, .v (.slice Af l.length cf))] hW hE2 fun a3 hE4 => ?_
  clear hE2
  refine of_op (wpOp_call hE4 (f := 93) (vs := [.slice Af l.length cf]) (d := 12) (by kernel_rfl) Tryz.call93 (sKnown _ _ l _ _ ⟨xf, (hf1.move hW.step nilM hW.imm), (fun i_ x_ h_ => ((hf2 i_ x_ h_).move hW.step nilM hW.imm))⟩) ?_)
  rintro e_ w6 ⟨rfl, hs5⟩
  refine ⟨_, rfl, fun a7 hE8 => ?_⟩
  have hW9 := hW.next_nil hs5
  have hF10 := hW.frN hs5
  clear hE4 hW
  refine go_rn [2] [] [(1, .v (.slice A u.length c)), (5, .v (.int .u32 (knownI l)))] hW9 hE8 fun a11 hE12 => ?_
  clear hE8
  refine wpOps_nil ?_
  refine then_normal ?_
  refine go_sp [(1, .v (.slice A u.length c)), (5, .v (.int .u32 (knownI l))), (6, .v (.slice none 0 0))] hW9 hE12 fun a13 hE14 => ?_
  clear hE12
  refine wp_seq ?_
  refine go_seq_region [0, 1, 2, 3, 4, 5, 6] (by kernel_rfl) ?_
  refine go_rn [0, 1, 2, 3] [4, 5, 6] [(5, .v (.int .u32 (knownI l))), (6, .v (.slice none 0 0)), (13, .v (.slice A u.length c)), (16, .v (.int .i64 (if 32767 < ((u.length : Nat) : Int) then 32767 else ((u.length : Nat) : Int))))] hW9 hE14 fun a15 hE16 => ?_
  clear hE14
  refine of_op (wpOp_cut_hi hE16 (t := 24) (A := A) (m := u.length) (cp := c) (q := (if 32767 < ((u.length : Nat) : Int) then 32767 else ((u.length : Nat) : Int))) (d := 17) (j := (u.take 32767).length) (by kernel_rfl) (e := 83) (size := 2) (bytes := 32) (by kernel_rfl) (by simpa using min_lit u.length) (by rw [List.length_take]; have := hu1.le; omega) fun a17 hE18 => ?_)
  clear hE16
  refine go_rn [5, 6] [] [(5, .v (.int .u32 (knownI l))), (6, .v (.slice none 0 0)), (17, .v (.slice A ((u.take 32767).length) c)), (18, .v (.int .i64 (((u.take 32767).length : Nat) : Int))), (19, .v (.int .i64 0))] hW9 hE18 fun a19 hE20 => ?_
  clear hE18
  refine wpOps_nil ?_
  refine then_normal ?_
  refine wp_block ?_
  have hW21 := hW9.addNil 83 2
  have hF22 := hW9.frNil 83 2
  clear hW9
  refine wp_loop_ghost (fun n_ a_ w_ => ∃ (k : Nat) (A_ : Option Addr) (c_ : Nat) (out : List (Int × Bs)) (css : List (List Value)), n_ = (u.take 32767).length - k ∧ k ≤ (u.take 32767).length ∧ (TagsE w_ (Imm F w w_ [] [⟨A_, c_, 83, 2, out.length, css.flatten⟩]) out css) ∧ (out = ((u.take 32767).take k).foldl (insTag (knownI l)) []) ∧ (out.length ≤ k) ∧ LInv hW21 85 [] [⟨A_, c_, 83, 2, out.length, css.flatten⟩] [(5, .v (.int .u32 (knownI l))), (6, .v (.slice A_ out.length c_)), (17, .v (.slice A ((u.take 32767).length) c)), (18, .v (.int .i64 (((u.take 32767).length : Nat) : Int))), (19, .v (.int .i64 ((k : Nat) : Int)))] a_ w_) ((u.take 32767).length) ⟨0, none, 0, [], [], by omega, by omega, TagsE.nil _ _, rfl, Nat.zero_le _, hE20.pk, hW21, Fr.refl _ _ _⟩ ?_
  clear hE20
  rintro n23 a24 w25 ⟨k, A_, c_, out, css, hn28, hk29, hT, hout, hlen, hE26, hW27, hF30⟩
  refine go_sp [(5, .v (.int .u32 (knownI l))), (6, .v (.slice A_ out.length c_)), (17, .v (.slice A ((u.take 32767).length) c)), (18, .v (.int .i64 (((u.take 32767).length : Nat) : Int))), (19, .v (.int .i64 ((k : Nat) : Int))), (20, .v (.bool (decide (((k : Nat) : Int) < (((u.take 32767).length : Nat) : Int)))))] hW27 hE26 fun a31 hE32 => ?_
  clear hE26
  refine wp_seq ?_
  refine cond_of hE32 (b := decide (((k : Nat) : Int) < (((u.take 32767).length : Nat) : Int))) (by kernel_rfl) (fun hc33 => ?_) (fun hc33 => ?_)
  ·
    have hf34 := of_decide_eq_true hc33
    refine wp_skip ?_
    refine then_normal ?_
    refine wp_seq ?_
    refine wp_block ?_
    refine go_seq_region [0, 1, 2, 3] (by kernel_rfl) ?_
    obtain ⟨b35, o36, hA37, hl38, hat39⟩ := Slots.get (tags_take_slots hu1 32767) (i := k) (by omega)
    obtain ⟨⟨k40, s41⟩, he42⟩ : ∃ x, (u.take 32767)[k]? = some x := ⟨_, List.getElem?_eq_getElem (by omega)⟩
    obtain ⟨⟨A43, c44, hcs45, hb46⟩, h47, h48⟩ := (tags_take_each hu2 32767) k k40 s41 he42
    rw [hcs45] at hat39
    refine of_op (wpOp_index hE32 (t := 24) (A := A) (m := ((u.take 32767).length)) (q := ((k : Nat) : Int)) (d := 21) (by kernel_rfl) (e := 83) (size := 2) (bytes := 32) (by kernel_rfl) hA37 rfl (by omega) fun a49 hE50 => ?_)
    clear hE32
    refine of_op (wpOp_load hE50 (t := 83) (b := b35) (o := o36 + k * 2) (d := 22) (by kernel_rfl) (cs := [.int .u32 k40, .slice A43 s41.length c44]) (v := .agg #[.int .u32 k40, .slice A43 s41.length c44]) (by kernel_rfl) (AtF.move hat39 hW27.step nilM keepF).at_ fun a51 hE52 => ?_)
    clear hE50
    refine of_op (wpOp_alloc hW27 hE52 (d := 8) (cs := [.int .u32 0, .slice none 0 0]) (by kernel_rfl) fun b53 a54 w55 hb56 hz57 hF58 hW59 hE60 => ?_)
    clear hE52 hW27
    refine of_op (wpOp_store hW59 hE60 (oi := 0) (cs := [.int .u32 k40, .slice A43 s41.length c44]) (by kernel_rfl) fun w61 hF62 hW63 hE64 => ?_)
    clear hE60 hW59
    refine wpOps_nil ?_
    refine then_normal ?_
    refine go_sp [(5, .v (.int .u32 (knownI l))), (6, .v (.slice A_ out.length c_)), (8, .p 0 0), (9, .v (.int .i64 0)), (17, .v (.slice A ((u.take 32767).length) c)), (18, .v (.int .i64 (((u.take 32767).length : Nat) : Int))), (19, .v (.int .i64 ((k : Nat) : Int)))] hW63 hE64 fun a65 hE66 => ?_
    clear hE64
    refine wp_seq ?_
    refine wp_block ?_
    refine wp_loop_ghost (fun n_ a_ w_ => ∃ (i : Nat), n_ = out.length - i ∧ (i ≤ out.length) ∧ (∀ q, q < i → (out.getD q (0, [])).1 < k40) ∧ LInv hW63 85 [⟨b53, 0, [.int .u32 k40, .slice A43 s41.length c44], true⟩] [⟨A_, c_, 83, 2, out.length, css.flatten⟩] [(5, .v (.int .u32 (knownI l))), (6, .v (.slice A_ out.length c_)), (8, .p 0 0), (9, .v (.int .i64 ((i : Nat) : Int))), (17, .v (.slice A ((u.take 32767).length) c)), (18, .v (.int .i64 (((u.take 32767).length : Nat) : Int))), (19, .v (.int .i64 ((k : Nat) : Int)))] a_ w_) (out.length - 0) ⟨0, rfl, Nat.zero_le _, fun q h_ => absurd h_ (Nat.not_lt_zero q), hE66.pk, hW63, Fr.refl _ _ _⟩ ?_
    clear hE66
    rintro n67 a68 w69 ⟨i, hn72, hi, hlt, hE70, hW71, hF73⟩
    refine wp_seq ?_
    refine go_seq_drawQ (by kernel_rfl) hW71 fun w74 hF75 hW76 => ?_
    clear hW71
    refine go_rnD [0, 1, 2, 3, 4] [(5, .v (.int .u32 (knownI l))), (6, .v (.slice A_ out.length c_)), (8, .p 0 0), (9, .v (.int .i64 ((i : Nat) : Int))), (17, .v (.slice A ((u.take 32767).length) c)), (18, .v (.int .i64 (((u.take 32767).length : Nat) : Int))), (19, .v (.int .i64 ((k : Nat) : Int))), (27, .v (.bool (decide (((i : Nat) : Int) < ((out.length : Nat) : Int)))))] 9 (panicFree_then (panicFree_then (panicFree_then (panicFree_block (panicFree_then (panicFree_block (panicFree_then (panicFree_then (panicFree_block (panicFree_then panicFree_body)))))))))) (fun _ h => h ▸ hW76.cells) rfl hE70 fun a77 hE78 => ?_
    clear hE70
    refine (Bool.eq_false_or_eq_true (decide (((i : Nat) : Int) < ((out.length : Nat) : Int)))).elim (fun hc79 => ?_) (fun hc79 => ?_)
    ·
      have hf80 := of_decide_eq_true hc79
      have hE81 := hE78.cast (env' := [(5, .v (.int .u32 (knownI l))), (6, .v (.slice A_ out.length c_)), (8, .p 0 0), (9, .v (.int .i64 ((i : Nat) : Int))), (17, .v (.slice A ((u.take 32767).length) c)), (18, .v (.int .i64 (((u.take 32767).length : Nat) : Int))), (19, .v (.int .i64 ((k : Nat) : Int))), (27, .v (.bool true))]) (by rw [hc79])
      clear hE78
      refine go_rnD [5, 6, 10, 11] [(5, .v (.int .u32 (knownI l))), (6, .v (.slice A_ out.length c_)), (8, .p 0 0), (9, .v (.int .i64 ((i : Nat) : Int))), (17, .v (.slice A ((u.take 32767).length) c)), (18, .v (.int .i64 (((u.take 32767).length : Nat) : Int))), (19, .v (.int .i64 ((k : Nat) : Int))), (27, .v (.bool true)), (28, .v (.slice A_ out.length c_)), (29, .v (.int .i64 ((i : Nat) : Int))), (34, .v (.int .u32 k40))] 5 (panicFree_then (panicFree_then (panicFree_then (panicFree_block (panicFree_then (panicFree_block (panicFree_then (panicFree_then (panicFree_block (panicFree_then panicFree_body)))))))))) (fun _ h => h ▸ hW76.cells) rfl hE81 fun a82 hE83 => ?_
      clear hE81
      obtain ⟨g84, hA85⟩ := own_addr (hW76.own 0 _ rfl) (show 0 < out.length by omega)
      obtain ⟨⟨k87, s88⟩, hx89⟩ : ∃ x, out[i]? = some x := ⟨_, List.getElem?_eq_getElem (by omega)⟩
      obtain ⟨A90, c91, hc92, hO93, h94, h95⟩ := TagsE.get2 (hT.move (Fr.trans (Fr.trans (Fr.trans hF58 hF62) hF73) hF75).step immM (Fr.trans (Fr.trans (Fr.trans hF58 hF62) hF73) hF75).to') hx89
      have hat86 := own_at (hW76.own 0 _ rfl) hA85 (flat_cells (hT.move (Fr.trans (Fr.trans (Fr.trans hF58 hF62) hF73) hF75).step immM (Fr.trans (Fr.trans (Fr.trans hF58 hF62) hF73) hF75).to').two hc92)
      refine takeC_index hE83 (i := 7) (t := 24) (A := A_) (m := out.length) (q := ((i : Nat) : Int)) (d := 30) (by kernel_rfl) (e := 83) (size := 2) (bytes := 32) (by kernel_rfl) (b := g84) (o := 0) (j := i) hA85 (rfl) (by omega) (by kernel_rfl) (by kernel_rfl) (panicFree_then (panicFree_then (panicFree_then (panicFree_block (panicFree_then (panicFree_block (panicFree_then (panicFree_then (panicFree_block (panicFree_then panicFree_body)))))))))) rfl fun a96 hE97 => ?_
      clear hE83
      refine go_rnD [8] [(5, .v (.int .u32 (knownI l))), (6, .v (.slice A_ out.length c_)), (8, .p 0 0), (9, .v (.int .i64 ((i : Nat) : Int))), (17, .v (.slice A ((u.take 32767).length) c)), (18, .v (.int .i64 (((u.take 32767).length : Nat) : Int))), (19, .v (.int .i64 ((k : Nat) : Int))), (27, .v (.bool true)), (31, .v (.pointer (some ⟨g84, 0 + i * 2, none⟩))), (34, .v (.int .u32 k40))] 3 (panicFree_then (panicFree_then (panicFree_then (panicFree_block (panicFree_then (panicFree_block (panicFree_then (panicFree_then (panicFree_block (panicFree_then panicFree_body)))))))))) (fun _ h => h ▸ hW76.cells) rfl hE97 fun a98 hE99 => ?_
      clear hE97
      refine takeC_load hE99 (i := 9) (t := 81) (b := g84) (o := 0 + i * 2) (d := 32) (by kernel_rfl) (cs := [.int .u32 k87]) (v := .int .u32 k87) (by kernel_rfl) (fun w' h' => h' ▸ (At.drop hat86 0 1)) (by kernel_rfl) (by kernel_rfl) (panicFree_then (panicFree_then (panicFree_then (panicFree_block (panicFree_then (panicFree_block (panicFree_then (panicFree_then (panicFree_block (panicFree_then panicFree_body)))))))))) rfl fun a100 hE101 => ?_
      clear hE99
      refine go_rnD [12, 13] [(5, .v (.int .u32 (knownI l))), (6, .v (.slice A_ out.length c_)), (8, .p 0 0), (9, .v (.int .i64 ((i : Nat) : Int))), (17, .v (.slice A ((u.take 32767).length) c)), (18, .v (.int .i64 (((u.take 32767).length : Nat) : Int))), (19, .v (.int .i64 ((k : Nat) : Int))), (36, .v (.bool (decide (k87 < k40))))] 0 (panicFree_then (panicFree_then (panicFree_then (panicFree_block (panicFree_then (panicFree_block (panicFree_then (panicFree_then (panicFree_block (panicFree_then panicFree_body)))))))))) (fun _ h => h ▸ hW76.cells) rfl hE101 fun a102 hE103 => ?_
      clear hE101
      refine anyC_done (by kernel_rfl) ?_ _
      refine then_normal ?_
      refine cond_of hE103 (b := decide (k87 < k40)) (by kernel_rfl) (fun hc104 => ?_) (fun hc104 => ?_)
      ·
        have hf105 := of_decide_eq_true hc104
        refine wp_skip ?_
        refine then_normal ?_
        refine wp_block ?_
        refine go_region [0, 1, 2] (by kernel_rfl) ?_
        refine go_rn [0, 1, 2] [] [(5, .v (.int .u32 (knownI l))), (6, .v (.slice A_ out.length c_)), (8, .p 0 0), (9, .v (.int .i64 (IntKind.i64.wrap (((i : Nat) : Int) + 1)))), (17, .v (.slice A ((u.take 32767).length) c)), (18, .v (.int .i64 (((u.take 32767).length : Nat) : Int))), (19, .v (.int .i64 ((k : Nat) : Int)))] hW76 hE103 fun a106 hE107 => ?_
        clear hE103
        refine wpOps_nil ?_
        refine block_normal ?_
        refine then_normal ?_
        have he108 : IntKind.i64.wrap (((i : Nat) : Int) + 1) = ((i + 1 : Nat) : Int) := wrap_succ (by omega)
        rw [he108] at hE107
        exact ⟨out.length - (i + 1), by omega, (i + 1), rfl, by omega, fun q hq => by rcases Nat.lt_succ_iff_lt_or_eq.1 hq with h_ | h_; exact hlt q h_; rw [h_, getD_of hx89]; assumption, hE107.pk, hW76, (Fr.trans hF73 hF75)⟩
      ·
        have hf109 := of_decide_eq_false hc104
        refine wp_exit ?_
        refine then_exit ?_
        refine then_exit ?_
        refine block_exit ?_
        refine then_normal ?_
        refine wp_seq ?_
        refine go_seq_drawQ (by kernel_rfl) hW76 fun w110 hF111 hW112 => ?_
        refine go_rnD [0, 1, 2, 3, 4] [(5, .v (.int .u32 (knownI l))), (6, .v (.slice A_ out.length c_)), (8, .p 0 0), (9, .v (.int .i64 ((i : Nat) : Int))), (17, .v (.slice A ((u.take 32767).length) c)), (18, .v (.int .i64 (((u.take 32767).length : Nat) : Int))), (19, .v (.int .i64 ((k : Nat) : Int))), (43, .v (.bool (decide (k40 < (knownI l)))))] 15 (panicFree_then (panicFree_then (panicFree_block (panicFree_then (panicFree_then (panicFree_block (panicFree_then panicFree_body))))))) (fun _ h => h ▸ hW112.cells) rfl hE103 fun a113 hE114 => ?_
        clear hE103
        refine (Bool.eq_false_or_eq_true (decide (k40 < (knownI l)))).elim (fun hc115 => ?_) (fun hc115 => ?_)
        ·
          have hf116 := of_decide_eq_true hc115
          have hE117 := hE114.cast (env' := [(5, .v (.int .u32 (knownI l))), (6, .v (.slice A_ out.length c_)), (8, .p 0 0), (9, .v (.int .i64 ((i : Nat) : Int))), (17, .v (.slice A ((u.take 32767).length) c)), (18, .v (.int .i64 (((u.take 32767).length : Nat) : Int))), (19, .v (.int .i64 ((k : Nat) : Int))), (43, .v (.bool true))]) (by rw [hc115])
          clear hE114
          refine go_rnD [5, 6, 7, 8, 9, 10, 11, 12, 13, 14, 15, 16, 17, 18, 19] [(5, .v (.int .u32 (knownI l))), (6, .v (.slice A_ out.length c_)), (8, .p 0 0), (9, .v (.int .i64 ((i : Nat) : Int))), (17, .v (.slice A ((u.take 32767).length) c)), (18, .v (.int .i64 (((u.take 32767).length : Nat) : Int))), (19, .v (.int .i64 ((k : Nat) : Int))), (58, .v (.bool true))] 0 (panicFree_then (panicFree_then (panicFree_block (panicFree_then (panicFree_then (panicFree_block (panicFree_then panicFree_body))))))) (fun _ h => h ▸ hW112.cells) rfl hE117 fun a118 hE119 => ?_
          clear hE117
          refine anyC_done (by kernel_rfl) ?_ _
          refine then_normal ?_
          refine cond_true hE119 (b := true) (by kernel_rfl) rfl ?_
          refine wp_exit ?_
          refine then_exit ?_
          refine block_exit ?_
          refine then_normal ?_
          refine go_region [0, 1] (by kernel_rfl) ?_
          refine go_rn [0, 1] [] [(5, .v (.int .u32 (knownI l))), (6, .v (.slice A_ out.length c_)), (17, .v (.slice A ((u.take 32767).length) c)), (18, .v (.int .i64 (((u.take 32767).length : Nat) : Int))), (19, .v (.int .i64 (IntKind.i64.wrap (((k : Nat) : Int) + 1))))] hW112 hE119 fun a120 hE121 => ?_
          clear hE119
          refine wpOps_nil ?_
          refine then_normal ?_
          obtain ⟨hE122, hW123, hF124⟩ := hW112.cutB hE121 0 [] [(5, .v (.int .u32 (knownI l))), (6, .v (.slice A_ out.length c_)), (17, .v (.slice A ((u.take 32767).length) c)), (18, .v (.int .i64 (((u.take 32767).length : Nat) : Int))), (19, .v (.int .i64 (IntKind.i64.wrap (((k : Nat) : Int) + 1))))]
          have he125 : IntKind.i64.wrap (((k : Nat) : Int) + 1) = ((k + 1 : Nat) : Int) := wrap_succ (by omega)
          rw [he125] at hE122
          exact ⟨(u.take 32767).length - (k + 1), by omega, k + 1, A_, c_, out, css, rfl, by omega, (hT.move (Fr.trans (Fr.trans (Fr.trans (Fr.trans (Fr.trans hF58 hF62) hF73) hF75) hF111) hF124).step immM (Fr.trans (Fr.trans (Fr.trans (Fr.trans (Fr.trans hF58 hF62) hF73) hF75) hF111) hF124).to'), by rw [foldl_take_succ he42, ← hout]; exact (ins_low (by assumption)).symm, by omega, hE122.pk, hW123, (Fr.trans (Fr.trans (Fr.trans (Fr.trans (Fr.trans (Fr.trans hF30 hF58) hF62) hF73) hF75) hF111) hF124)⟩
        ·
          have hf126 := of_decide_eq_false hc115
          have hE127 := hE114.cast (env' := [(5, .v (.int .u32 (knownI l))), (6, .v (.slice A_ out.length c_)), (8, .p 0 0), (9, .v (.int .i64 ((i : Nat) : Int))), (17, .v (.slice A ((u.take 32767).length) c)), (18, .v (.int .i64 (((u.take 32767).length : Nat) : Int))), (19, .v (.int .i64 ((k : Nat) : Int))), (43, .v (.bool false))]) (by rw [hc115])
          clear hE114
          refine go_rnD [5, 6, 7, 8, 9] [(5, .v (.int .u32 (knownI l))), (6, .v (.slice A_ out.length c_)), (8, .p 0 0), (9, .v (.int .i64 ((i : Nat) : Int))), (17, .v (.slice A ((u.take 32767).length) c)), (18, .v (.int .i64 (((u.take 32767).length : Nat) : Int))), (19, .v (.int .i64 ((k : Nat) : Int))), (43, .v (.bool false)), (48, .v (.bool (decide (((i : Nat) : Int) < ((out.length : Nat) : Int)))))] 10 (panicFree_then (panicFree_then (panicFree_block (panicFree_then (panicFree_then (panicFree_block (panicFree_then panicFree_body))))))) (fun _ h => h ▸ hW112.cells) rfl hE127 fun a128 hE129 => ?_
          clear hE127
          have hc130 : (decide (((i : Nat) : Int) < ((out.length : Nat) : Int))) = true := hc79
          have hE131 := hE129.cast (env' := [(5, .v (.int .u32 (knownI l))), (6, .v (.slice A_ out.length c_)), (8, .p 0 0), (9, .v (.int .i64 ((i : Nat) : Int))), (17, .v (.slice A ((u.take 32767).length) c)), (18, .v (.int .i64 (((u.take 32767).length : Nat) : Int))), (19, .v (.int .i64 ((k : Nat) : Int))), (43, .v (.bool false)), (48, .v (.bool true))]) (by rw [hc130])
          clear hE129
          refine go_rnD [10, 11, 15, 16] [(5, .v (.int .u32 (knownI l))), (6, .v (.slice A_ out.length c_)), (8, .p 0 0), (9, .v (.int .i64 ((i : Nat) : Int))), (17, .v (.slice A ((u.take 32767).length) c)), (18, .v (.int .i64 (((u.take 32767).length : Nat) : Int))), (19, .v (.int .i64 ((k : Nat) : Int))), (43, .v (.bool false)), (48, .v (.bool true)), (49, .v (.slice A_ out.length c_)), (50, .v (.int .i64 ((i : Nat) : Int))), (55, .v (.int .u32 k40))] 6 (panicFree_then (panicFree_then (panicFree_block (panicFree_then (panicFree_then (panicFree_block (panicFree_then panicFree_body))))))) (fun _ h => h ▸ hW112.cells) rfl hE131 fun a132 hE133 => ?_
          clear hE131
          obtain ⟨g134, hA135⟩ := own_addr (hW112.own 0 _ rfl) (show 0 < out.length by omega)
          obtain ⟨⟨k137, s138⟩, hx139⟩ : ∃ x, out[i]? = some x := ⟨_, List.getElem?_eq_getElem (by omega)⟩
          obtain ⟨A140, c141, hc142, hO143, h144, h145⟩ := TagsE.get2 (hT.move (Fr.trans (Fr.trans (Fr.trans (Fr.trans hF58 hF62) hF73) hF75) hF111).step immM (Fr.trans (Fr.trans (Fr.trans (Fr.trans hF58 hF62) hF73) hF75) hF111).to') hx139
          have hat136 := own_at (hW112.own 0 _ rfl) hA135 (flat_cells (hT.move (Fr.trans (Fr.trans (Fr.trans (Fr.trans hF58 hF62) hF73) hF75) hF111).step immM (Fr.trans (Fr.trans (Fr.trans (Fr.trans hF58 hF62) hF73) hF75) hF111).to').two hc142)
          refine takeC_index hE133 (i := 12) (t := 24) (A := A_) (m := out.length) (q := ((i : Nat) : Int)) (d := 51) (by kernel_rfl) (e := 83) (size := 2) (bytes := 32) (by kernel_rfl) (b := g134) (o := 0) (j := i) hA135 (rfl) (by omega) (by kernel_rfl) (by kernel_rfl) (panicFree_then (panicFree_then (panicFree_block (panicFree_then (panicFree_then (panicFree_block (panicFree_then panicFree_body))))))) rfl fun a146 hE147 => ?_
          clear hE133
          refine go_rnD [13] [(5, .v (.int .u32 (knownI l))), (6, .v (.slice A_ out.length c_)), (8, .p 0 0), (9, .v (.int .i64 ((i : Nat) : Int))), (17, .v (.slice A ((u.take 32767).length) c)), (18, .v (.int .i64 (((u.take 32767).length : Nat) : Int))), (19, .v (.int .i64 ((k : Nat) : Int))), (43, .v (.bool false)), (48, .v (.bool true)), (52, .v (.pointer (some ⟨g134, 0 + i * 2, none⟩))), (55, .v (.int .u32 k40))] 4 (panicFree_then (panicFree_then (panicFree_block (panicFree_then (panicFree_then (panicFree_block (panicFree_then panicFree_body))))))) (fun _ h => h ▸ hW112.cells) rfl hE147 fun a148 hE149 => ?_
          clear hE147
          refine takeC_load hE149 (i := 14) (t := 81) (b := g134) (o := 0 + i * 2) (d := 53) (by kernel_rfl) (cs := [.int .u32 k137]) (v := .int .u32 k137) (by kernel_rfl) (fun w' h' => h' ▸ (At.drop hat136 0 1)) (by kernel_rfl) (by kernel_rfl) (panicFree_then (panicFree_then (panicFree_block (panicFree_then (panicFree_then (panicFree_block (panicFree_then panicFree_body))))))) rfl fun a150 hE151 => ?_
          clear hE149
          refine go_rnD [17, 18, 19] [(5, .v (.int .u32 (knownI l))), (6, .v (.slice A_ out.length c_)), (8, .p 0 0), (9, .v (.int .i64 ((i : Nat) : Int))), (17, .v (.slice A ((u.take 32767).length) c)), (18, .v (.int .i64 (((u.take 32767).length : Nat) : Int))), (19, .v (.int .i64 ((k : Nat) : Int))), (58, .v (.bool (k137 == k40)))] 0 (panicFree_then (panicFree_then (panicFree_block (panicFree_then (panicFree_then (panicFree_block (panicFree_then panicFree_body))))))) (fun _ h => h ▸ hW112.cells) rfl hE151 fun a152 hE153 => ?_
          clear hE151
          refine anyC_done (by kernel_rfl) ?_ _
          refine then_normal ?_
          refine cond_of hE153 (b := k137 == k40) (by kernel_rfl) (fun hc154 => ?_) (fun hc154 => ?_)
          ·
            have hf155 : k137 = k40 := by simpa using hc154
            refine wp_exit ?_
            refine then_exit ?_
            refine block_exit ?_
            refine then_normal ?_
            refine go_region [0, 1] (by kernel_rfl) ?_
            refine go_rn [0, 1] [] [(5, .v (.int .u32 (knownI l))), (6, .v (.slice A_ out.length c_)), (17, .v (.slice A ((u.take 32767).length) c)), (18, .v (.int .i64 (((u.take 32767).length : Nat) : Int))), (19, .v (.int .i64 (IntKind.i64.wrap (((k : Nat) : Int) + 1))))] hW112 hE153 fun a156 hE157 => ?_
            clear hE153
            refine wpOps_nil ?_
            refine then_normal ?_
            obtain ⟨hE158, hW159, hF160⟩ := hW112.cutB hE157 0 [] [(5, .v (.int .u32 (knownI l))), (6, .v (.slice A_ out.length c_)), (17, .v (.slice A ((u.take 32767).length) c)), (18, .v (.int .i64 (((u.take 32767).length : Nat) : Int))), (19, .v (.int .i64 (IntKind.i64.wrap (((k : Nat) : Int) + 1))))]
            have he161 : IntKind.i64.wrap (((k : Nat) : Int) + 1) = ((k + 1 : Nat) : Int) := wrap_succ (by omega)
            rw [he161] at hE158
            exact ⟨(u.take 32767).length - (k + 1), by omega, k + 1, A_, c_, out, css, rfl, by omega, (hT.move (Fr.trans (Fr.trans (Fr.trans (Fr.trans (Fr.trans hF58 hF62) hF73) hF75) hF111) hF160).step immM (Fr.trans (Fr.trans (Fr.trans (Fr.trans (Fr.trans hF58 hF62) hF73) hF75) hF111) hF160).to'), by rw [foldl_take_succ he42, ← hout]; exact (ins_same (tagPos_eq hi hlt (fun _ => by rw [getD_fst hx139]; omega)) (by omega) (by rw [getD_fst hx139]; omega)).symm, by omega, hE158.pk, hW159, (Fr.trans (Fr.trans (Fr.trans (Fr.trans (Fr.trans (Fr.trans hF30 hF58) hF62) hF73) hF75) hF111) hF160)⟩
          ·
            have hf162 : k137 ≠ k40 := by simpa using hc154
            refine wp_skip ?_
            refine then_normal ?_
            refine go_seq_region [0, 1, 2, 3, 4] (by kernel_rfl) ?_
            refine go_rn [0, 1] [2, 3, 4] [(5, .v (.int .u32 (knownI l))), (8, .p 0 0), (9, .v (.int .i64 ((i : Nat) : Int))), (17, .v (.slice A ((u.take 32767).length) c)), (18, .v (.int .i64 (((u.take 32767).length : Nat) : Int))), (19, .v (.int .i64 ((k : Nat) : Int))), (59, .v (.slice A_ out.length c_)), (60, .v (.agg #[.int .u32 0, .slice none 0 0]))] hW112 hE153 fun a163 hE164 => ?_
            clear hE153
            refine wpOps_push hW112 hE164 (k := 0) (e := 83) (size := 2) (len := 1) (cs := [.int .u32 0, .slice none 0 0]) (d1 := 61) (d := 62) (by kernel_rfl) (t := 24) (bytes := 32) (by kernel_rfl) (fun _ => by kernel_rfl) rfl (by kernel_rfl) (by omega) fun A165 c166 a167 w168 hF169 hW170 ⟨_, hE171⟩ => ?_
            clear hE164
            refine go_rn [4] [] [(5, .v (.int .u32 (knownI l))), (6, .v (.slice A165 (out.length + 1) c166)), (8, .p 0 0), (9, .v (.int .i64 ((i : Nat) : Int))), (17, .v (.slice A ((u.take 32767).length) c)), (18, .v (.int .i64 (((u.take 32767).length : Nat) : Int))), (19, .v (.int .i64 ((k : Nat) : Int)))] hW170 hE171 fun a172 hE173 => ?_
            clear hE171
            refine wpOps_nil ?_
            refine then_normal ?_
            refine wp_seq ?_
            refine go_sp [(5, .v (.int .u32 (knownI l))), (6, .v (.slice A165 (out.length + 1) c166)), (8, .p 0 0), (9, .v (.int .i64 ((i : Nat) : Int))), (10, .v (.int .i64 (IntKind.i64.wrap (((out.length + 1 : Nat) : Int) - 1)))), (17, .v (.slice A ((u.take 32767).length) c)), (18, .v (.int .i64 (((u.take 32767).length : Nat) : Int))), (19, .v (.int .i64 ((k : Nat) : Int)))] hW170 hE173 fun a174 hE175 => ?_
            clear hE173
            refine wp_block ?_
            have hcl0 := (hT.move (Fr.trans (Fr.trans (Fr.trans (Fr.trans (Fr.trans hF58 hF62) hF73) hF75) hF111) hF169).step immM (Fr.trans (Fr.trans (Fr.trans (Fr.trans (Fr.trans hF58 hF62) hF73) hF75) hF111) hF169).to').len
            have er176 : (⟨A165, c166, 83, 2, out.length + 1, css.flatten ++ [.int .u32 0, .slice none 0 0]⟩ : Rw) = ⟨A165, c166, 83, 2, out.length + 1, (rowAt css [.int .u32 0, .slice none 0 0] out.length).flatten⟩ := by rw [push_row hcl0]
            obtain ⟨hW177, hF179⟩ := hW170.rowEq 0 [⟨A165, c166, 83, 2, out.length + 1, (rowAt css [.int .u32 0, .slice none 0 0] out.length).flatten⟩] er176
            clear hW170
            have he187 : IntKind.i64.wrap (((out.length + 1 : Nat) : Int) - 1) = ((out.length : Nat) : Int) := by rw [wrap_i64 (by omega) (by omega)]; omega
            rw [he187] at hE175
            refine wp_loop_ghost (fun n_ a_ w_ => ∃ (j : Nat), n_ = j ∧ (i ≤ j) ∧ (j ≤ out.length) ∧ LInv hW177 85 [⟨b53, 0, [.int .u32 k40, .slice A43 s41.length c44], true⟩] [⟨A165, c166, 83, 2, out.length + 1, (rowAt css [.int .u32 0, .slice none 0 0] j).flatten⟩] [(5, .v (.int .u32 (knownI l))), (6, .v (.slice A165 (out.length + 1) c166)), (8, .p 0 0), (9, .v (.int .i64 ((i : Nat) : Int))), (10, .v (.int .i64 ((j : Nat) : Int))), (17, .v (.slice A ((u.take 32767).length) c)), (18, .v (.int .i64 (((u.take 32767).length : Nat) : Int))), (19, .v (.int .i64 ((k : Nat) : Int)))] a_ w_) (out.length) ⟨out.length, rfl, hi, Nat.le_refl _, hE175.pk, hW177, Fr.refl _ _ _⟩ ?_
            clear hE175
            rintro n180 a181 w182 ⟨j, hn185, hij, hjl, hE183, hW184, hF186⟩
            refine wp_seq ?_
            refine go_sp [(5, .v (.int .u32 (knownI l))), (6, .v (.slice A165 (out.length + 1) c166)), (8, .p 0 0), (9, .v (.int .i64 ((i : Nat) : Int))), (10, .v (.int .i64 ((j : Nat) : Int))), (17, .v (.slice A ((u.take 32767).length) c)), (18, .v (.int .i64 (((u.take 32767).length : Nat) : Int))), (19, .v (.int .i64 ((k : Nat) : Int))), (68, .v (.bool (decide (((j : Nat) : Int) > ((i : Nat) : Int)))))] hW184 hE183 fun a188 hE189 => ?_
            clear hE183
            refine cond_of hE189 (b := decide (((j : Nat) : Int) > ((i : Nat) : Int))) (by kernel_rfl) (fun hc190 => ?_) (fun hc190 => ?_)
            ·
              have hf191 := of_decide_eq_true hc190
              refine wp_skip ?_
              refine then_normal ?_
              refine wp_seq ?_
              refine wp_block ?_
              refine go_region [0, 1, 2, 3, 4, 5, 6, 7, 8] (by kernel_rfl) ?_
              refine go_rn [0, 1, 2, 3, 4] [5, 6, 7, 8] [(5, .v (.int .u32 (knownI l))), (6, .v (.slice A165 (out.length + 1) c166)), (8, .p 0 0), (9, .v (.int .i64 ((i : Nat) : Int))), (10, .v (.int .i64 ((j : Nat) : Int))), (17, .v (.slice A ((u.take 32767).length) c)), (18, .v (.int .i64 (((u.take 32767).length : Nat) : Int))), (19, .v (.int .i64 ((k : Nat) : Int))), (71, .v (.slice A165 (out.length + 1) c166)), (72, .v (.int .i64 ((j : Nat) : Int))), (73, .v (.slice A165 (out.length + 1) c166)), (75, .v (.int .i64 (IntKind.i64.wrap (((j : Nat) : Int) - 1))))] hW184 hE189 fun a192 hE193 => ?_
              clear hE189
              obtain ⟨g194, hA195⟩ := own_addr (hW184.own 0 _ rfl) (show 0 < out.length + 1 by omega)
              obtain ⟨⟨k197, s198⟩, hx199⟩ : ∃ x, out[j - 1]? = some x := ⟨_, List.getElem?_eq_getElem (by omega)⟩
              obtain ⟨A200, c201, hc202, hO203, h204, h205⟩ := TagsE.get2 (hT.move (Fr.trans (Fr.trans (Fr.trans (Fr.trans (Fr.trans (Fr.trans (Fr.trans hF58 hF62) hF73) hF75) hF111) hF169) hF179) hF186).step immM (Fr.trans (Fr.trans (Fr.trans (Fr.trans (Fr.trans (Fr.trans (Fr.trans hF58 hF62) hF73) hF75) hF111) hF169) hF179) hF186).to') hx199
              have hat196 := own_at (hW184.own 0 _ rfl) hA195 (flat_cells (rowAt_two (hT.move (Fr.trans (Fr.trans (Fr.trans (Fr.trans (Fr.trans (Fr.trans (Fr.trans hF58 hF62) hF73) hF75) hF111) hF169) hF179) hF186).step immM (Fr.trans (Fr.trans (Fr.trans (Fr.trans (Fr.trans (Fr.trans (Fr.trans hF58 hF62) hF73) hF75) hF111) hF169) hF179) hF186).to').two rfl j) (rowAt_get (show j - 1 < j by omega) hc202))
              refine of_op (wpOp_index hE193 (t := 24) (A := A165) (m := (out.length + 1)) (q := (IntKind.i64.wrap (((j : Nat) : Int) - 1))) (d := 76) (by kernel_rfl) (e := 83) (size := 2) (bytes := 32) (by kernel_rfl) (b := g194) (o := 0) (j := (j - 1)) hA195 (by rw [wrap_i64 (by omega) (by omega)]; omega) (by omega) fun a206 hE207 => ?_)
              clear hE193
              refine of_op (wpOp_load hE207 (t := 83) (b := g194) (o := 0 + (j - 1) * 2) (d := 77) (by kernel_rfl) (cs := [.int .u32 k197, .slice A200 s198.length c201]) (v := .agg #[.int .u32 k197, .slice A200 s198.length c201]) (by kernel_rfl) hat196 fun a208 hE209 => ?_)
              clear hE207
              obtain ⟨g210, hA211⟩ := own_addr (hW184.own 0 _ rfl) (show 0 < out.length + 1 by omega)
              refine of_op (wpOp_index hE209 (t := 24) (A := A165) (m := (out.length + 1)) (q := ((j : Nat) : Int)) (d := 78) (by kernel_rfl) (e := 83) (size := 2) (bytes := 32) (by kernel_rfl) (b := g210) (o := 0) (j := j) hA211 (rfl) (by omega) fun a213 hE214 => ?_)
              clear hE209
              refine of_op (wpOp_storeR hW184 hE214 (k := 0) (g := g210) (o := j * 2) (c := c166) (m := (out.length + 1)) (size := 2) (e := 83) (A := A165) (xs := ((rowAt css [.int .u32 0, .slice none 0 0] j).flatten)) (vs := [.int .u32 k197, .slice A200 s198.length c201]) (by kernel_rfl) rfl hA211 (by simp only [List.length_cons, List.length_nil]; omega) fun w215 hF216 hW217 hE218 => ?_)
              clear hE214 hW184
              refine wpOps_nil ?_
              refine block_normal ?_
              refine then_normal ?_
              refine go_region [0, 1, 2] (by kernel_rfl) ?_
              refine go_rn [0, 1, 2] [] [(5, .v (.int .u32 (knownI l))), (6, .v (.slice A165 (out.length + 1) c166)), (8, .p 0 0), (9, .v (.int .i64 ((i : Nat) : Int))), (10, .v (.int .i64 (IntKind.i64.wrap (((j : Nat) : Int) - 1)))), (17, .v (.slice A ((u.take 32767).length) c)), (18, .v (.int .i64 (((u.take 32767).length : Nat) : Int))), (19, .v (.int .i64 ((k : Nat) : Int)))] hW217 hE218 fun a219 hE220 => ?_
              clear hE218
              refine wpOps_nil ?_
              refine then_normal ?_
              have er221 : (⟨A165, c166, 83, 2, out.length + 1, splice ((rowAt css [.int .u32 0, .slice none 0 0] j).flatten) (j * 2) [.int .u32 k197, .slice A200 s198.length c201]⟩ : Rw) = ⟨A165, c166, 83, 2, out.length + 1, (rowAt css [.int .u32 0, .slice none 0 0] (j - 1)).flatten⟩ := by rw [shift_row (hT.move (Fr.trans (Fr.trans (Fr.trans (Fr.trans (Fr.trans (Fr.trans (Fr.trans (Fr.trans hF58 hF62) hF73) hF75) hF111) hF169) hF179) hF186) hF216).step immM (Fr.trans (Fr.trans (Fr.trans (Fr.trans (Fr.trans (Fr.trans (Fr.trans (Fr.trans hF58 hF62) hF73) hF75) hF111) hF169) hF179) hF186) hF216).to').two rfl (by omega) (by omega) hc202]
              obtain ⟨hW222, hF224⟩ := hW217.rowEq 0 [⟨A165, c166, 83, 2, out.length + 1, (rowAt css [.int .u32 0, .slice none 0 0] (j - 1)).flatten⟩] er221
              clear hW217
              have he225 : IntKind.i64.wrap (((j : Nat) : Int) - 1) = ((j - 1 : Nat) : Int) := by rw [wrap_i64 (by omega) (by omega)]; omega
              rw [he225] at hE220
              exact ⟨(j - 1), by omega, (j - 1), rfl, by omega, by omega, hE220.pk, hW222, (Fr.trans (Fr.trans hF186 hF216) hF224)⟩
            ·
              have hf226 := of_decide_eq_false hc190
              refine wp_exit ?_
              refine then_exit ?_
              refine then_exit ?_
              refine block_exit ?_
              refine then_normal ?_
              refine go_region [0, 1, 2, 3, 4] (by kernel_rfl) ?_
              refine go_rn [0, 1, 2] [3, 4] [(5, .v (.int .u32 (knownI l))), (6, .v (.slice A165 (out.length + 1) c166)), (17, .v (.slice A ((u.take 32767).length) c)), (18, .v (.int .i64 (((u.take 32767).length : Nat) : Int))), (19, .v (.int .i64 ((k : Nat) : Int))), (79, .v (.slice A165 (out.length + 1) c166)), (80, .v (.int .i64 ((i : Nat) : Int))), (81, .v (.agg #[.int .u32 k40, .slice A43 s41.length c44]))] hW184 hE189 fun a227 hE228 => ?_
              clear hE189
              have hji : j = i := by omega
              have er232 : (⟨A165, c166, 83, 2, out.length + 1, (rowAt css [.int .u32 0, .slice none 0 0] j).flatten⟩ : Rw) = ⟨A165, c166, 83, 2, out.length + 1, (rowAt css [.int .u32 0, .slice none 0 0] i).flatten⟩ := by rw [hji]
              obtain ⟨hW233, hF235⟩ := hW184.rowEq 0 [⟨A165, c166, 83, 2, out.length + 1, (rowAt css [.int .u32 0, .slice none 0 0] i).flatten⟩] er232
              clear hW184
              obtain ⟨g229, hA230⟩ := own_addr (hW233.own 0 _ rfl) (show 0 < out.length + 1 by omega)
              refine of_op (wpOp_index hE228 (t := 24) (A := A165) (m := (out.length + 1)) (q := ((i : Nat) : Int)) (d := 82) (by kernel_rfl) (e := 83) (size := 2) (bytes := 32) (by kernel_rfl) (b := g229) (o := 0) (j := i) hA230 (rfl) (by omega) fun a236 hE237 => ?_)
              clear hE228
              refine of_op (wpOp_storeR hW233 hE237 (k := 0) (g := g229) (o := i * 2) (c := c166) (m := (out.length + 1)) (size := 2) (e := 83) (A := A165) (xs := ((rowAt css [.int .u32 0, .slice none 0 0] i).flatten)) (vs := [.int .u32 k40, .slice A43 s41.length c44]) (by kernel_rfl) rfl hA230 (by simp only [List.length_cons, List.length_nil]; omega) fun w238 hF239 hW240 hE241 => ?_)
              clear hE237 hW233
              refine wpOps_nil ?_
              refine block_normal ?_
              refine then_normal ?_
              refine go_region [0, 1] (by kernel_rfl) ?_
              refine go_rn [0, 1] [] [(5, .v (.int .u32 (knownI l))), (6, .v (.slice A165 (out.length + 1) c166)), (17, .v (.slice A ((u.take 32767).length) c)), (18, .v (.int .i64 (((u.take 32767).length : Nat) : Int))), (19, .v (.int .i64 (IntKind.i64.wrap (((k : Nat) : Int) + 1))))] hW240 hE241 fun a242 hE243 => ?_
              clear hE241
              refine wpOps_nil ?_
              refine then_normal ?_
              obtain ⟨hE244, hW245, hF246⟩ := hW240.cutB hE243 0 [] [(5, .v (.int .u32 (knownI l))), (6, .v (.slice A165 (out.length + 1) c166)), (17, .v (.slice A ((u.take 32767).length) c)), (18, .v (.int .i64 (((u.take 32767).length : Nat) : Int))), (19, .v (.int .i64 (IntKind.i64.wrap (((k : Nat) : Int) + 1))))]
              have hcl := (hT.move (Fr.trans (Fr.trans (Fr.trans (Fr.trans (Fr.trans (Fr.trans (Fr.trans (Fr.trans (Fr.trans (Fr.trans hF58 hF62) hF73) hF75) hF111) hF169) hF179) hF186) hF235) hF239) hF246).step immM (Fr.trans (Fr.trans (Fr.trans (Fr.trans (Fr.trans (Fr.trans (Fr.trans (Fr.trans (Fr.trans (Fr.trans hF58 hF62) hF73) hF75) hF111) hF169) hF179) hF186) hF235) hF239) hF246).to').len
              have er247 : (⟨A165, c166, 83, 2, out.length + 1, splice ((rowAt css [.int .u32 0, .slice none 0 0] i).flatten) (i * 2) [.int .u32 k40, .slice A43 s41.length c44]⟩ : Rw) = ⟨A165, c166, 83, 2, (out.take i ++ (k40, s41) :: out.drop i).length, (css.take i ++ [.int .u32 k40, .slice A43 s41.length c44] :: css.drop i).flatten⟩ := by rw [place_row (hT.move (Fr.trans (Fr.trans (Fr.trans (Fr.trans (Fr.trans (Fr.trans (Fr.trans (Fr.trans (Fr.trans (Fr.trans hF58 hF62) hF73) hF75) hF111) hF169) hF179) hF186) hF235) hF239) hF246).step immM (Fr.trans (Fr.trans (Fr.trans (Fr.trans (Fr.trans (Fr.trans (Fr.trans (Fr.trans (Fr.trans (Fr.trans hF58 hF62) hF73) hF75) hF111) hF169) hF179) hF186) hF235) hF239) hF246).to').two rfl (by omega) rfl, ins_length (k40, s41) hi]
              obtain ⟨hW248, hF250⟩ := hW245.rowEq 0 [⟨A165, c166, 83, 2, (out.take i ++ (k40, s41) :: out.drop i).length, (css.take i ++ [.int .u32 k40, .slice A43 s41.length c44] :: css.drop i).flatten⟩] er247
              clear hW245
              have he251 : IntKind.i64.wrap (((k : Nat) : Int) + 1) = ((k + 1 : Nat) : Int) := wrap_succ (by omega)
              rw [he251] at hE244
              have he252 : out.length + 1 = (out.take i ++ (k40, s41) :: out.drop i).length := ins_length (k40, s41) hi
              rw [he252] at hE244
              exact ⟨(u.take 32767).length - (k + 1), by omega, k + 1, A165, c166, (out.take i ++ (k40, s41) :: out.drop i), (css.take i ++ [.int .u32 k40, .slice A43 s41.length c44] :: css.drop i), rfl, by omega, (hT.move (Fr.trans (Fr.trans (Fr.trans (Fr.trans (Fr.trans (Fr.trans (Fr.trans (Fr.trans (Fr.trans (Fr.trans (Fr.trans hF58 hF62) hF73) hF75) hF111) hF169) hF179) hF186) hF235) hF239) hF246) hF250).step immM (Fr.trans (Fr.trans (Fr.trans (Fr.trans (Fr.trans (Fr.trans (Fr.trans (Fr.trans (Fr.trans (Fr.trans (Fr.trans hF58 hF62) hF73) hF75) hF111) hF169) hF179) hF186) hF235) hF239) hF246) hF250).to').ins ⟨⟨A43, c44, rfl, (hb46.move hW248.step nilM hW248.imm)⟩, h47, h48⟩ hi, by rw [foldl_take_succ he42, ← hout]; exact (ins_new (tagPos_eq hi hlt (fun _ => by first | (rw [getD_fst hx89]; omega) | (rw [getD_fst hx139]; omega))) (by assumption) (fun _ => by first | (rw [getD_fst hx89]; omega) | (rw [getD_fst hx139]; omega))).symm, by rw [← ins_length (k40, s41) hi]; omega, hE244.pk, hW248, (Fr.trans (Fr.trans (Fr.trans (Fr.trans (Fr.trans (Fr.trans (Fr.trans (Fr.trans (Fr.trans (Fr.trans (Fr.trans (Fr.trans hF30 hF58) hF62) hF73) hF75) hF111) hF169) hF179) hF186) hF235) hF239) hF246) hF250)⟩
    ·
      have hf253 := of_decide_eq_false hc79
      have hE254 := hE78.cast (env' := [(5, .v (.int .u32 (knownI l))), (6, .v (.slice A_ out.length c_)), (8, .p 0 0), (9, .v (.int .i64 ((i : Nat) : Int))), (17, .v (.slice A ((u.take 32767).length) c)), (18, .v (.int .i64 (((u.take 32767).length : Nat) : Int))), (19, .v (.int .i64 ((k : Nat) : Int))), (27, .v (.bool false))]) (by rw [hc79])
      clear hE78
      refine go_rnD [5, 6, 7, 8, 9, 10, 11, 12, 13] [(5, .v (.int .u32 (knownI l))), (6, .v (.slice A_ out.length c_)), (8, .p 0 0), (9, .v (.int .i64 ((i : Nat) : Int))), (17, .v (.slice A ((u.take 32767).length) c)), (18, .v (.int .i64 (((u.take 32767).length : Nat) : Int))), (19, .v (.int .i64 ((k : Nat) : Int))), (36, .v (.bool false))] 0 (panicFree_then (panicFree_then (panicFree_then (panicFree_block (panicFree_then (panicFree_block (panicFree_then (panicFree_then (panicFree_block (panicFree_then panicFree_body)))))))))) (fun _ h => h ▸ hW76.cells) rfl hE254 fun a255 hE256 => ?_
      clear hE254
      refine anyC_done (by kernel_rfl) ?_ _
      refine then_normal ?_
      refine cond_false hE256 (b := false) (by kernel_rfl) rfl ?_
      refine wp_exit ?_
      refine then_exit ?_
      refine then_exit ?_
      refine block_exit ?_
      refine then_normal ?_
      refine wp_seq ?_
      refine go_seq_drawQ (by kernel_rfl) hW76 fun w257 hF258 hW259 => ?_
      refine go_rnD [0, 1, 2, 3, 4] [(5, .v (.int .u32 (knownI l))), (6, .v (.slice A_ out.length c_)), (8, .p 0 0), (9, .v (.int .i64 ((i : Nat) : Int))), (17, .v (.slice A ((u.take 32767).length) c)), (18, .v (.int .i64 (((u.take 32767).length : Nat) : Int))), (19, .v (.int .i64 ((k : Nat) : Int))), (43, .v (.bool (decide (k40 < (knownI l)))))] 15 (panicFree_then (panicFree_then (panicFree_block (panicFree_then (panicFree_then (panicFree_block (panicFree_then panicFree_body))))))) (fun _ h => h ▸ hW259.cells) rfl hE256 fun a260 hE261 => ?_
      clear hE256
      refine (Bool.eq_false_or_eq_true (decide (k40 < (knownI l)))).elim (fun hc262 => ?_) (fun hc262 => ?_)
      ·
        have hf263 := of_decide_eq_true hc262
        have hE264 := hE261.cast (env' := [(5, .v (.int .u32 (knownI l))), (6, .v (.slice A_ out.length c_)), (8, .p 0 0), (9, .v (.int .i64 ((i : Nat) : Int))), (17, .v (.slice A ((u.take 32767).length) c)), (18, .v (.int .i64 (((u.take 32767).length : Nat) : Int))), (19, .v (.int .i64 ((k : Nat) : Int))), (43, .v (.bool true))]) (by rw [hc262])
        clear hE261
        refine go_rnD [5, 6, 7, 8, 9, 10, 11, 12, 13, 14, 15, 16, 17, 18, 19] [(5, .v (.int .u32 (knownI l))), (6, .v (.slice A_ out.length c_)), (8, .p 0 0), (9, .v (.int .i64 ((i : Nat) : Int))), (17, .v (.slice A ((u.take 32767).length) c)), (18, .v (.int .i64 (((u.take 32767).length : Nat) : Int))), (19, .v (.int .i64 ((k : Nat) : Int))), (58, .v (.bool true))] 0 (panicFree_then (panicFree_then (panicFree_block (panicFree_then (panicFree_then (panicFree_block (panicFree_then panicFree_body))))))) (fun _ h => h ▸ hW259.cells) rfl hE264 fun a265 hE266 => ?_
        clear hE264
        refine anyC_done (by kernel_rfl) ?_ _
        refine then_normal ?_
        refine cond_true hE266 (b := true) (by kernel_rfl) rfl ?_
        refine wp_exit ?_
        refine then_exit ?_
        refine block_exit ?_
        refine then_normal ?_
        refine go_region [0, 1] (by kernel_rfl) ?_
        refine go_rn [0, 1] [] [(5, .v (.int .u32 (knownI l))), (6, .v (.slice A_ out.length c_)), (17, .v (.slice A ((u.take 32767).length) c)), (18, .v (.int .i64 (((u.take 32767).length : Nat) : Int))), (19, .v (.int .i64 (IntKind.i64.wrap (((k : Nat) : Int) + 1))))] hW259 hE266 fun a267 hE268 => ?_
        clear hE266
        refine wpOps_nil ?_
        refine then_normal ?_
        obtain ⟨hE269, hW270, hF271⟩ := hW259.cutB hE268 0 [] [(5, .v (.int .u32 (knownI l))), (6, .v (.slice A_ out.length c_)), (17, .v (.slice A ((u.take 32767).length) c)), (18, .v (.int .i64 (((u.take 32767).length : Nat) : Int))), (19, .v (.int .i64 (IntKind.i64.wrap (((k : Nat) : Int) + 1))))]
        have he272 : IntKind.i64.wrap (((k : Nat) : Int) + 1) = ((k + 1 : Nat) : Int) := wrap_succ (by omega)
        rw [he272] at hE269
        exact ⟨(u.take 32767).length - (k + 1), by omega, k + 1, A_, c_, out, css, rfl, by omega, (hT.move (Fr.trans (Fr.trans (Fr.trans (Fr.trans (Fr.trans hF58 hF62) hF73) hF75) hF258) hF271).step immM (Fr.trans (Fr.trans (Fr.trans (Fr.trans (Fr.trans hF58 hF62) hF73) hF75) hF258) hF271).to'), by rw [foldl_take_succ he42, ← hout]; exact (ins_low (by assumption)).symm, by omega, hE269.pk, hW270, (Fr.trans (Fr.trans (Fr.trans (Fr.trans (Fr.trans (Fr.trans hF30 hF58) hF62) hF73) hF75) hF258) hF271)⟩
      ·
        have hf273 := of_decide_eq_false hc262
        have hE274 := hE261.cast (env' := [(5, .v (.int .u32 (knownI l))), (6, .v (.slice A_ out.length c_)), (8, .p 0 0), (9, .v (.int .i64 ((i : Nat) : Int))), (17, .v (.slice A ((u.take 32767).length) c)), (18, .v (.int .i64 (((u.take 32767).length : Nat) : Int))), (19, .v (.int .i64 ((k : Nat) : Int))), (43, .v (.bool false))]) (by rw [hc262])
        clear hE261
        refine go_rnD [5, 6, 7, 8, 9] [(5, .v (.int .u32 (knownI l))), (6, .v (.slice A_ out.length c_)), (8, .p 0 0), (9, .v (.int .i64 ((i : Nat) : Int))), (17, .v (.slice A ((u.take 32767).length) c)), (18, .v (.int .i64 (((u.take 32767).length : Nat) : Int))), (19, .v (.int .i64 ((k : Nat) : Int))), (43, .v (.bool false)), (48, .v (.bool (decide (((i : Nat) : Int) < ((out.length : Nat) : Int)))))] 10 (panicFree_then (panicFree_then (panicFree_block (panicFree_then (panicFree_then (panicFree_block (panicFree_then panicFree_body))))))) (fun _ h => h ▸ hW259.cells) rfl hE274 fun a275 hE276 => ?_
        clear hE274
        have hc277 : (decide (((i : Nat) : Int) < ((out.length : Nat) : Int))) = false := hc79
        have hE278 := hE276.cast (env' := [(5, .v (.int .u32 (knownI l))), (6, .v (.slice A_ out.length c_)), (8, .p 0 0), (9, .v (.int .i64 ((i : Nat) : Int))), (17, .v (.slice A ((u.take 32767).length) c)), (18, .v (.int .i64 (((u.take 32767).length : Nat) : Int))), (19, .v (.int .i64 ((k : Nat) : Int))), (43, .v (.bool false)), (48, .v (.bool false))]) (by rw [hc277])
        clear hE276
        refine go_rnD [10, 11, 12, 13, 14, 15, 16, 17, 18, 19] [(5, .v (.int .u32 (knownI l))), (6, .v (.slice A_ out.length c_)), (8, .p 0 0), (9, .v (.int .i64 ((i : Nat) : Int))), (17, .v (.slice A ((u.take 32767).length) c)), (18, .v (.int .i64 (((u.take 32767).length : Nat) : Int))), (19, .v (.int .i64 ((k : Nat) : Int))), (58, .v (.bool false))] 0 (panicFree_then (panicFree_then (panicFree_block (panicFree_then (panicFree_then (panicFree_block (panicFree_then panicFree_body))))))) (fun _ h => h ▸ hW259.cells) rfl hE278 fun a279 hE280 => ?_
        clear hE278
        refine anyC_done (by kernel_rfl) ?_ _
        refine then_normal ?_
        refine cond_false hE280 (b := false) (by kernel_rfl) rfl ?_
        refine wp_skip ?_
        refine then_normal ?_
        refine go_seq_region [0, 1, 2, 3, 4] (by kernel_rfl) ?_
        refine go_rn [0, 1] [2, 3, 4] [(5, .v (.int .u32 (knownI l))), (8, .p 0 0), (9, .v (.int .i64 ((i : Nat) : Int))), (17, .v (.slice A ((u.take 32767).length) c)), (18, .v (.int .i64 (((u.take 32767).length : Nat) : Int))), (19, .v (.int .i64 ((k : Nat) : Int))), (59, .v (.slice A_ out.length c_)), (60, .v (.agg #[.int .u32 0, .slice none 0 0]))] hW259 hE280 fun a281 hE282 => ?_
        clear hE280
        refine wpOps_push hW259 hE282 (k := 0) (e := 83) (size := 2) (len := 1) (cs := [.int .u32 0, .slice none 0 0]) (d1 := 61) (d := 62) (by kernel_rfl) (t := 24) (bytes := 32) (by kernel_rfl) (fun _ => by kernel_rfl) rfl (by kernel_rfl) (by omega) fun A283 c284 a285 w286 hF287 hW288 ⟨_, hE289⟩ => ?_
        clear hE282
        refine go_rn [4] [] [(5, .v (.int .u32 (knownI l))), (6, .v (.slice A283 (out.length + 1) c284)), (8, .p 0 0), (9, .v (.int .i64 ((i : Nat) : Int))), (17, .v (.slice A ((u.take 32767).length) c)), (18, .v (.int .i64 (((u.take 32767).length : Nat) : Int))), (19, .v (.int .i64 ((k : Nat) : Int)))] hW288 hE289 fun a290 hE291 => ?_
        clear hE289
        refine wpOps_nil ?_
        refine then_normal ?_
        refine wp_seq ?_
        refine go_sp [(5, .v (.int .u32 (knownI l))), (6, .v (.slice A283 (out.length + 1) c284)), (8, .p 0 0), (9, .v (.int .i64 ((i : Nat) : Int))), (10, .v (.int .i64 (IntKind.i64.wrap (((out.length + 1 : Nat) : Int) - 1)))), (17, .v (.slice A ((u.take 32767).length) c)), (18, .v (.int .i64 (((u.take 32767).length : Nat) : Int))), (19, .v (.int .i64 ((k : Nat) : Int)))] hW288 hE291 fun a292 hE293 => ?_
        clear hE291
        refine wp_block ?_
        have hcl0 := (hT.move (Fr.trans (Fr.trans (Fr.trans (Fr.trans (Fr.trans hF58 hF62) hF73) hF75) hF258) hF287).step immM (Fr.trans (Fr.trans (Fr.trans (Fr.trans (Fr.trans hF58 hF62) hF73) hF75) hF258) hF287).to').len
        have er294 : (⟨A283, c284, 83, 2, out.length + 1, css.flatten ++ [.int .u32 0, .slice none 0 0]⟩ : Rw) = ⟨A283, c284, 83, 2, out.length + 1, (rowAt css [.int .u32 0, .slice none 0 0] out.length).flatten⟩ := by rw [push_row hcl0]
        obtain ⟨hW295, hF297⟩ := hW288.rowEq 0 [⟨A283, c284, 83, 2, out.length + 1, (rowAt css [.int .u32 0, .slice none 0 0] out.length).flatten⟩] er294
        clear hW288
        have he305 : IntKind.i64.wrap (((out.length + 1 : Nat) : Int) - 1) = ((out.length : Nat) : Int) := by rw [wrap_i64 (by omega) (by omega)]; omega
        rw [he305] at hE293
        refine wp_loop_ghost (fun n_ a_ w_ => ∃ (j : Nat), n_ = j ∧ (i ≤ j) ∧ (j ≤ out.length) ∧ LInv hW295 85 [⟨b53, 0, [.int .u32 k40, .slice A43 s41.length c44], true⟩] [⟨A283, c284, 83, 2, out.length + 1, (rowAt css [.int .u32 0, .slice none 0 0] j).flatten⟩] [(5, .v (.int .u32 (knownI l))), (6, .v (.slice A283 (out.length + 1) c284)), (8, .p 0 0), (9, .v (.int .i64 ((i : Nat) : Int))), (10, .v (.int .i64 ((j : Nat) : Int))), (17, .v (.slice A ((u.take 32767).length) c)), (18, .v (.int .i64 (((u.take 32767).length : Nat) : Int))), (19, .v (.int .i64 ((k : Nat) : Int)))] a_ w_) (out.length) ⟨out.length, rfl, hi, Nat.le_refl _, hE293.pk, hW295, Fr.refl _ _ _⟩ ?_
        clear hE293
        rintro n298 a299 w300 ⟨j, hn303, hij, hjl, hE301, hW302, hF304⟩
        refine wp_seq ?_
        refine go_sp [(5, .v (.int .u32 (knownI l))), (6, .v (.slice A283 (out.length + 1) c284)), (8, .p 0 0), (9, .v (.int .i64 ((i : Nat) : Int))), (10, .v (.int .i64 ((j : Nat) : Int))), (17, .v (.slice A ((u.take 32767).length) c)), (18, .v (.int .i64 (((u.take 32767).length : Nat) : Int))), (19, .v (.int .i64 ((k : Nat) : Int))), (68, .v (.bool (decide (((j : Nat) : Int) > ((i : Nat) : Int)))))] hW302 hE301 fun a306 hE307 => ?_
        clear hE301
        refine cond_of hE307 (b := decide (((j : Nat) : Int) > ((i : Nat) : Int))) (by kernel_rfl) (fun hc308 => ?_) (fun hc308 => ?_)
        ·
          have hf309 := of_decide_eq_true hc308
          refine wp_skip ?_
          refine then_normal ?_
          refine wp_seq ?_
          refine wp_block ?_
          refine go_region [0, 1, 2, 3, 4, 5, 6, 7, 8] (by kernel_rfl) ?_
          refine go_rn [0, 1, 2, 3, 4] [5, 6, 7, 8] [(5, .v (.int .u32 (knownI l))), (6, .v (.slice A283 (out.length + 1) c284)), (8, .p 0 0), (9, .v (.int .i64 ((i : Nat) : Int))), (10, .v (.int .i64 ((j : Nat) : Int))), (17, .v (.slice A ((u.take 32767).length) c)), (18, .v (.int .i64 (((u.take 32767).length : Nat) : Int))), (19, .v (.int .i64 ((k : Nat) : Int))), (71, .v (.slice A283 (out.length + 1) c284)), (72, .v (.int .i64 ((j : Nat) : Int))), (73, .v (.slice A283 (out.length + 1) c284)), (75, .v (.int .i64 (IntKind.i64.wrap (((j : Nat) : Int) - 1))))] hW302 hE307 fun a310 hE311 => ?_
          clear hE307
          obtain ⟨g312, hA313⟩ := own_addr (hW302.own 0 _ rfl) (show 0 < out.length + 1 by omega)
          obtain ⟨⟨k315, s316⟩, hx317⟩ : ∃ x, out[j - 1]? = some x := ⟨_, List.getElem?_eq_getElem (by omega)⟩
          obtain ⟨A318, c319, hc320, hO321, h322, h323⟩ := TagsE.get2 (hT.move (Fr.trans (Fr.trans (Fr.trans (Fr.trans (Fr.trans (Fr.trans (Fr.trans hF58 hF62) hF73) hF75) hF258) hF287) hF297) hF304).step immM (Fr.trans (Fr.trans (Fr.trans (Fr.trans (Fr.trans (Fr.trans (Fr.trans hF58 hF62) hF73) hF75) hF258) hF287) hF297) hF304).to') hx317
          have hat314 := own_at (hW302.own 0 _ rfl) hA313 (flat_cells (rowAt_two (hT.move (Fr.trans (Fr.trans (Fr.trans (Fr.trans (Fr.trans (Fr.trans (Fr.trans hF58 hF62) hF73) hF75) hF258) hF287) hF297) hF304).step immM (Fr.trans (Fr.trans (Fr.trans (Fr.trans (Fr.trans (Fr.trans (Fr.trans hF58 hF62) hF73) hF75) hF258) hF287) hF297) hF304).to').two rfl j) (rowAt_get (show j - 1 < j by omega) hc320))
          refine of_op (wpOp_index hE311 (t := 24) (A := A283) (m := (out.length + 1)) (q := (IntKind.i64.wrap (((j : Nat) : Int) - 1))) (d := 76) (by kernel_rfl) (e := 83) (size := 2) (bytes := 32) (by kernel_rfl) (b := g312) (o := 0) (j := (j - 1)) hA313 (by rw [wrap_i64 (by omega) (by omega)]; omega) (by omega) fun a324 hE325 => ?_)
          clear hE311
          refine of_op (wpOp_load hE325 (t := 83) (b := g312) (o := 0 + (j - 1) * 2) (d := 77) (by kernel_rfl) (cs := [.int .u32 k315, .slice A318 s316.length c319]) (v := .agg #[.int .u32 k315, .slice A318 s316.length c319]) (by kernel_rfl) hat314 fun a326 hE327 => ?_)
          clear hE325
          obtain ⟨g328, hA329⟩ := own_addr (hW302.own 0 _ rfl) (show 0 < out.length + 1 by omega)
          refine of_op (wpOp_index hE327 (t := 24) (A := A283) (m := (out.length + 1)) (q := ((j : Nat) : Int)) (d := 78) (by kernel_rfl) (e := 83) (size := 2) (bytes := 32) (by kernel_rfl) (b := g328) (o := 0) (j := j) hA329 (rfl) (by omega) fun a331 hE332 => ?_)
          clear hE327
          refine of_op (wpOp_storeR hW302 hE332 (k := 0) (g := g328) (o := j * 2) (c := c284) (m := (out.length + 1)) (size := 2) (e := 83) (A := A283) (xs := ((rowAt css [.int .u32 0, .slice none 0 0] j).flatten)) (vs := [.int .u32 k315, .slice A318 s316.length c319]) (by kernel_rfl) rfl hA329 (by simp only [List.length_cons, List.length_nil]; omega) fun w333 hF334 hW335 hE336 => ?_)
          clear hE332 hW302
          refine wpOps_nil ?_
          refine block_normal ?_
          refine then_normal ?_
          refine go_region [0, 1, 2] (by kernel_rfl) ?_
          refine go_rn [0, 1, 2] [] [(5, .v (.int .u32 (knownI l))), (6, .v (.slice A283 (out.length + 1) c284)), (8, .p 0 0), (9, .v (.int .i64 ((i : Nat) : Int))), (10, .v (.int .i64 (IntKind.i64.wrap (((j : Nat) : Int) - 1)))), (17, .v (.slice A ((u.take 32767).length) c)), (18, .v (.int .i64 (((u.take 32767).length : Nat) : Int))), (19, .v (.int .i64 ((k : Nat) : Int)))] hW335 hE336 fun a337 hE338 => ?_
          clear hE336
          refine wpOps_nil ?_
          refine then_normal ?_
          have er339 : (⟨A283, c284, 83, 2, out.length + 1, splice ((rowAt css [.int .u32 0, .slice none 0 0] j).flatten) (j * 2) [.int .u32 k315, .slice A318 s316.length c319]⟩ : Rw) = ⟨A283, c284, 83, 2, out.length + 1, (rowAt css [.int .u32 0, .slice none 0 0] (j - 1)).flatten⟩ := by rw [shift_row (hT.move (Fr.trans (Fr.trans (Fr.trans (Fr.trans (Fr.trans (Fr.trans (Fr.trans (Fr.trans hF58 hF62) hF73) hF75) hF258) hF287) hF297) hF304) hF334).step immM (Fr.trans (Fr.trans (Fr.trans (Fr.trans (Fr.trans (Fr.trans (Fr.trans (Fr.trans hF58 hF62) hF73) hF75) hF258) hF287) hF297) hF304) hF334).to').two rfl (by omega) (by omega) hc320]
          obtain ⟨hW340, hF342⟩ := hW335.rowEq 0 [⟨A283, c284, 83, 2, out.length + 1, (rowAt css [.int .u32 0, .slice none 0 0] (j - 1)).flatten⟩] er339
          clear hW335
          have he343 : IntKind.i64.wrap (((j : Nat) : Int) - 1) = ((j - 1 : Nat) : Int) := by rw [wrap_i64 (by omega) (by omega)]; omega
          rw [he343] at hE338
          exact ⟨(j - 1), by omega, (j - 1), rfl, by omega, by omega, hE338.pk, hW340, (Fr.trans (Fr.trans hF304 hF334) hF342)⟩
        ·
          have hf344 := of_decide_eq_false hc308
          refine wp_exit ?_
          refine then_exit ?_
          refine then_exit ?_
          refine block_exit ?_
          refine then_normal ?_
          refine go_region [0, 1, 2, 3, 4] (by kernel_rfl) ?_
          refine go_rn [0, 1, 2] [3, 4] [(5, .v (.int .u32 (knownI l))), (6, .v (.slice A283 (out.length + 1) c284)), (17, .v (.slice A ((u.take 32767).length) c)), (18, .v (.int .i64 (((u.take 32767).length : Nat) : Int))), (19, .v (.int .i64 ((k : Nat) : Int))), (79, .v (.slice A283 (out.length + 1) c284)), (80, .v (.int .i64 ((i : Nat) : Int))), (81, .v (.agg #[.int .u32 k40, .slice A43 s41.length c44]))] hW302 hE307 fun a345 hE346 => ?_
          clear hE307
          have hji : j = i := by omega
          have er350 : (⟨A283, c284, 83, 2, out.length + 1, (rowAt css [.int .u32 0, .slice none 0 0] j).flatten⟩ : Rw) = ⟨A283, c284, 83, 2, out.length + 1, (rowAt css [.int .u32 0, .slice none 0 0] i).flatten⟩ := by rw [hji]
          obtain ⟨hW351, hF353⟩ := hW302.rowEq 0 [⟨A283, c284, 83, 2, out.length + 1, (rowAt css [.int .u32 0, .slice none 0 0] i).flatten⟩] er350
          clear hW302
          obtain ⟨g347, hA348⟩ := own_addr (hW351.own 0 _ rfl) (show 0 < out.length + 1 by omega)
          refine of_op (wpOp_index hE346 (t := 24) (A := A283) (m := (out.length + 1)) (q := ((i : Nat) : Int)) (d := 82) (by kernel_rfl) (e := 83) (size := 2) (bytes := 32) (by kernel_rfl) (b := g347) (o := 0) (j := i) hA348 (rfl) (by omega) fun a354 hE355 => ?_)
          clear hE346
          refine of_op (wpOp_storeR hW351 hE355 (k := 0) (g := g347) (o := i * 2) (c := c284) (m := (out.length + 1)) (size := 2) (e := 83) (A := A283) (xs := ((rowAt css [.int .u32 0, .slice none 0 0] i).flatten)) (vs := [.int .u32 k40, .slice A43 s41.length c44]) (by kernel_rfl) rfl hA348 (by simp only [List.length_cons, List.length_nil]; omega) fun w356 hF357 hW358 hE359 => ?_)
          clear hE355 hW351
          refine wpOps_nil ?_
          refine block_normal ?_
          refine then_normal ?_
          refine go_region [0, 1] (by kernel_rfl) ?_
          refine go_rn [0, 1] [] [(5, .v (.int .u32 (knownI l))), (6, .v (.slice A283 (out.length + 1) c284)), (17, .v (.slice A ((u.take 32767).length) c)), (18, .v (.int .i64 (((u.take 32767).length : Nat) : Int))), (19, .v (.int .i64 (IntKind.i64.wrap (((k : Nat) : Int) + 1))))] hW358 hE359 fun a360 hE361 => ?_
          clear hE359
          refine wpOps_nil ?_
          refine then_normal ?_
          obtain ⟨hE362, hW363, hF364⟩ := hW358.cutB hE361 0 [] [(5, .v (.int .u32 (knownI l))), (6, .v (.slice A283 (out.length + 1) c284)), (17, .v (.slice A ((u.take 32767).length) c)), (18, .v (.int .i64 (((u.take 32767).length : Nat) : Int))), (19, .v (.int .i64 (IntKind.i64.wrap (((k : Nat) : Int) + 1))))]
          have hcl := (hT.move (Fr.trans (Fr.trans (Fr.trans (Fr.trans (Fr.trans (Fr.trans (Fr.trans (Fr.trans (Fr.trans (Fr.trans hF58 hF62) hF73) hF75) hF258) hF287) hF297) hF304) hF353) hF357) hF364).step immM (Fr.trans (Fr.trans (Fr.trans (Fr.trans (Fr.trans (Fr.trans (Fr.trans (Fr.trans (Fr.trans (Fr.trans hF58 hF62) hF73) hF75) hF258) hF287) hF297) hF304) hF353) hF357) hF364).to').len
          have er365 : (⟨A283, c284, 83, 2, out.length + 1, splice ((rowAt css [.int .u32 0, .slice none 0 0] i).flatten) (i * 2) [.int .u32 k40, .slice A43 s41.length c44]⟩ : Rw) = ⟨A283, c284, 83, 2, (out.take i ++ (k40, s41) :: out.drop i).length, (css.take i ++ [.int .u32 k40, .slice A43 s41.length c44] :: css.drop i).flatten⟩ := by rw [place_row (hT.move (Fr.trans (Fr.trans (Fr.trans (Fr.trans (Fr.trans (Fr.trans (Fr.trans (Fr.trans (Fr.trans (Fr.trans hF58 hF62) hF73) hF75) hF258) hF287) hF297) hF304) hF353) hF357) hF364).step immM (Fr.trans (Fr.trans (Fr.trans (Fr.trans (Fr.trans (Fr.trans (Fr.trans (Fr.trans (Fr.trans (Fr.trans hF58 hF62) hF73) hF75) hF258) hF287) hF297) hF304) hF353) hF357) hF364).to').two rfl (by omega) rfl, ins_length (k40, s41) hi]
          obtain ⟨hW366, hF368⟩ := hW363.rowEq 0 [⟨A283, c284, 83, 2, (out.take i ++ (k40, s41) :: out.drop i).length, (css.take i ++ [.int .u32 k40, .slice A43 s41.length c44] :: css.drop i).flatten⟩] er365
          clear hW363
          have he369 : IntKind.i64.wrap (((k : Nat) : Int) + 1) = ((k + 1 : Nat) : Int) := wrap_succ (by omega)
          rw [he369] at hE362
          have he370 : out.length + 1 = (out.take i ++ (k40, s41) :: out.drop i).length := ins_length (k40, s41) hi
          rw [he370] at hE362
          exact ⟨(u.take 32767).length - (k + 1), by omega, k + 1, A283, c284, (out.take i ++ (k40, s41) :: out.drop i), (css.take i ++ [.int .u32 k40, .slice A43 s41.length c44] :: css.drop i), rfl, by omega, (hT.move (Fr.trans (Fr.trans (Fr.trans (Fr.trans (Fr.trans (Fr.trans (Fr.trans (Fr.trans (Fr.trans (Fr.trans (Fr.trans hF58 hF62) hF73) hF75) hF258) hF287) hF297) hF304) hF353) hF357) hF364) hF368).step immM (Fr.trans (Fr.trans (Fr.trans (Fr.trans (Fr.trans (Fr.trans (Fr.trans (Fr.trans (Fr.trans (Fr.trans (Fr.trans hF58 hF62) hF73) hF75) hF258) hF287) hF297) hF304) hF353) hF357) hF364) hF368).to').ins ⟨⟨A43, c44, rfl, (hb46.move hW366.step nilM hW366.imm)⟩, h47, h48⟩ hi, by rw [foldl_take_succ he42, ← hout]; exact (ins_new (tagPos_eq hi hlt (fun h_ => absurd h_ (by omega))) (by assumption) (fun h_ => absurd h_ (by omega))).symm, by rw [← ins_length (k40, s41) hi]; omega, hE362.pk, hW366, (Fr.trans (Fr.trans (Fr.trans (Fr.trans (Fr.trans (Fr.trans (Fr.trans (Fr.trans (Fr.trans (Fr.trans (Fr.trans (Fr.trans hF30 hF58) hF62) hF73) hF75) hF258) hF287) hF297) hF304) hF353) hF357) hF364) hF368)⟩
  ·
    have hf371 := of_decide_eq_false hc33
    refine wp_exit ?_
    refine then_exit ?_
    refine then_exit ?_
    refine block_exit ?_
    refine then_normal ?_
    refine go_sp [(4, .v (.slice A_ out.length c_))] hW27 hE32 fun a372 hE373 => ?_
    clear hE32
    refine wp_ret ?_
    refine leave hE373 hW27.cells (v := .slice A_ out.length c_) (by kernel_rfl) ?_
    exact unknown_end hW27 (k := 0) rfl rfl rfl hT (by omega) (by rw [hout, List.take_of_length_le (by omega)]; rfl)

end Go.Proofs.YtnhgfbgdoelfoaaGreatDoor.ME

/- Contracts: printed by tools/sp.py. Own work. -/
namespace Go.Proofs.YtnhgfbgdoelfoaaGreatDoor.ME
open Go
set_option linter.unusedVariables false
set_option linter.unusedSimpArgs false
set_option maxRecDepth 20000

/-- whether a field at most d deep is as usual -/
def UsualOK (d : Nat) : Prop := ∀ (cf : List Value) (f : Fld) (ct : List Value) (t : Tree) (w : World) (F : Nat → Nat → Prop), FldR w F cf f → f.depth ≤ d → TreeR w F ct t →
    Calls Tryz.prog 84 #[.agg cf.toArray, .agg ct.toArray] w (Gives w (.bool (f.usual t)))

theorem sUsual_step {d : Nat} (hu : UsualOK d) (cf : List Value) (f : Fld) (ct : List Value) (t : Tree) (w : World) (F : Nat → Nat → Prop) (hf : FldR w F cf f) (hd : f.depth ≤ d + 1) (ht : TreeR w F ct t) :
    Calls Tryz.prog 84 #[.agg cf.toArray, .agg ct.toArray] w (Gives w (.bool (f.usual t))) := by
  obtain ⟨k1, y2, y3, y4, y5, y6, y7, l8, A9, c10, xs11, rfl, rfl, h13, h14⟩ := hf.open_
  have hsm15 := h13.small
  obtain ⟨n16, s17, b18, l19, u20, A21, c22, A23, c24, A25, c26, xs27, rfl, rfl, h29, h30, h31, h32⟩ := ht.open_
  have hsm34 := h29.small
  have hsm35 := h30.small
  refine enter (n := 91) Tryz.func84 rfl Tryz.ntmps84 (by kernel_rfl) fun a hE => ?_
  have hW := WOk.start w Nil
  refine go_seq_region [0, 1, 2] (by kernel_rfl) ?_
  refine of_op (wpOp_box hW hE (d := 2) (cs := [.int .i64 k1, .int .i64 y2, .int .i64 y3, .int .i64 y4, .int .i64 y5, .int .i64 y6, .int .i64 y7, .slice A9 l8.length c10]) (by kernel_rfl) fun b36 a37 w38 hb39 hz40 hF41 hW42 hE43 => ?_)
  clear hE hW
  refine of_op (wpOp_box hW42 hE43 (d := 3) (cs := [.int .i64 n16, .slice A21 s17.length c22, .bool b18, .slice A23 l19.length c24, .slice A25 u20.length c26]) (by kernel_rfl) fun b44 a45 w46 hb47 hz48 hF49 hW50 hE51 => ?_)
  clear hE43 hW42
  refine go_rn [2] [] [(2, .p 0 0), (3, .p 1 0)] hW50 hE51 fun a52 hE53 => ?_
  clear hE51
  refine wpOps_nil ?_
  refine then_normal ?_
  refine wp_seq ?_
  refine go_sp [(2, .p 0 0), (3, .p 1 0), (10, .v (.int .i64 k1))] hW50 hE53 fun a54 hE55 => ?_
  clear hE53
  refine wp_block ?_
  refine go_sp [(2, .p 0 0), (3, .p 1 0), (10, .v (.int .i64 k1)), (11, .v (.bool (k1 == 0)))] hW50 hE55 fun a56 hE57 => ?_
  clear hE55
  refine cond_of hE57 (b := k1 == 0) (by kernel_rfl) (fun hc58 => ?_) (fun hc58 => ?_)
  ·
    have hf59 : k1 = 0 := by simpa using hc58
    refine go_sp [(4, .v (.bool ((IntKind.i64.wrap (BitVec.ofInt 64 n16 &&& BitVec.ofInt 64 1).toNat) == y6)))] hW50 hE57 fun a60 hE61 => ?_
    clear hE57
    refine wp_ret ?_
    refine block_ret ?_
    refine then_ret ?_
    refine leave hE61 hW50.cells (v := .bool ((IntKind.i64.wrap (BitVec.ofInt 64 n16 &&& BitVec.ofInt 64 1).toNat) == y6)) (by kernel_rfl) ?_
    refine ⟨congrArg (fun b_ => Ending.returned (Value.bool b_)) ?_, hW50.step⟩
    first
      | (rw [usual_0 (by assumption)]; simp only [and1]; done)
      | (rw [usual_7 (by assumption) (by assumption)]; exact zero16_true hz (by omega); done)
      | (rw [usual_7 (by assumption) (by assumption)]; exact zero16_false (k := k) (by omega) (by omega) (by assumption); done)
      | (rw [usual_89n (by assumption) (by assumption) (by omega) (by assumption)]; done)
      | (rw [usual_89 (by assumption) (by assumption) (by omega) (by assumption)]; done)
      | (rw [usual_11 (by assumption) (by assumption) (by assumption) (by assumption) (by assumption)]; done)
      | (rw [usual_10 (by assumption) (by assumption) (by assumption) (by assumption) (by assumption) (by assumption), huu, usuals_end (by omega), Bool.true_and]; done)
      | (rw [usual_else (by assumption) (by assumption) (by assumption) (by assumption) (by assumption) (by assumption)]; done)
  ·
    have hf62 : k1 ≠ 0 := by simpa using hc58
    refine go_sp [(2, .p 0 0), (3, .p 1 0), (10, .v (.int .i64 k1)), (19, .v (.bool (k1 == 7)))] hW50 hE57 fun a63 hE64 => ?_
    clear hE57
    refine cond_of hE64 (b := k1 == 7) (by kernel_rfl) (fun hc65 => ?_) (fun hc65 => ?_)
    ·
      have hf66 : k1 = 7 := by simpa using hc65
      refine wp_seq ?_
      refine go_sp [(22, .v (.slice A21 s17.length c22)), (23, .v (.int .i64 ((s17.length : Nat) : Int))), (24, .v (.int .i64 0))] hW50 hE64 fun a67 hE68 => ?_
      clear hE64
      refine wp_block ?_
      refine wp_loop_ghost (fun n_ a_ w_ => ∃ (k : Nat), n_ = s17.length - k ∧ k ≤ s17.length ∧ (∀ q, q < k → q < 16 → (((s17.getD q 0).toNat : Nat) : Int) = 0) ∧ LInv hW50 91 [⟨b36, 0, [.int .i64 k1, .int .i64 y2, .int .i64 y3, .int .i64 y4, .int .i64 y5, .int .i64 y6, .int .i64 y7, .slice A9 l8.length c10], true⟩, ⟨b44, 0, [.int .i64 n16, .slice A21 s17.length c22, .bool b18, .slice A23 l19.length c24, .slice A25 u20.length c26], true⟩] [] [(22, .v (.slice A21 s17.length c22)), (23, .v (.int .i64 ((s17.length : Nat) : Int))), (24, .v (.int .i64 ((k : Nat) : Int)))] a_ w_) (s17.length) ⟨0, by omega, by omega, fun q h_ => absurd h_ (Nat.not_lt_zero q), hE68.pk, hW50, Fr.refl _ _ _⟩ ?_
      clear hE68
      rintro n69 a70 w71 ⟨k, hn74, hk75, hz, hE72, hW73, hF76⟩
      refine go_sp [(22, .v (.slice A21 s17.length c22)), (23, .v (.int .i64 ((s17.length : Nat) : Int))), (24, .v (.int .i64 ((k : Nat) : Int))), (25, .v (.bool (decide (((k : Nat) : Int) < ((s17.length : Nat) : Int)))))] hW73 hE72 fun a77 hE78 => ?_
      clear hE72
      refine wp_seq ?_
      refine cond_of hE78 (b := decide (((k : Nat) : Int) < ((s17.length : Nat) : Int))) (by kernel_rfl) (fun hc79 => ?_) (fun hc79 => ?_)
      ·
        have hf80 := of_decide_eq_true hc79
        refine wp_skip ?_
        refine then_normal ?_
        refine wp_seq ?_
        refine wp_block ?_
        refine go_seq_region [0, 1, 2, 3, 4] (by kernel_rfl) ?_
        refine go_rn [0] [1, 2, 3, 4] [(22, .v (.slice A21 s17.length c22)), (23, .v (.int .i64 ((s17.length : Nat) : Int))), (24, .v (.int .i64 ((k : Nat) : Int))), (26, .v (.int .i64 ((k : Nat) : Int)))] hW73 hE78 fun a81 hE82 => ?_
        clear hE78
        obtain ⟨b83, o84, hA85, hl86, hat87⟩ := Slots.get h29 (i := k) (by omega)
        refine of_op (wpOp_index hE82 (t := 22) (A := A21) (m := s17.length) (q := ((k : Nat) : Int)) (d := 27) (by kernel_rfl) (e := 5) (size := 1) (bytes := 1) (by kernel_rfl) hA85 rfl (by omega) fun a88 hE89 => ?_)
        clear hE82
        refine of_op (wpOp_load hE89 (t := 5) (b := b83) (o := o84 + k * 1) (d := 28) (by kernel_rfl) (cs := [.int .u8 ((s17.getD k 0).toNat : Int)]) (v := .int .u8 ((s17.getD k 0).toNat : Int)) (by kernel_rfl) (AtF.move hat87 hW73.step nilM keepF).at_ fun a90 hE91 => ?_)
        clear hE89
        refine go_rn [3, 4] [] [(5, .v (.int .i64 ((k : Nat) : Int))), (6, .v (.int .u8 ((s17.getD k 0).toNat : Int))), (22, .v (.slice A21 s17.length c22)), (23, .v (.int .i64 ((s17.length : Nat) : Int))), (24, .v (.int .i64 ((k : Nat) : Int)))] hW73 hE91 fun a92 hE93 => ?_
        clear hE91
        refine wpOps_nil ?_
        refine then_normal ?_
        refine go_seq_region [0, 1, 2, 3, 4, 5] (by kernel_rfl) ?_
        refine go_rn [0, 1, 2] [3, 4, 5] [(6, .v (.int .u8 ((s17.getD k 0).toNat : Int))), (22, .v (.slice A21 s17.length c22)), (23, .v (.int .i64 ((s17.length : Nat) : Int))), (24, .v (.int .i64 ((k : Nat) : Int))), (31, .v (.bool (decide (((k : Nat) : Int) < 16))))] hW73 hE93 fun a94 hE95 => ?_
        clear hE93
        refine (Bool.eq_false_or_eq_true (decide (((k : Nat) : Int) < 16))).elim (fun hc96 => ?_) (fun hc96 => ?_)
        ·
          have hf97 := of_decide_eq_true hc96
          have hE98 := hE95.cast (env' := [(6, .v (.int .u8 ((s17.getD k 0).toNat : Int))), (22, .v (.slice A21 s17.length c22)), (23, .v (.int .i64 ((s17.length : Nat) : Int))), (24, .v (.int .i64 ((k : Nat) : Int))), (31, .v (.bool true))]) (by rw [hc96])
          clear hE95
          refine go_rn [3, 4, 5] [] [(22, .v (.slice A21 s17.length c22)), (23, .v (.int .i64 ((s17.length : Nat) : Int))), (24, .v (.int .i64 ((k : Nat) : Int))), (34, .v (.bool (((s17.getD k 0).toNat : Int) != 0)))] hW73 hE98 fun a99 hE100 => ?_
          clear hE98
          refine wpOps_nil ?_
          refine then_normal ?_
          refine cond_of hE100 (b := ((s17.getD k 0).toNat : Int) != 0) (by kernel_rfl) (fun hc101 => ?_) (fun hc101 => ?_)
          ·
            have hf102 : ((s17.getD k 0).toNat : Int) ≠ 0 := by simpa using hc101
            refine go_sp [(4, .v (.bool false))] hW73 hE100 fun a103 hE104 => ?_
            clear hE100
            refine wp_ret ?_
            refine block_ret ?_
            refine then_ret ?_
            refine then_ret ?_
            refine block_ret ?_
            refine then_ret ?_
            refine block_ret ?_
            refine then_ret ?_
            refine leave hE104 hW73.cells (v := .bool false) (by kernel_rfl) ?_
            refine ⟨congrArg (fun b_ => Ending.returned (Value.bool b_)) ?_, hW73.step⟩
            first
              | (rw [usual_0 (by assumption)]; simp only [and1]; done)
              | (rw [usual_7 (by assumption) (by assumption)]; exact zero16_true hz (by omega); done)
              | (rw [usual_7 (by assumption) (by assumption)]; exact zero16_false (k := k) (by omega) (by omega) (by assumption); done)
              | (rw [usual_89n (by assumption) (by assumption) (by omega) (by assumption)]; done)
              | (rw [usual_89 (by assumption) (by assumption) (by omega) (by assumption)]; done)
              | (rw [usual_11 (by assumption) (by assumption) (by assumption) (by assumption) (by assumption)]; done)
              | (rw [usual_10 (by assumption) (by assumption) (by assumption) (by assumption) (by assumption) (by assumption), huu, usuals_end (by omega), Bool.true_and]; done)
              | (rw [usual_else (by assumption) (by assumption) (by assumption) (by assumption) (by assumption) (by assumption)]; done)
          ·
            have hf105 : ((s17.getD k 0).toNat : Int) = 0 := by simpa using hc101
            refine wp_skip ?_
            refine block_normal ?_
            refine then_normal ?_
            refine go_region [0, 1] (by kernel_rfl) ?_
            refine go_rn [0, 1] [] [(22, .v (.slice A21 s17.length c22)), (23, .v (.int .i64 ((s17.length : Nat) : Int))), (24, .v (.int .i64 (IntKind.i64.wrap (((k : Nat) : Int) + 1))))] hW73 hE100 fun a106 hE107 => ?_
            clear hE100
            refine wpOps_nil ?_
            refine then_normal ?_
            have he108 : IntKind.i64.wrap (((k : Nat) : Int) + 1) = ((k + 1 : Nat) : Int) := wrap_succ (by omega)
            rw [he108] at hE107
            exact ⟨s17.length - (k + 1), by omega, k + 1, rfl, by omega, fun q hq h16 => by rcases Nat.lt_succ_iff_lt_or_eq.1 hq with h_ | h_; exact hz q h_ h16; rw [h_] at h16 ⊢; first | assumption | omega, hE107.pk, hW73, hF76⟩
        ·
          have hf109 := of_decide_eq_false hc96
          have hE110 := hE95.cast (env' := [(6, .v (.int .u8 ((s17.getD k 0).toNat : Int))), (22, .v (.slice A21 s17.length c22)), (23, .v (.int .i64 ((s17.length : Nat) : Int))), (24, .v (.int .i64 ((k : Nat) : Int))), (31, .v (.bool false))]) (by rw [hc96])
          clear hE95
          refine go_rn [3, 4, 5] [] [(22, .v (.slice A21 s17.length c22)), (23, .v (.int .i64 ((s17.length : Nat) : Int))), (24, .v (.int .i64 ((k : Nat) : Int))), (34, .v (.bool false))] hW73 hE110 fun a111 hE112 => ?_
          clear hE110
          refine wpOps_nil ?_
          refine then_normal ?_
          refine cond_false hE112 (b := false) (by kernel_rfl) rfl ?_
          refine wp_skip ?_
          refine block_normal ?_
          refine then_normal ?_
          refine go_region [0, 1] (by kernel_rfl) ?_
          refine go_rn [0, 1] [] [(22, .v (.slice A21 s17.length c22)), (23, .v (.int .i64 ((s17.length : Nat) : Int))), (24, .v (.int .i64 (IntKind.i64.wrap (((k : Nat) : Int) + 1))))] hW73 hE112 fun a113 hE114 => ?_
          clear hE112
          refine wpOps_nil ?_
          refine then_normal ?_
          have he115 : IntKind.i64.wrap (((k : Nat) : Int) + 1) = ((k + 1 : Nat) : Int) := wrap_succ (by omega)
          rw [he115] at hE114
          exact ⟨s17.length - (k + 1), by omega, k + 1, rfl, by omega, fun q hq h16 => by rcases Nat.lt_succ_iff_lt_or_eq.1 hq with h_ | h_; exact hz q h_ h16; rw [h_] at h16 ⊢; first | assumption | omega, hE114.pk, hW73, hF76⟩
      ·
        have hf116 := of_decide_eq_false hc79
        refine wp_exit ?_
        refine then_exit ?_
        refine then_exit ?_
        refine block_exit ?_
        refine then_normal ?_
        refine go_sp [(4, .v (.bool true))] hW73 hE78 fun a117 hE118 => ?_
        clear hE78
        refine wp_ret ?_
        refine block_ret ?_
        refine then_ret ?_
        refine leave hE118 hW73.cells (v := .bool true) (by kernel_rfl) ?_
        refine ⟨congrArg (fun b_ => Ending.returned (Value.bool b_)) ?_, hW73.step⟩
        first
          | (rw [usual_0 (by assumption)]; simp only [and1]; done)
          | (rw [usual_7 (by assumption) (by assumption)]; exact zero16_true hz (by omega); done)
          | (rw [usual_7 (by assumption) (by assumption)]; exact zero16_false (k := k) (by omega) (by omega) (by assumption); done)
          | (rw [usual_89n (by assumption) (by assumption) (by omega) (by assumption)]; done)
          | (rw [usual_89 (by assumption) (by assumption) (by omega) (by assumption)]; done)
          | (rw [usual_11 (by assumption) (by assumption) (by assumption) (by assumption) (by assumption)]; done)
          | (rw [usual_10 (by assumption) (by assumption) (by assumption) (by assumption) (by assumption) (by assumption), huu, usuals_end (by omega), Bool.true_and]; done)
          | (rw [usual_else (by assumption) (by assumption) (by assumption) (by assumption) (by assumption) (by assumption)]; done)
    ·
      have hf119 : k1 ≠ 7 := by simpa using hc65
      refine wp_seq ?_
      refine go_sp [(2, .p 0 0), (3, .p 1 0), (10, .v (.int .i64 k1)), (36, .v (.bool (k1 == 8)))] hW50 hE64 fun a120 hE121 => ?_
      clear hE64
      refine cond_of hE121 (b := k1 == 8) (by kernel_rfl) (fun hc122 => ?_) (fun hc122 => ?_)
      ·
        have hf123 : k1 = 8 := by simpa using hc122
        refine wp_skip ?_
        refine then_normal ?_
        refine cond_true hE121 (b := k1 == 8) (by kernel_rfl) (hc122) ?_
        refine wp_seq ?_
        refine go_sp [(3, .p 1 0), (41, .v (.bool (decide (y4 ≥ 0))))] hW50 hE121 fun a124 hE125 => ?_
        clear hE121
        refine cond_of hE125 (b := decide (y4 ≥ 0)) (by kernel_rfl) (fun hc126 => ?_) (fun hc126 => ?_)
        ·
          have hf127 := of_decide_eq_true hc126
          refine go_sp [(4, .v (.bool b18))] hW50 hE125 fun a128 hE129 => ?_
          clear hE125
          refine wp_ret ?_
          refine then_ret ?_
          refine block_ret ?_
          refine then_ret ?_
          refine leave hE129 hW50.cells (v := .bool b18) (by kernel_rfl) ?_
          refine ⟨congrArg (fun b_ => Ending.returned (Value.bool b_)) ?_, hW50.step⟩
          first
            | (rw [usual_0 (by assumption)]; simp only [and1]; done)
            | (rw [usual_7 (by assumption) (by assumption)]; exact zero16_true hz (by omega); done)
            | (rw [usual_7 (by assumption) (by assumption)]; exact zero16_false (k := k) (by omega) (by omega) (by assumption); done)
            | (rw [usual_89n (by assumption) (by assumption) (by omega) (by assumption)]; done)
            | (rw [usual_89 (by assumption) (by assumption) (by omega) (by assumption)]; done)
            | (rw [usual_11 (by assumption) (by assumption) (by assumption) (by assumption) (by assumption)]; done)
            | (rw [usual_10 (by assumption) (by assumption) (by assumption) (by assumption) (by assumption) (by assumption), huu, usuals_end (by omega), Bool.true_and]; done)
            | (rw [usual_else (by assumption) (by assumption) (by assumption) (by assumption) (by assumption) (by assumption)]; done)
        ·
          have hf130 := of_decide_eq_false hc126
          refine wp_skip ?_
          refine then_normal ?_
          refine go_sp [(4, .v (.bool (((s17.length : Nat) : Int) == 0)))] hW50 hE125 fun a131 hE132 => ?_
          clear hE125
          refine wp_ret ?_
          refine block_ret ?_
          refine then_ret ?_
          refine leave hE132 hW50.cells (v := .bool (((s17.length : Nat) : Int) == 0)) (by kernel_rfl) ?_
          refine ⟨congrArg (fun b_ => Ending.returned (Value.bool b_)) ?_, hW50.step⟩
          first
            | (rw [usual_0 (by assumption)]; simp only [and1]; done)
            | (rw [usual_7 (by assumption) (by assumption)]; exact zero16_true hz (by omega); done)
            | (rw [usual_7 (by assumption) (by assumption)]; exact zero16_false (k := k) (by omega) (by omega) (by assumption); done)
            | (rw [usual_89n (by assumption) (by assumption) (by omega) (by assumption)]; done)
            | (rw [usual_89 (by assumption) (by assumption) (by omega) (by assumption)]; done)
            | (rw [usual_11 (by assumption) (by assumption) (by assumption) (by assumption) (by assumption)]; done)
            | (rw [usual_10 (by assumption) (by assumption) (by assumption) (by assumption) (by assumption) (by assumption), huu, usuals_end (by omega), Bool.true_and]; done)
            | (rw [usual_else (by assumption) (by assumption) (by assumption) (by assumption) (by assumption) (by assumption)]; done)
      ·
        have hf133 : k1 ≠ 8 := by simpa using hc122
        refine go_region [0, 1] (by kernel_rfl) ?_
        refine go_rn [0, 1] [] [(2, .p 0 0), (3, .p 1 0), (10, .v (.int .i64 k1)), (36, .v (.bool (k1 == 9)))] hW50 hE121 fun a134 hE135 => ?_
        clear hE121
        refine wpOps_nil ?_
        refine then_normal ?_
        refine cond_of hE135 (b := k1 == 9) (by kernel_rfl) (fun hc136 => ?_) (fun hc136 => ?_)
        ·
          have hf137 : k1 = 9 := by simpa using hc136
          refine wp_seq ?_
          refine go_sp [(3, .p 1 0), (41, .v (.bool (decide (y4 ≥ 0))))] hW50 hE135 fun a138 hE139 => ?_
          clear hE135
          refine cond_of hE139 (b := decide (y4 ≥ 0)) (by kernel_rfl) (fun hc140 => ?_) (fun hc140 => ?_)
          ·
            have hf141 := of_decide_eq_true hc140
            refine go_sp [(4, .v (.bool b18))] hW50 hE139 fun a142 hE143 => ?_
            clear hE139
            refine wp_ret ?_
            refine then_ret ?_
            refine block_ret ?_
            refine then_ret ?_
            refine leave hE143 hW50.cells (v := .bool b18) (by kernel_rfl) ?_
            refine ⟨congrArg (fun b_ => Ending.returned (Value.bool b_)) ?_, hW50.step⟩
            first
              | (rw [usual_0 (by assumption)]; simp only [and1]; done)
              | (rw [usual_7 (by assumption) (by assumption)]; exact zero16_true hz (by omega); done)
              | (rw [usual_7 (by assumption) (by assumption)]; exact zero16_false (k := k) (by omega) (by omega) (by assumption); done)
              | (rw [usual_89n (by assumption) (by assumption) (by omega) (by assumption)]; done)
              | (rw [usual_89 (by assumption) (by assumption) (by omega) (by assumption)]; done)
              | (rw [usual_11 (by assumption) (by assumption) (by assumption) (by assumption) (by assumption)]; done)
              | (rw [usual_10 (by assumption) (by assumption) (by assumption) (by assumption) (by assumption) (by assumption), huu, usuals_end (by omega), Bool.true_and]; done)
              | (rw [usual_else (by assumption) (by assumption) (by assumption) (by assumption) (by assumption) (by assumption)]; done)
          ·
            have hf144 := of_decide_eq_false hc140
            refine wp_skip ?_
            refine then_normal ?_
            refine go_sp [(4, .v (.bool (((s17.length : Nat) : Int) == 0)))] hW50 hE139 fun a145 hE146 => ?_
            clear hE139
            refine wp_ret ?_
            refine block_ret ?_
            refine then_ret ?_
            refine leave hE146 hW50.cells (v := .bool (((s17.length : Nat) : Int) == 0)) (by kernel_rfl) ?_
            refine ⟨congrArg (fun b_ => Ending.returned (Value.bool b_)) ?_, hW50.step⟩
            first
              | (rw [usual_0 (by assumption)]; simp only [and1]; done)
              | (rw [usual_7 (by assumption) (by assumption)]; exact zero16_true hz (by omega); done)
              | (rw [usual_7 (by assumption) (by assumption)]; exact zero16_false (k := k) (by omega) (by omega) (by assumption); done)
              | (rw [usual_89n (by assumption) (by assumption) (by omega) (by assumption)]; done)
              | (rw [usual_89 (by assumption) (by assumption) (by omega) (by assumption)]; done)
              | (rw [usual_11 (by assumption) (by assumption) (by assumption) (by assumption) (by assumption)]; done)
              | (rw [usual_10 (by assumption) (by assumption) (by assumption) (by assumption) (by assumption) (by assumption), huu, usuals_end (by omega), Bool.true_and]; done)
              | (rw [usual_else (by assumption) (by assumption) (by assumption) (by assumption) (by assumption) (by assumption)]; done)
        ·
          have hf147 : k1 ≠ 9 := by simpa using hc136
          refine go_sp [(2, .p 0 0), (3, .p 1 0), (10, .v (.int .i64 k1)), (48, .v (.bool (k1 == 11)))] hW50 hE135 fun a148 hE149 => ?_
          clear hE135
          refine cond_of hE149 (b := k1 == 11) (by kernel_rfl) (fun hc150 => ?_) (fun hc150 => ?_)
          ·
            have hf151 : k1 = 11 := by simpa using hc150
            refine go_sp [(4, .v (.bool (((l19.length : Nat) : Int) == 0)))] hW50 hE149 fun a152 hE153 => ?_
            clear hE149
            refine wp_ret ?_
            refine block_ret ?_
            refine then_ret ?_
            refine leave hE153 hW50.cells (v := .bool (((l19.length : Nat) : Int) == 0)) (by kernel_rfl) ?_
            refine ⟨congrArg (fun b_ => Ending.returned (Value.bool b_)) ?_, hW50.step⟩
            first
              | (rw [usual_0 (by assumption)]; simp only [and1]; done)
              | (rw [usual_7 (by assumption) (by assumption)]; exact zero16_true hz (by omega); done)
              | (rw [usual_7 (by assumption) (by assumption)]; exact zero16_false (k := k) (by omega) (by omega) (by assumption); done)
              | (rw [usual_89n (by assumption) (by assumption) (by omega) (by assumption)]; done)
              | (rw [usual_89 (by assumption) (by assumption) (by omega) (by assumption)]; done)
              | (rw [usual_11 (by assumption) (by assumption) (by assumption) (by assumption) (by assumption)]; done)
              | (rw [usual_10 (by assumption) (by assumption) (by assumption) (by assumption) (by assumption) (by assumption), huu, usuals_end (by omega), Bool.true_and]; done)
              | (rw [usual_else (by assumption) (by assumption) (by assumption) (by assumption) (by assumption) (by assumption)]; done)
          ·
            have hf154 : k1 ≠ 11 := by simpa using hc150
            refine go_sp [(2, .p 0 0), (3, .p 1 0), (54, .v (.bool (k1 == 10)))] hW50 hE149 fun a155 hE156 => ?_
            clear hE149
            refine cond_of hE156 (b := k1 == 10) (by kernel_rfl) (fun hc157 => ?_) (fun hc157 => ?_)
            ·
              have hf158 : k1 = 10 := by simpa using hc157
              refine wp_seq ?_
              refine go_sp [(2, .p 0 0), (3, .p 1 0), (57, .v (.slice A9 l8.length c10)), (58, .v (.int .i64 ((l8.length : Nat) : Int))), (59, .v (.int .i64 0))] hW50 hE156 fun a159 hE160 => ?_
              clear hE156
              refine wp_block ?_
              refine wp_loop_ghost (fun n_ a_ w_ => ∃ (k : Nat), n_ = l8.length - k ∧ k ≤ l8.length ∧ (usuals l8 (Tree.mk n16 s17 b18 l19 u20) 0 = usuals (l8.drop k) (Tree.mk n16 s17 b18 l19 u20) k) ∧ LInv hW50 91 [⟨b36, 0, [.int .i64 k1, .int .i64 y2, .int .i64 y3, .int .i64 y4, .int .i64 y5, .int .i64 y6, .int .i64 y7, .slice A9 l8.length c10], true⟩, ⟨b44, 0, [.int .i64 n16, .slice A21 s17.length c22, .bool b18, .slice A23 l19.length c24, .slice A25 u20.length c26], true⟩] [] [(2, .p 0 0), (3, .p 1 0), (57, .v (.slice A9 l8.length c10)), (58, .v (.int .i64 ((l8.length : Nat) : Int))), (59, .v (.int .i64 ((k : Nat) : Int)))] a_ w_) (l8.length) ⟨0, by omega, by omega, rfl, hE160.pk, hW50, Fr.refl _ _ _⟩ ?_
              clear hE160
              rintro n161 a162 w163 ⟨k, hn166, hk167, huu, hE164, hW165, hF168⟩
              refine go_sp [(2, .p 0 0), (3, .p 1 0), (57, .v (.slice A9 l8.length c10)), (58, .v (.int .i64 ((l8.length : Nat) : Int))), (59, .v (.int .i64 ((k : Nat) : Int))), (60, .v (.bool (decide (((k : Nat) : Int) < ((l8.length : Nat) : Int)))))] hW165 hE164 fun a169 hE170 => ?_
              clear hE164
              refine wp_seq ?_
              refine cond_of hE170 (b := decide (((k : Nat) : Int) < ((l8.length : Nat) : Int))) (by kernel_rfl) (fun hc171 => ?_) (fun hc171 => ?_)
              ·
                have hf172 := of_decide_eq_true hc171
                refine wp_skip ?_
                refine then_normal ?_
                refine wp_seq ?_
                refine wp_block ?_
                refine go_seq_region [0, 1, 2, 3, 4, 5] (by kernel_rfl) ?_
                refine go_rn [0] [1, 2, 3, 4, 5] [(2, .p 0 0), (3, .p 1 0), (57, .v (.slice A9 l8.length c10)), (58, .v (.int .i64 ((l8.length : Nat) : Int))), (59, .v (.int .i64 ((k : Nat) : Int))), (61, .v (.int .i64 ((k : Nat) : Int)))] hW165 hE170 fun a173 hE174 => ?_
                clear hE170
                obtain ⟨b175, o176, hA177, hl178, hat179⟩ := Slots.get h13 (i := k) (by omega)
                obtain ⟨x180, he181⟩ : ∃ x, l8[k]? = some x := ⟨_, List.getElem?_eq_getElem (by omega)⟩
                have hr182 := h14 k x180 he181
                obtain ⟨k183, y184, y185, y186, y187, y188, y189, l190, A191, c192, xs193, rfl, hcs194, h195, h196⟩ := hr182.open_
                rw [hcs194] at hr182
                have hsm197 := h195.small
                rw [hcs194] at hat179
                refine of_op (wpOp_index hE174 (t := 29) (A := A9) (m := l8.length) (q := ((k : Nat) : Int)) (d := 62) (by kernel_rfl) (e := 56) (size := 8) (bytes := 80) (by kernel_rfl) hA177 rfl (by omega) fun a198 hE199 => ?_)
                clear hE174
                refine of_op (wpOp_load hE199 (t := 56) (b := b175) (o := o176 + k * 8) (d := 63) (by kernel_rfl) (cs := [.int .i64 k183, .int .i64 y184, .int .i64 y185, .int .i64 y186, .int .i64 y187, .int .i64 y188, .int .i64 y189, .slice A191 l190.length c192]) (v := .agg #[.int .i64 k183, .int .i64 y184, .int .i64 y185, .int .i64 y186, .int .i64 y187, .int .i64 y188, .int .i64 y189, .slice A191 l190.length c192]) (by kernel_rfl) (AtF.move hat179 hW165.step nilM keepF).at_ fun a200 hE201 => ?_)
                clear hE199
                refine of_op (wpOp_alloc hW165 hE201 (d := 8) (cs := [.int .i64 0, .int .i64 0, .int .i64 0, .int .i64 0, .int .i64 0, .int .i64 0, .int .i64 0, .slice none 0 0]) (by kernel_rfl) fun b202 a203 w204 hb205 hz206 hF207 hW208 hE209 => ?_)
                clear hE201 hW165
                refine go_rn [4] [5] [(2, .p 0 0), (3, .p 1 0), (7, .v (.int .i64 ((k : Nat) : Int))), (8, .p 2 0), (57, .v (.slice A9 l8.length c10)), (58, .v (.int .i64 ((l8.length : Nat) : Int))), (59, .v (.int .i64 ((k : Nat) : Int))), (63, .v (.agg #[.int .i64 k183, .int .i64 y184, .int .i64 y185, .int .i64 y186, .int .i64 y187, .int .i64 y188, .int .i64 y189, .slice A191 l190.length c192]))] hW208 hE209 fun a210 hE211 => ?_
                clear hE209
                refine of_op (wpOp_store hW208 hE211 (oi := 2) (cs := [.int .i64 k183, .int .i64 y184, .int .i64 y185, .int .i64 y186, .int .i64 y187, .int .i64 y188, .int .i64 y189, .slice A191 l190.length c192]) (by kernel_rfl) fun w212 hF213 hW214 hE215 => ?_)
                clear hE211 hW208
                refine wpOps_nil ?_
                refine then_normal ?_
                refine go_seq_drawK 6 (by kernel_rfl) hW214 fun w216 hF217 hW218 hT219 => ?_
                clear hW214
                refine go_rnD [0, 1, 2] [(2, .p 0 0), (3, .p 1 0), (57, .v (.slice A9 l8.length c10)), (58, .v (.int .i64 ((l8.length : Nat) : Int))), (59, .v (.int .i64 ((k : Nat) : Int))), (64, .v (.agg #[.int .i64 k183, .int .i64 y184, .int .i64 y185, .int .i64 y186, .int .i64 y187, .int .i64 y188, .int .i64 y189, .slice A191 l190.length c192])), (65, .v (.agg #[.int .i64 n16, .slice A21 s17.length c22, .bool b18, .slice A23 l19.length c24, .slice A25 u20.length c26])), (66, .v (.int .i64 ((k : Nat) : Int)))] 3 (panicFree_then (panicFree_block (panicFree_then (panicFree_then (panicFree_block (panicFree_then (panicFree_block (panicFree_then panicFree_body)))))))) (fun _ h => h.cells) hT219 hE215 fun a220 hE221 => ?_
                clear hE215
                refine anyC_op (i := 3) (by kernel_rfl) (wpOp_call hE221 (f := 82) (vs := [.agg #[.int .i64 n16, .slice A21 s17.length c22, .bool b18, .slice A23 l19.length c24, .slice A25 u20.length c26], .int .i64 ((k : Nat) : Int)]) (d := 67) (by kernel_rfl) Tryz.call82 (sAt _ _ k _ _ (ht.move hW218.step nilM hW218.imm)) ?_)
                rintro e_ w225 ⟨cs224, rfl, hr223, hs222⟩
                have hr226 := hr223.move hs222 nilM (fun b o h_ hb_ => hW218.laid (G := F) hs222 b o (.inl h_) (Nat.lt_of_lt_of_le hb_ hs222.size))
                obtain ⟨n227, s228, b229, l230, u231, A232, c233, A234, c235, A236, c237, xs238, ht244, hcs239, h240, h241, h242, h243⟩ := hr226.open_
                rw [hcs239] at hr226
                have hsm245 := h240.small
                have hsm246 := h241.small
                rw [hcs239]
                refine ⟨_, rfl, fun a247 hE248 => ?_⟩
                have hW249 := hW218.next_nil hs222
                have hF250 := hW218.frN hs222
                clear hE221
                have hT251 := TT.ofW hF250 hW249
                refine ⟨fun _ => hT251, ?_⟩
                refine anyC_op (i := 4) (by kernel_rfl) (wpOp_call hE248 (f := 84) (vs := [.agg #[.int .i64 k183, .int .i64 y184, .int .i64 y185, .int .i64 y186, .int .i64 y187, .int .i64 y188, .int .i64 y189, .slice A191 l190.length c192], .agg #[.int .i64 n227, .slice A232 s228.length c233, .bool b229, .slice A234 l230.length c235, .slice A236 u231.length c237]]) (d := 68) (by kernel_rfl) Tryz.call84 ( hu _ _ _ _ _ _ (hr182.move hW249.step nilM hW249.imm) (by have h_ := depths_get he181; rw [depth_mk] at hd; omega) hr226) ?_)
                rintro e_ w253 ⟨rfl, hs252⟩
                refine ⟨_, rfl, fun a254 hE255 => ?_⟩
                have hW256 := hW249.next_nil hs252
                have hF257 := hW249.frN hs252
                clear hE248 hW249
                have hT258 := TT.ofW (Fr.trans hF250 hF257) hW256
                refine ⟨fun _ => hT258, ?_⟩
                refine go_rnD [5] [(2, .p 0 0), (3, .p 1 0), (57, .v (.slice A9 l8.length c10)), (58, .v (.int .i64 ((l8.length : Nat) : Int))), (59, .v (.int .i64 ((k : Nat) : Int))), (69, .v (.bool (!(Fld.usual (Fld.mk k183 y184 y185 y186 y187 y188 y189 l190) (Tree.at_ (Tree.mk n16 s17 b18 l19 u20) k)))))] 0 (panicFree_then (panicFree_block (panicFree_then (panicFree_then (panicFree_block (panicFree_then (panicFree_block (panicFree_then panicFree_body)))))))) (fun _ h => h.cells) hT258 hE255 fun a259 hE260 => ?_
                clear hE255
                refine anyC_done (by kernel_rfl) ?_ _
                refine then_normal ?_
                refine cond_of hE260 (b := !(Fld.usual (Fld.mk k183 y184 y185 y186 y187 y188 y189 l190) (Tree.at_ (Tree.mk n16 s17 b18 l19 u20) k))) (by kernel_rfl) (fun hc261 => ?_) (fun hc261 => ?_)
                ·
                  refine go_sp [(4, .v (.bool false))] hW256 hE260 fun a263 hE264 => ?_
                  clear hE260
                  refine wp_ret ?_
                  refine block_ret ?_
                  refine then_ret ?_
                  refine then_ret ?_
                  refine block_ret ?_
                  refine then_ret ?_
                  refine block_ret ?_
                  refine then_ret ?_
                  refine leave hE264 hW256.cells (v := .bool false) (by kernel_rfl) ?_
                  refine ⟨congrArg (fun b_ => Ending.returned (Value.bool b_)) ?_, hW256.step⟩
                  first
                    | (rw [usual_0 (by assumption)]; simp only [and1]; done)
                    | (rw [usual_7 (by assumption) (by assumption)]; exact zero16_true hz (by omega); done)
                    | (rw [usual_7 (by assumption) (by assumption)]; exact zero16_false (k := k) (by omega) (by omega) (by assumption); done)
                    | (rw [usual_89n (by assumption) (by assumption) (by omega) (by assumption)]; done)
                    | (rw [usual_89 (by assumption) (by assumption) (by omega) (by assumption)]; done)
                    | (rw [usual_11 (by assumption) (by assumption) (by assumption) (by assumption) (by assumption)]; done)
                    | (rw [usual_10 (by assumption) (by assumption) (by assumption) (by assumption) (by assumption) (by assumption), huu, usuals_end (by omega), Bool.true_and]; done)
                    | (rw [usual_else (by assumption) (by assumption) (by assumption) (by assumption) (by assumption) (by assumption)]; done)
                    | (rw [usual_10 (by assumption) (by assumption) (by assumption) (by assumption) (by assumption) (by assumption), huu, usuals_stop he181 (by simpa using hc261), Bool.false_and]; done)
                ·
                  refine wp_skip ?_
                  refine block_normal ?_
                  refine then_normal ?_
                  refine go_region [0, 1] (by kernel_rfl) ?_
                  refine go_rn [0, 1] [] [(2, .p 0 0), (3, .p 1 0), (57, .v (.slice A9 l8.length c10)), (58, .v (.int .i64 ((l8.length : Nat) : Int))), (59, .v (.int .i64 (IntKind.i64.wrap (((k : Nat) : Int) + 1))))] hW256 hE260 fun a266 hE267 => ?_
                  clear hE260
                  refine wpOps_nil ?_
                  refine then_normal ?_
                  obtain ⟨hE268, hW269, hF270⟩ := hW256.cutB hE267 2 [⟨b36, 0, [.int .i64 k1, .int .i64 y2, .int .i64 y3, .int .i64 y4, .int .i64 y5, .int .i64 y6, .int .i64 y7, .slice A9 l8.length c10], true⟩, ⟨b44, 0, [.int .i64 n16, .slice A21 s17.length c22, .bool b18, .slice A23 l19.length c24, .slice A25 u20.length c26], true⟩] [(2, .p 0 0), (3, .p 1 0), (57, .v (.slice A9 l8.length c10)), (58, .v (.int .i64 ((l8.length : Nat) : Int))), (59, .v (.int .i64 (IntKind.i64.wrap (((k : Nat) : Int) + 1))))]
                  have he271 : IntKind.i64.wrap (((k : Nat) : Int) + 1) = ((k + 1 : Nat) : Int) := wrap_succ (by omega)
                  rw [he271] at hE268
                  exact ⟨l8.length - (k + 1), by omega, k + 1, rfl, by omega, by rw [huu]; exact usuals_step he181 (by simpa using hc261), hE268.pk, hW269, (Fr.trans (Fr.trans (Fr.trans (Fr.trans (Fr.trans (Fr.trans hF168 hF207) hF213) hF217) hF250) hF257) hF270)⟩
              ·
                have hf272 := of_decide_eq_false hc171
                refine wp_exit ?_
                refine then_exit ?_
                refine then_exit ?_
                refine block_exit ?_
                refine then_normal ?_
                refine go_seq_region [0, 1, 2, 3, 4, 5, 6, 7] (by kernel_rfl) ?_
                refine go_rn [0, 1, 2, 3] [4, 5, 6, 7] [(72, .v (.slice A9 l8.length c10)), (74, .v (.slice A25 u20.length c26))] hW165 hE170 fun a273 hE274 => ?_
                clear hE170
                refine of_op (wpOp_call hE274 (f := 87) (vs := [.slice A9 l8.length c10, .slice A25 u20.length c26]) (d := 75) (by kernel_rfl) Tryz.call87 (sUnknown _ _ l8 _ _ u20 _ _ ⟨xs11, (h13.move hW165.step nilM hW165.imm), (fun i_ x_ h_ => ((h14 i_ x_ h_).move hW165.step nilM hW165.imm))⟩ (h32.move hW165.step nilM hW165.imm)) ?_)
                rintro e_ w279 ⟨A277, c278, rfl, hr276, hs275⟩
                have hr280 := hr276.move (Step.refl _ Nil) nilM (hW165.laid (G := F) hs275)
                refine ⟨_, rfl, fun a281 hE282 => ?_⟩
                have hW283 := hW165.next_nil hs275
                have hF284 := hW165.frN hs275
                clear hE274
                refine go_rn [5, 6, 7] [] [(4, .v (.bool ((((unknownT l8 u20).length : Nat) : Int) == 0)))] hW283 hE282 fun a285 hE286 => ?_
                clear hE282
                refine wpOps_nil ?_
                refine then_normal ?_
                refine wp_ret ?_
                refine block_ret ?_
                refine then_ret ?_
                refine leave hE286 hW283.cells (v := .bool ((((unknownT l8 u20).length : Nat) : Int) == 0)) (by kernel_rfl) ?_
                refine ⟨congrArg (fun b_ => Ending.returned (Value.bool b_)) ?_, hW283.step⟩
                first
                  | (rw [usual_0 (by assumption)]; simp only [and1]; done)
                  | (rw [usual_7 (by assumption) (by assumption)]; exact zero16_true hz (by omega); done)
                  | (rw [usual_7 (by assumption) (by assumption)]; exact zero16_false (k := k) (by omega) (by omega) (by assumption); done)
                  | (rw [usual_89n (by assumption) (by assumption) (by omega) (by assumption)]; done)
                  | (rw [usual_89 (by assumption) (by assumption) (by omega) (by assumption)]; done)
                  | (rw [usual_11 (by assumption) (by assumption) (by assumption) (by assumption) (by assumption)]; done)
                  | (rw [usual_10 (by assumption) (by assumption) (by assumption) (by assumption) (by assumption) (by assumption), huu, usuals_end (by omega), Bool.true_and]; done)
                  | (rw [usual_else (by assumption) (by assumption) (by assumption) (by assumption) (by assumption) (by assumption)]; done)
            ·
              have hf287 : k1 ≠ 10 := by simpa using hc157
              refine wp_skip ?_
              refine block_normal ?_
              refine then_normal ?_
              refine go_seq_drawK 13 (by kernel_rfl) hW50 fun w288 hF289 hW290 hT291 => ?_
              clear hW50
              refine go_rnD [0, 1, 2, 3, 6, 7, 8, 9] [(79, .v (.int .i64 n16)), (81, .v (.int .i64 k1)), (85, .v (.int .i64 y6)), (87, .v (.int .i64 k1))] 6 (panicFree_then panicFree_body) (fun _ h => h.cells) hT291 hE156 fun a292 hE293 => ?_
              clear hE156
              refine anyC_op (i := 4) (by kernel_rfl) (wpOp_call hE293 (f := 137) (vs := [.int .i64 k1]) (d := 82) (by kernel_rfl) Tryz.call137 (sWidth k1 _) ?_)
              rintro e_ w295 ⟨rfl, hs294⟩
              refine ⟨_, rfl, fun a296 hE297 => ?_⟩
              have hW298 := hW290.next_nil hs294
              have hF299 := hW290.frN hs294
              clear hE293
              have hT300 := TT.ofW hF299 hW298
              refine ⟨fun _ => hT300, ?_⟩
              refine anyC_op (i := 5) (by kernel_rfl) (wpOp_call hE297 (f := 136) (vs := [.int .i64 n16, .int .i64 ((widthI k1 : Nat) : Int)]) (d := 83) (by kernel_rfl) Tryz.call136 (sFixed n16 (widthI k1) (by first | decide | exact widthI_le _ | omega) _) ?_)
              rintro e_ w305 ⟨A303, c304, rfl, ho302, hs301⟩
              refine ⟨_, rfl, fun a306 hE307 => ?_⟩
              obtain ⟨hW308, hF309⟩ := hW298.frFresh hs301 (brow A303 c304 5 (be (widthI k1) n16)) (Nat.le_refl _) ho302
              clear hE297 hW298
              have hT310 := TT.ofW (Fr.trans hF299 hF309) hW308
              refine ⟨fun _ => hT310, ?_⟩
              refine anyC_op (i := 10) (by kernel_rfl) (wpOp_call hE307 (f := 137) (vs := [.int .i64 k1]) (d := 88) (by kernel_rfl) Tryz.call137 (sWidth k1 _) ?_)
              rintro e_ w312 ⟨rfl, hs311⟩
              refine ⟨_, rfl, fun a313 hE314 => ?_⟩
              have hW315 := hW308.next_nil hs311
              have hF316 := hW308.frN hs311
              clear hE307 hW308
              have hT317 := TT.ofW (Fr.trans (Fr.trans hF299 hF309) hF316) hW315
              refine ⟨fun _ => hT317, ?_⟩
              refine anyC_op (i := 11) (by kernel_rfl) (wpOp_call hE314 (f := 136) (vs := [.int .i64 y6, .int .i64 ((widthI k1 : Nat) : Int)]) (d := 89) (by kernel_rfl) Tryz.call136 (sFixed y6 (widthI k1) (by first | decide | exact widthI_le _ | omega) _) ?_)
              rintro e_ w322 ⟨A320, c321, rfl, ho319, hs318⟩
              refine ⟨_, rfl, fun a323 hE324 => ?_⟩
              obtain ⟨hW325, hF326⟩ := hW315.frFresh hs318 (brow A320 c321 5 (be (widthI k1) y6)) (Nat.le_refl _) ho319
              clear hE314 hW315
              have hT327 := TT.ofW (Fr.trans (Fr.trans (Fr.trans hF299 hF309) hF316) hF326) hW325
              refine ⟨fun _ => hT327, ?_⟩
              refine anyC_op (i := 12) (by kernel_rfl) (wpOp_call hE324 (f := 16) (vs := [.slice A303 ((be (widthI k1) n16).length) c304, .slice A320 ((be (widthI k1) y6).length) c321]) (d := 90) (by kernel_rfl) Tryz.call16 (sSame _ _ _ _ (be (widthI k1) n16) (be (widthI k1) y6) _ _ (octs_own (hW325.own 0 _ rfl) (by first | omega | (simp only [be_length]; exact Nat.le_trans (widthI_le _) (by decide)) | (have := hroom; omega) | (have := hmade; omega) | (simp only [List.length_append, List.length_nil]; omega)) (F := fun _ _ => True) (fun _ _ _ => trivial)) (octs_own (hW325.own 1 _ rfl) (by first | omega | (simp only [be_length]; exact Nat.le_trans (widthI_le _) (by decide)) | (have := hroom; omega) | (have := hmade; omega) | (simp only [List.length_append, List.length_nil]; omega)) (F := fun _ _ => True) (fun _ _ _ => trivial))) ?_)
              rintro e_ w329 ⟨rfl, hs328⟩
              refine ⟨_, rfl, fun a330 hE331 => ?_⟩
              have hW332 := hW325.next_nil hs328
              have hF333 := hW325.frN hs328
              clear hE324 hW325
              have hT334 := TT.ofW (Fr.trans (Fr.trans (Fr.trans (Fr.trans hF299 hF309) hF316) hF326) hF333) hW332
              refine ⟨fun _ => hT334, ?_⟩
              refine anyC_op (i := 13) (by kernel_rfl) (wpOp_pure [4] hW332.cells hE331 (env' := [(4, .v (.bool (decide (be (widthI k1) n16 = be (widthI k1) y6))))]) (by kernel_rfl) fun a335 hE336 => ?_)
              clear hE331
              refine ⟨fun h => absurd rfl h, ?_⟩
              refine anyC_done (by kernel_rfl) ?_ _
              refine then_normal ?_
              refine wp_ret ?_
              refine leave hE336 hW332.cells (v := .bool (decide (be (widthI k1) n16 = be (widthI k1) y6))) (by kernel_rfl) ?_
              refine ⟨congrArg (fun b_ => Ending.returned (Value.bool b_)) ?_, hW332.step⟩
              first
                | (rw [usual_0 (by assumption)]; simp only [and1]; done)
                | (rw [usual_7 (by assumption) (by assumption)]; exact zero16_true hz (by omega); done)
                | (rw [usual_7 (by assumption) (by assumption)]; exact zero16_false (k := k) (by omega) (by omega) (by assumption); done)
                | (rw [usual_89n (by assumption) (by assumption) (by omega) (by assumption)]; done)
                | (rw [usual_89 (by assumption) (by assumption) (by omega) (by assumption)]; done)
                | (rw [usual_11 (by assumption) (by assumption) (by assumption) (by assumption) (by assumption)]; done)
                | (rw [usual_10 (by assumption) (by assumption) (by assumption) (by assumption) (by assumption) (by assumption), huu, usuals_end (by omega), Bool.true_and]; done)
                | (rw [usual_else (by assumption) (by assumption) (by assumption) (by assumption) (by assumption) (by assumption)]; done)

theorem sUsual : ∀ d, UsualOK d
  | 0 => fun cf f ct t w F hf hd ht => by
    obtain ⟨k, x1, x2, x3, x4, x5, x6, l, A, c, xs, rfl, _⟩ := hf.open_
    rw [depth_mk] at hd; omega
  | d + 1 => sUsual_step (sUsual d)

end Go.Proofs.YtnhgfbgdoelfoaaGreatDoor.ME
