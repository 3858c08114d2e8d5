/- Contracts: printed by tools/sp.py. Own work. -/
import Derived.Test.YtbjopfcbpobnpaaPx
import Derived.Test.YtbjopfcbpobnpaaProg
namespace Go.Proofs.Ytbjopfcbpobnpaa.ME
open Go
set_option linter.unusedVariables false
set_option linter.unusedSimpArgs false
set_option maxRecDepth 20000

theorem sHas (k x1 x2 x3 x4 x5 x6 : Int) (fs : List Fld) (AF : Option Addr) (cF : Nat) (v : Int) (w : World) :
    Calls Try.prog 106 #[.agg #[.int .i64 k, .int .i64 x1, .int .i64 x2, .int .i64 x3, .int .i64 x4, .int .i64 x5, .int .i64 x6, .slice AF fs.length cF], .int .i64 v] w (Gives w (.bool (Fld.has (Fld.mk k x1 x2 x3 x4 x5 x6 fs) v))) := by
  refine enter (n := 20) Try.func106 rfl Try.ntmps106 (by kernel_rfl) fun a hE => ?_
  have hW := WOk.start w Nil
  refine go_seq_region [0, 1] (by kernel_rfl) ?_
  refine of_op (wpOp_box hW hE (d := 2) (cs := [.int .i64 k, .int .i64 x1, .int .i64 x2, .int .i64 x3, .int .i64 x4, .int .i64 x5, .int .i64 x6, .slice AF fs.length cF]) (by kernel_rfl) fun b1 a2 w3 hb4 hz5 hF6 hW7 hE8 => ?_)
  clear hE hW
  refine go_runs [1] [] [1, 2] hW7 hE8 (env' := [(1, .v (.int .i64 v)), (2, .p 0 0)]) (by kernel_rfl) rfl fun a9 hE10 => ?_
  clear hE8
  refine wpOps_nil ?_
  refine then_normal ?_
  refine go_seq_region [0, 1, 2, 3, 4, 5, 6, 7, 8, 9, 10, 11, 12, 13, 14, 15] (by kernel_rfl) ?_
  refine go_runs [0, 1, 2, 3, 4] [5, 6, 7, 8, 9, 10, 11, 12, 13, 14, 15] [1, 2, 9] hW7 hE10 (env' := [(1, .v (.int .i64 v)), (2, .p 0 0), (9, .v (.bool (decide (x1 ≤ v))))]) (by kernel_rfl) rfl fun a11 hE12 => ?_
  clear hE10
  refine (Bool.eq_false_or_eq_true (decide (x1 ≤ v))).elim (fun hc13 => ?_) (fun hc13 => ?_)
  ·
    have hf14 := of_decide_eq_true hc13
    have hE15 := hE12.cast (env' := [(1, .v (.int .i64 v)), (2, .p 0 0), (9, .v (.bool true))]) (by rw [hc13])
    clear hE12
    refine go_runs [5, 6, 7, 8] [9, 10, 11, 12, 13, 14, 15] [1, 2, 9, 13] hW7 hE15 (env' := [(1, .v (.int .i64 v)), (2, .p 0 0), (9, .v (.bool true)), (13, .v (.bool (decide (x2 < 0))))]) (by kernel_rfl) rfl fun a16 hE17 => ?_
    clear hE15
    refine (Bool.eq_false_or_eq_true (decide (x2 < 0))).elim (fun hc18 => ?_) (fun hc18 => ?_)
    ·
      have hf19 := of_decide_eq_true hc18
      have hE20 := hE17.cast (env' := [(1, .v (.int .i64 v)), (2, .p 0 0), (9, .v (.bool true)), (13, .v (.bool true))]) (by rw [hc18])
      clear hE17
      refine go_runs [9, 10, 11, 12, 13, 14, 15] [] [4] hW7 hE20 (env' := [(4, .v (.bool true))]) (by kernel_rfl) rfl fun a21 hE22 => ?_
      clear hE20
      refine wpOps_nil ?_
      refine then_normal ?_
      refine wp_ret ?_
      refine leave hE22 hW7.cells (v := .bool true) (by kernel_rfl) ?_
      exact ⟨by simp only [Fld.has, hc13, hc18, Bool.true_and, Bool.and_true, Bool.false_and, Bool.and_false, Bool.true_or, Bool.false_or, Bool.or_true, Bool.or_false], hW7.step⟩
    ·
      have hf23 := of_decide_eq_false hc18
      have hE24 := hE17.cast (env' := [(1, .v (.int .i64 v)), (2, .p 0 0), (9, .v (.bool true)), (13, .v (.bool false))]) (by rw [hc18])
      clear hE17
      refine go_runs [9, 10, 11, 12, 13, 14, 15] [] [4] hW7 hE24 (env' := [(4, .v (.bool (decide (v ≤ x2))))]) (by kernel_rfl) rfl fun a25 hE26 => ?_
      clear hE24
      refine wpOps_nil ?_
      refine then_normal ?_
      refine wp_ret ?_
      refine leave hE26 hW7.cells (v := .bool (decide (v ≤ x2))) (by kernel_rfl) ?_
      exact ⟨by simp only [Fld.has, hc13, hc18, Bool.true_and, Bool.and_true, Bool.false_and, Bool.and_false, Bool.true_or, Bool.false_or, Bool.or_true, Bool.or_false], hW7.step⟩
  ·
    have hf27 := of_decide_eq_false hc13
    have hE28 := hE12.cast (env' := [(1, .v (.int .i64 v)), (2, .p 0 0), (9, .v (.bool false))]) (by rw [hc13])
    clear hE12
    refine go_runs [5, 6, 7, 8, 9, 10, 11, 12, 13, 14, 15] [] [4] hW7 hE28 (env' := [(4, .v (.bool false))]) (by kernel_rfl) rfl fun a29 hE30 => ?_
    clear hE28
    refine wpOps_nil ?_
    refine then_normal ?_
    refine wp_ret ?_
    refine leave hE30 hW7.cells (v := .bool false) (by kernel_rfl) ?_
    exact ⟨by simp only [Fld.has, hc13, Bool.true_and, Bool.and_true, Bool.false_and, Bool.and_false, Bool.true_or, Bool.false_or, Bool.or_true, Bool.or_false], hW7.step⟩

theorem sNull (k x1 x2 x3 x4 x5 x6 : Int) (fs : List Fld) (AF : Option Addr) (cF : Nat) (v : Int) (n : Int) (s : Bs) (b : Bool) (l : List Tree) (u : List (Int × Bs)) (A1 : Option Addr) (c1 : Nat) (A2 : Option Addr) (c2 : Nat) (A3 : Option Addr) (c3 : Nat) (w : World) :
    Calls Try.prog 103 #[.agg #[.int .i64 k, .int .i64 x1, .int .i64 x2, .int .i64 x3, .int .i64 x4, .int .i64 x5, .int .i64 x6, .slice AF fs.length cF], .int .i64 v, .agg #[.int .i64 n, .slice A1 s.length c1, .bool b, .slice A2 l.length c2, .slice A3 u.length c3]] w (Gives w (.bool (Fld.nul (Fld.mk k x1 x2 x3 x4 x5 x6 fs) v (Tree.mk n s b l u)))) := by
  refine enter (n := 20) Try.func103 rfl Try.ntmps103 (by kernel_rfl) fun a hE => ?_
  have hW := WOk.start w Nil
  refine go_seq_region [0, 1, 2] (by kernel_rfl) ?_
  refine of_op (wpOp_box hW hE (d := 3) (cs := [.int .i64 k, .int .i64 x1, .int .i64 x2, .int .i64 x3, .int .i64 x4, .int .i64 x5, .int .i64 x6, .slice AF fs.length cF]) (by kernel_rfl) fun b31 a32 w33 hb34 hz35 hF36 hW37 hE38 => ?_)
  clear hE hW
  refine of_op (wpOp_box hW37 hE38 (d := 5) (cs := [.int .i64 n, .slice A1 s.length c1, .bool b, .slice A2 l.length c2, .slice A3 u.length c3]) (by kernel_rfl) fun b39 a40 w41 hb42 hz43 hF44 hW45 hE46 => ?_)
  clear hE38 hW37
  refine go_runs [2] [] [1, 3, 5] hW45 hE46 (env' := [(1, .v (.int .i64 v)), (3, .p 0 0), (5, .p 1 0)]) (by kernel_rfl) rfl fun a47 hE48 => ?_
  clear hE46
  refine wpOps_nil ?_
  refine then_normal ?_
  refine go_seq_region [0, 1, 2, 3, 4, 5, 6, 7, 8, 9, 10, 11, 12, 13] (by kernel_rfl) ?_
  refine go_runs [0, 1, 2] [3, 4, 5, 6, 7, 8, 9, 10, 11, 12, 13] [1, 3, 9] hW45 hE48 (env' := [(1, .v (.int .i64 v)), (3, .p 0 0), (9, .v (.bool b))]) (by kernel_rfl) rfl fun a49 hE50 => ?_
  clear hE48
  refine (Bool.eq_false_or_eq_true (b)).elim (fun hc51 => ?_) (fun hc51 => ?_)
  ·
    have hE53 := hE50.cast (env' := [(1, .v (.int .i64 v)), (3, .p 0 0), (9, .v (.bool true))]) (by rw [hc51])
    clear hE50
    refine go_runs [3, 4, 5, 6, 7] [8, 9, 10, 11, 12, 13] [1, 3, 14] hW45 hE53 (env' := [(1, .v (.int .i64 v)), (3, .p 0 0), (14, .v (.bool (decide (x3 ≥ 0))))]) (by kernel_rfl) rfl fun a54 hE55 => ?_
    clear hE53
    refine (Bool.eq_false_or_eq_true (decide (x3 ≥ 0))).elim (fun hc56 => ?_) (fun hc56 => ?_)
    ·
      have hf57 := of_decide_eq_true hc56
      have hE58 := hE55.cast (env' := [(1, .v (.int .i64 v)), (3, .p 0 0), (14, .v (.bool true))]) (by rw [hc56])
      clear hE55
      refine go_runs [8, 9, 10, 11, 12, 13] [] [6] hW45 hE58 (env' := [(6, .v (.bool (decide (v ≥ x3))))]) (by kernel_rfl) rfl fun a59 hE60 => ?_
      clear hE58
      refine wpOps_nil ?_
      refine then_normal ?_
      refine wp_ret ?_
      refine leave hE60 hW45.cells (v := .bool (decide (v ≥ x3))) (by kernel_rfl) ?_
      exact ⟨by simp only [Fld.nul, hc51, hc56, Bool.true_and, Bool.and_true, Bool.false_and, Bool.and_false, Bool.true_or, Bool.false_or, Bool.or_true, Bool.or_false], hW45.step⟩
    ·
      have hf61 := of_decide_eq_false hc56
      have hE62 := hE55.cast (env' := [(1, .v (.int .i64 v)), (3, .p 0 0), (14, .v (.bool false))]) (by rw [hc56])
      clear hE55
      refine go_runs [8, 9, 10, 11, 12, 13] [] [6] hW45 hE62 (env' := [(6, .v (.bool false))]) (by kernel_rfl) rfl fun a63 hE64 => ?_
      clear hE62
      refine wpOps_nil ?_
      refine then_normal ?_
      refine wp_ret ?_
      refine leave hE64 hW45.cells (v := .bool false) (by kernel_rfl) ?_
      exact ⟨by simp only [Fld.nul, hc51, hc56, Bool.true_and, Bool.and_true, Bool.false_and, Bool.and_false, Bool.true_or, Bool.false_or, Bool.or_true, Bool.or_false], hW45.step⟩
  ·
    have hE66 := hE50.cast (env' := [(1, .v (.int .i64 v)), (3, .p 0 0), (9, .v (.bool false))]) (by rw [hc51])
    clear hE50
    refine go_runs [3, 4, 5, 6, 7, 8, 9, 10, 11, 12, 13] [] [6] hW45 hE66 (env' := [(6, .v (.bool false))]) (by kernel_rfl) rfl fun a67 hE68 => ?_
    clear hE66
    refine wpOps_nil ?_
    refine then_normal ?_
    refine wp_ret ?_
    refine leave hE68 hW45.cells (v := .bool false) (by kernel_rfl) ?_
    exact ⟨by simp only [Fld.nul, hc51, Bool.true_and, Bool.and_true, Bool.false_and, Bool.and_false, Bool.true_or, Bool.false_or, Bool.or_true, Bool.or_false], hW45.step⟩

theorem sWidth (k : Int) (w : World) : Calls Try.prog 147 #[.int .i64 k] w (Gives w (.int .i64 ((widthI k : Nat) : Int))) := by
  refine enter (n := 11) Try.func147 rfl Try.ntmps147 (by kernel_rfl) fun a hE => ?_
  have hW := WOk.start w Nil
  refine go_seq_region [0] (by kernel_rfl) ?_
  refine go_runs [0] [] [0] hW hE (env' := [(0, .v (.int .i64 k))]) (by kernel_rfl) rfl fun a69 hE70 => ?_
  clear hE
  refine wpOps_nil ?_
  refine then_normal ?_
  refine wp_seq ?_
  refine go_seq_region [0] (by kernel_rfl) ?_
  refine go_runs [0] [] [3] hW hE70 (env' := [(3, .v (.int .i64 k))]) (by kernel_rfl) rfl fun a71 hE72 => ?_
  clear hE70
  refine wpOps_nil ?_
  refine then_normal ?_
  refine wp_block ?_
  refine go_seq_region [0, 1] (by kernel_rfl) ?_
  refine go_runs [0, 1] [] [3, 4] hW hE72 (env' := [(3, .v (.int .i64 k)), (4, .v (.bool (k == 1)))]) (by kernel_rfl) rfl fun a73 hE74 => ?_
  clear hE72
  refine wpOps_nil ?_
  refine then_normal ?_
  refine cond_of hE74 (b := k == 1) (by kernel_rfl) (fun hc75 => ?_) (fun hc75 => ?_)
  ·
    have hf76 : k = 1 := by simpa using hc75
    refine go_seq_region [0] (by kernel_rfl) ?_
    refine go_runs [0] [] [2] hW hE74 (env' := [(2, .v (.int .i64 1))]) (by kernel_rfl) rfl fun a77 hE78 => ?_
    clear hE74
    refine wpOps_nil ?_
    refine then_normal ?_
    refine wp_ret ?_
    refine block_ret ?_
    refine then_ret ?_
    refine leave hE78 hW.cells (v := .int .i64 1) (by kernel_rfl) ?_
    exact ⟨by simp_all [widthI], hW.step⟩
  ·
    have hf79 : k ≠ 1 := by simpa using hc75
    refine wp_seq ?_
    refine go_seq_region [0, 1] (by kernel_rfl) ?_
    refine go_runs [0, 1] [] [3, 6] hW hE74 (env' := [(3, .v (.int .i64 k)), (6, .v (.bool (k == 2)))]) (by kernel_rfl) rfl fun a80 hE81 => ?_
    clear hE74
    refine wpOps_nil ?_
    refine then_normal ?_
    refine cond_of hE81 (b := k == 2) (by kernel_rfl) (fun hc82 => ?_) (fun hc82 => ?_)
    ·
      have hf83 : k = 2 := by simpa using hc82
      refine wp_skip ?_
      refine then_normal ?_
      refine cond_true hE81 (b := k == 2) (by kernel_rfl) (hc82) ?_
      refine go_seq_region [0] (by kernel_rfl) ?_
      refine go_runs [0] [] [2] hW hE81 (env' := [(2, .v (.int .i64 2))]) (by kernel_rfl) rfl fun a84 hE85 => ?_
      clear hE81
      refine wpOps_nil ?_
      refine then_normal ?_
      refine wp_ret ?_
      refine block_ret ?_
      refine then_ret ?_
      refine leave hE85 hW.cells (v := .int .i64 2) (by kernel_rfl) ?_
      exact ⟨by simp_all [widthI], hW.step⟩
    ·
      have hf86 : k ≠ 2 := by simpa using hc82
      refine go_region [0, 1] (by kernel_rfl) ?_
      refine go_runs [0, 1] [] [3, 6] hW hE81 (env' := [(3, .v (.int .i64 k)), (6, .v (.bool (k == 5)))]) (by kernel_rfl) rfl fun a87 hE88 => ?_
      clear hE81
      refine wpOps_nil ?_
      refine then_normal ?_
      refine cond_of hE88 (b := k == 5) (by kernel_rfl) (fun hc89 => ?_) (fun hc89 => ?_)
      ·
        have hf90 : k = 5 := by simpa using hc89
        refine go_seq_region [0] (by kernel_rfl) ?_
        refine go_runs [0] [] [2] hW hE88 (env' := [(2, .v (.int .i64 2))]) (by kernel_rfl) rfl fun a91 hE92 => ?_
        clear hE88
        refine wpOps_nil ?_
        refine then_normal ?_
        refine wp_ret ?_
        refine block_ret ?_
        refine then_ret ?_
        refine leave hE92 hW.cells (v := .int .i64 2) (by kernel_rfl) ?_
        exact ⟨by simp_all [widthI], hW.step⟩
      ·
        have hf93 : k ≠ 5 := by simpa using hc89
        refine go_seq_region [0, 1] (by kernel_rfl) ?_
        refine go_runs [0, 1] [] [9] hW hE88 (env' := [(9, .v (.bool (k == 3)))]) (by kernel_rfl) rfl fun a94 hE95 => ?_
        clear hE88
        refine wpOps_nil ?_
        refine then_normal ?_
        refine cond_of hE95 (b := k == 3) (by kernel_rfl) (fun hc96 => ?_) (fun hc96 => ?_)
        ·
          have hf97 : k = 3 := by simpa using hc96
          refine go_seq_region [0] (by kernel_rfl) ?_
          refine go_runs [0] [] [2] hW hE95 (env' := [(2, .v (.int .i64 4))]) (by kernel_rfl) rfl fun a98 hE99 => ?_
          clear hE95
          refine wpOps_nil ?_
          refine then_normal ?_
          refine wp_ret ?_
          refine block_ret ?_
          refine then_ret ?_
          refine leave hE99 hW.cells (v := .int .i64 4) (by kernel_rfl) ?_
          exact ⟨by simp_all [widthI], hW.step⟩
        ·
          have hf100 : k ≠ 3 := by simpa using hc96
          refine wp_skip ?_
          refine block_normal ?_
          refine then_normal ?_
          refine go_seq_region [0] (by kernel_rfl) ?_
          refine go_runs [0] [] [2] hW hE95 (env' := [(2, .v (.int .i64 8))]) (by kernel_rfl) rfl fun a101 hE102 => ?_
          clear hE95
          refine wpOps_nil ?_
          refine then_normal ?_
          refine wp_ret ?_
          refine leave hE102 hW.cells (v := .int .i64 8) (by kernel_rfl) ?_
          exact ⟨by simp_all [widthI], hW.step⟩

theorem sWhole (A : Option Addr) (c : Nat) (s : Bs) (hc : s.length ≤ c) (w : World) :
    Calls Try.prog 50 #[.slice A s.length c] w (Gives w (.slice A (whole s).length c)) := by
  refine enter (n := 8) Try.func50 rfl Try.ntmps50 (by kernel_rfl) fun a hE => ?_
  have hW := WOk.start w Nil
  refine go_seq_region [0] (by kernel_rfl) ?_
  refine go_runs [0] [] [0] hW hE (env' := [(0, .v (.slice A s.length c))]) (by kernel_rfl) rfl fun a103 hE104 => ?_
  clear hE
  refine wpOps_nil ?_
  refine then_normal ?_
  refine go_seq_region [0, 1, 2, 3, 4, 5] (by kernel_rfl) ?_
  refine go_runs [0, 1, 2, 3] [4, 5] [3, 6] hW hE104 (env' := [(3, .v (.slice A s.length c)), (6, .v (.int .i64 (if 32767 < ((s.length : Nat) : Int) then 32767 else ((s.length : Nat) : Int))))]) (by kernel_rfl) rfl fun a105 hE106 => ?_
  clear hE104
  refine of_op (wpOp_cut_hi hE106 (t := 22) (A := A) (m := s.length) (cp := c) (q := (if 32767 < ((s.length : Nat) : Int) then 32767 else ((s.length : Nat) : Int))) (d := 7) (j := (whole s).length) (by kernel_rfl) (e := 5) (size := 1) (bytes := 1) (by kernel_rfl) (by simpa [whole] using min_lit s.length) (by simp only [whole, List.length_take]; omega) fun a107 hE108 => ?_)
  clear hE106
  refine go_runs [5] [] [2] hW hE108 (env' := [(2, .v (.slice A ((whole s).length) c))]) (by kernel_rfl) rfl fun a109 hE110 => ?_
  clear hE108
  refine wpOps_nil ?_
  refine then_normal ?_
  refine wp_ret ?_
  refine leave hE110 hW.cells (v := .slice A ((whole s).length) c) (by kernel_rfl) ?_
  exact ⟨rfl, hW.step⟩

theorem sThings (A : Option Addr) (c : Nat) (s : List Tree) (hc : s.length ≤ c) (w : World) :
    Calls Try.prog 104 #[.slice A s.length c] w (Gives w (.slice A (things s).length c)) := by
  refine enter (n := 8) Try.func104 rfl Try.ntmps104 (by kernel_rfl) fun a hE => ?_
  have hW := WOk.start w Nil
  refine go_seq_region [0] (by kernel_rfl) ?_
  refine go_runs [0] [] [0] hW hE (env' := [(0, .v (.slice A s.length c))]) (by kernel_rfl) rfl fun a111 hE112 => ?_
  clear hE
  refine wpOps_nil ?_
  refine then_normal ?_
  refine go_seq_region [0, 1, 2, 3, 4, 5] (by kernel_rfl) ?_
  refine go_runs [0, 1, 2, 3] [4, 5] [3, 6] hW hE112 (env' := [(3, .v (.slice A s.length c)), (6, .v (.int .i64 (if 32767 < ((s.length : Nat) : Int) then 32767 else ((s.length : Nat) : Int))))]) (by kernel_rfl) rfl fun a113 hE114 => ?_
  clear hE112
  refine of_op (wpOp_cut_hi hE114 (t := 23) (A := A) (m := s.length) (cp := c) (q := (if 32767 < ((s.length : Nat) : Int) then 32767 else ((s.length : Nat) : Int))) (d := 7) (j := (things s).length) (by kernel_rfl) (e := 26) (size := 5) (bytes := 88) (by kernel_rfl) (by simpa [things] using min_lit s.length) (by simp only [things, List.length_take]; omega) fun a115 hE116 => ?_)
  clear hE114
  refine go_runs [5] [] [2] hW hE116 (env' := [(2, .v (.slice A ((things s).length) c))]) (by kernel_rfl) rfl fun a117 hE118 => ?_
  clear hE116
  refine wpOps_nil ?_
  refine then_normal ?_
  refine wp_ret ?_
  refine leave hE118 hW.cells (v := .slice A ((things s).length) c) (by kernel_rfl) ?_
  exact ⟨rfl, hW.step⟩

theorem sSame (A A' : Option Addr) (c c' : Nat) (s t : Bs) (w : World) (F : Nat → Nat → Prop) (hs : Octs w F A c s) (ht : Octs w F A' c' t) :
    Calls Try.prog 15 #[.slice A s.length c, .slice A' t.length c'] w (Gives w (.bool (decide (s = t)))) := by
  refine enter (n := 26) Try.func15 rfl Try.ntmps15 (by kernel_rfl) fun a hE => ?_
  have hW := WOk.start w Nil
  have hl := Slots.small hs
  refine go_seq_region [0] (by kernel_rfl) ?_
  refine go_runs [0] [] [0, 1] hW hE (env' := [(0, .v (.slice A s.length c)), (1, .v (.slice A' t.length c'))]) (by kernel_rfl) rfl fun a119 hE120 => ?_
  clear hE
  refine wpOps_nil ?_
  refine then_normal ?_
  refine wp_seq ?_
  refine go_seq_region [0, 1, 2, 3, 4] (by kernel_rfl) ?_
  refine go_runs [0, 1, 2, 3, 4] [] [0, 1, 10] hW hE120 (env' := [(0, .v (.slice A s.length c)), (1, .v (.slice A' t.length c')), (10, .v (.bool (((s.length : Nat) : Int) != ((t.length : Nat) : Int))))]) (by kernel_rfl) rfl fun a121 hE122 => ?_
  clear hE120
  refine wpOps_nil ?_
  refine then_normal ?_
  refine cond_of hE122 (b := ((s.length : Nat) : Int) != ((t.length : Nat) : Int)) (by kernel_rfl) (fun hc123 => ?_) (fun hc123 => ?_)
  ·
    have hf124 : ((s.length : Nat) : Int) ≠ ((t.length : Nat) : Int) := by simpa using hc123
    refine go_seq_region [0] (by kernel_rfl) ?_
    refine go_runs [0] [] [4] hW hE122 (env' := [(4, .v (.bool false))]) (by kernel_rfl) rfl fun a125 hE126 => ?_
    clear hE122
    refine wpOps_nil ?_
    refine then_normal ?_
    refine wp_ret ?_
    refine then_ret ?_
    refine leave hE126 hW.cells (v := .bool false) (by kernel_rfl) ?_
    exact ⟨by first | rw [← same_end hq (by omega) hlen] | rw [← same_el (by assumption)] | rw [← same_len (by assumption)], hW.step⟩
  ·
    have hf127 : ((s.length : Nat) : Int) = ((t.length : Nat) : Int) := by simpa using hc123
    refine wp_skip ?_
    refine then_normal ?_
    refine wp_seq ?_
    refine go_seq_region [0, 1, 2] (by kernel_rfl) ?_
    refine go_runs [0, 1, 2] [] [0, 1, 12, 13] hW hE122 (env' := [(0, .v (.slice A s.length c)), (1, .v (.slice A' t.length c')), (12, .v (.int .i64 ((s.length : Nat) : Int))), (13, .v (.int .i64 0))]) (by kernel_rfl) rfl fun a128 hE129 => ?_
    clear hE122
    refine wpOps_nil ?_
    refine then_normal ?_
    refine wp_block ?_
    have hlen : s.length = t.length := by omega
    have hE138 := EnvOk.pick hE129 (ks := [0, 1, 12, 13]) (env' := [(0, .v (.slice A s.length c)), (1, .v (.slice A' t.length c')), (12, .v (.int .i64 ((s.length : Nat) : Int))), (13, .v (.int .i64 0))]) (by kernel_rfl)
    refine wp_loop_ghost (fun n_ a_ w_ => ∃ (k : Nat), n_ = s.length - k ∧ k ≤ s.length ∧ (s.take k = t.take k) ∧ EnvOk 26 [] [(0, .v (.slice A s.length c)), (1, .v (.slice A' t.length c')), (12, .v (.int .i64 ((s.length : Nat) : Int))), (13, .v (.int .i64 ((k : Nat) : Int)))] a_ ∧ WOk w Nil w_ [] [] ∧ Fr w [] [] w_ [] []) (s.length) ⟨0, by omega, by omega, rfl, hE138, hW, Fr.refl _ _ _⟩ ?_
    clear hE138 hE129 hW
    rintro n130 a131 w132 ⟨k, hn135, hk136, hq, hE133, hW134, hF137⟩
    refine go_seq_region [0] (by kernel_rfl) ?_
    refine go_runs [0] [] [0, 1, 12, 13, 14] hW134 hE133 (env' := [(0, .v (.slice A s.length c)), (1, .v (.slice A' t.length c')), (12, .v (.int .i64 ((s.length : Nat) : Int))), (13, .v (.int .i64 ((k : Nat) : Int))), (14, .v (.bool (decide (((k : Nat) : Int) < ((s.length : Nat) : Int)))))]) (by kernel_rfl) rfl fun a139 hE140 => ?_
    clear hE133
    refine wpOps_nil ?_
    refine then_normal ?_
    refine wp_seq ?_
    refine cond_of hE140 (b := decide (((k : Nat) : Int) < ((s.length : Nat) : Int))) (by kernel_rfl) (fun hc141 => ?_) (fun hc141 => ?_)
    ·
      have hf142 := of_decide_eq_true hc141
      refine wp_skip ?_
      refine then_normal ?_
      refine wp_seq ?_
      refine wp_block ?_
      refine go_seq_region [0, 1] (by kernel_rfl) ?_
      refine go_runs [0, 1] [] [0, 1, 5, 12, 13] hW134 hE140 (env' := [(0, .v (.slice A s.length c)), (1, .v (.slice A' t.length c')), (5, .v (.int .i64 ((k : Nat) : Int))), (12, .v (.int .i64 ((s.length : Nat) : Int))), (13, .v (.int .i64 ((k : Nat) : Int)))]) (by kernel_rfl) rfl fun a143 hE144 => ?_
      clear hE140
      refine wpOps_nil ?_
      refine then_normal ?_
      refine go_seq_drawQ (by kernel_rfl) hW134 fun w145 hF146 hW147 => ?_
      clear hW134
      refine go_runsD [0, 1, 4, 5] [0, 1, 12, 13, 16, 17, 20, 21] 5 (by kernel_rfl) (panicFree_then (panicFree_block (panicFree_then (panicFree_then (panicFree_block (panicFree_then panicFree_body)))))) (fun _ h => h ▸ hW147.cells) rfl hE144 (by kernel_rfl) (env' := [(0, .v (.slice A s.length c)), (1, .v (.slice A' t.length c')), (12, .v (.int .i64 ((s.length : Nat) : Int))), (13, .v (.int .i64 ((k : Nat) : Int))), (16, .v (.slice A s.length c)), (17, .v (.int .i64 ((k : Nat) : Int))), (20, .v (.slice A' t.length c')), (21, .v (.int .i64 ((k : Nat) : Int)))]) (by kernel_rfl) rfl fun a148 hE149 => ?_
      clear hE144
      obtain ⟨b150, o151, hA152, hl153, hat154⟩ := Slots.get hs (i := k) (by omega)
      refine takeC_index hE149 (i := 2) (t := 22) (A := A) (m := s.length) (q := ((k : Nat) : Int)) (d := 18) (by kernel_rfl) (e := 5) (size := 1) (bytes := 1) (by kernel_rfl) hA152 rfl (by omega) (by kernel_rfl) (by kernel_rfl) (panicFree_then (panicFree_block (panicFree_then (panicFree_then (panicFree_block (panicFree_then panicFree_body)))))) rfl fun a155 hE156 => ?_
      clear hE149
      refine takeC_load hE156 (i := 3) (t := 5) (b := b150) (o := o151 + k * 1) (d := 19) (by kernel_rfl) (cs := [.int .u8 ((s.getD k 0).toNat : Int)]) (v := .int .u8 ((s.getD k 0).toNat : Int)) (by kernel_rfl) (fun w' h' => h' ▸ (AtF.move hat154 hW147.step nilM keepF).at_) (by kernel_rfl) (by kernel_rfl) (panicFree_then (panicFree_block (panicFree_then (panicFree_then (panicFree_block (panicFree_then panicFree_body)))))) rfl fun a157 hE158 => ?_
      clear hE156
      obtain ⟨b159, o160, hA161, hl162, hat163⟩ := Slots.get ht (i := k) (by omega)
      refine takeC_index hE158 (i := 6) (t := 22) (A := A') (m := t.length) (q := ((k : Nat) : Int)) (d := 22) (by kernel_rfl) (e := 5) (size := 1) (bytes := 1) (by kernel_rfl) hA161 rfl (by omega) (by kernel_rfl) (by kernel_rfl) (panicFree_then (panicFree_block (panicFree_then (panicFree_then (panicFree_block (panicFree_then panicFree_body)))))) rfl fun a164 hE165 => ?_
      clear hE158
      refine takeC_load hE165 (i := 7) (t := 5) (b := b159) (o := o160 + k * 1) (d := 23) (by kernel_rfl) (cs := [.int .u8 ((t.getD k 0).toNat : Int)]) (v := .int .u8 ((t.getD k 0).toNat : Int)) (by kernel_rfl) (fun w' h' => h' ▸ (AtF.move hat163 hW147.step nilM keepF).at_) (by kernel_rfl) (by kernel_rfl) (panicFree_then (panicFree_block (panicFree_then (panicFree_then (panicFree_block (panicFree_then panicFree_body)))))) rfl fun a166 hE167 => ?_
      clear hE165
      refine go_runsD [8] [0, 1, 12, 13, 24] 0 (by kernel_rfl) (panicFree_then (panicFree_block (panicFree_then (panicFree_then (panicFree_block (panicFree_then panicFree_body)))))) (fun _ h => h ▸ hW147.cells) rfl hE167 (by kernel_rfl) (env' := [(0, .v (.slice A s.length c)), (1, .v (.slice A' t.length c')), (12, .v (.int .i64 ((s.length : Nat) : Int))), (13, .v (.int .i64 ((k : Nat) : Int))), (24, .v (.bool (((s.getD k 0).toNat : Int) != ((t.getD k 0).toNat : Int))))]) (by kernel_rfl) rfl fun a168 hE169 => ?_
      clear hE167
      refine anyC_done (by kernel_rfl) ?_ _
      refine then_normal ?_
      refine cond_of hE169 (b := ((s.getD k 0).toNat : Int) != ((t.getD k 0).toNat : Int)) (by kernel_rfl) (fun hc170 => ?_) (fun hc170 => ?_)
      ·
        have hf171 : ((s.getD k 0).toNat : Int) ≠ ((t.getD k 0).toNat : Int) := by simpa using hc170
        refine go_seq_region [0] (by kernel_rfl) ?_
        refine go_runs [0] [] [4] hW147 hE169 (env' := [(4, .v (.bool false))]) (by kernel_rfl) rfl fun a172 hE173 => ?_
        clear hE169
        refine wpOps_nil ?_
        refine then_normal ?_
        refine wp_ret ?_
        refine block_ret ?_
        refine then_ret ?_
        refine then_ret ?_
        refine block_ret ?_
        refine then_ret ?_
        refine leave hE173 hW147.cells (v := .bool false) (by kernel_rfl) ?_
        exact ⟨by first | rw [← same_end hq (by omega) hlen] | rw [← same_el (by assumption)] | rw [← same_len (by assumption)], hW147.step⟩
      ·
        have hf174 : ((s.getD k 0).toNat : Int) = ((t.getD k 0).toNat : Int) := by simpa using hc170
        refine wp_skip ?_
        refine block_normal ?_
        refine then_normal ?_
        refine go_region [0, 1] (by kernel_rfl) ?_
        refine go_runs [0, 1] [] [0, 1, 12, 13] hW147 hE169 (env' := [(0, .v (.slice A s.length c)), (1, .v (.slice A' t.length c')), (12, .v (.int .i64 ((s.length : Nat) : Int))), (13, .v (.int .i64 (IntKind.i64.wrap (((k : Nat) : Int) + 1))))]) (by kernel_rfl) rfl fun a175 hE176 => ?_
        clear hE169
        refine wpOps_nil ?_
        refine then_normal ?_
        have hE177 := EnvOk.pick hE176 (ks := [0, 1, 12, 13]) (env' := [(0, .v (.slice A s.length c)), (1, .v (.slice A' t.length c')), (12, .v (.int .i64 ((s.length : Nat) : Int))), (13, .v (.int .i64 (IntKind.i64.wrap (((k : Nat) : Int) + 1))))]) (by kernel_rfl)
        have he178 : IntKind.i64.wrap (((k : Nat) : Int) + 1) = ((k + 1 : Nat) : Int) := wrap_succ (by omega)
        rw [he178] at hE177
        exact ⟨s.length - (k + 1), by omega, k + 1, rfl, by omega, take_step hq (by omega) hlen (by assumption), hE177, hW147, (Fr.trans hF137 hF146)⟩
    ·
      have hf179 := of_decide_eq_false hc141
      refine wp_exit ?_
      refine then_exit ?_
      refine then_exit ?_
      refine block_exit ?_
      refine then_normal ?_
      refine go_seq_region [0] (by kernel_rfl) ?_
      refine go_runs [0] [] [4] hW134 hE140 (env' := [(4, .v (.bool true))]) (by kernel_rfl) rfl fun a180 hE181 => ?_
      clear hE140
      refine wpOps_nil ?_
      refine then_normal ?_
      refine wp_ret ?_
      refine leave hE181 hW134.cells (v := .bool true) (by kernel_rfl) ?_
      exact ⟨by first | rw [← same_end hq (by omega) hlen] | rw [← same_el (by assumption)] | rw [← same_len (by assumption)], hW134.step⟩

theorem sAt (ct : List Value) (t : Tree) (i : Nat) (w : World) (F : Nat → Nat → Prop) (ht : TreeR w F ct t) :
    Calls Try.prog 48 #[.agg ct.toArray, .int .i64 (i : Int)] w (GivesO w F (t.at_ i)) := by
  obtain ⟨n182, s183, b184, l185, u186, A187, c188, A189, c190, A191, c192, xs193, rfl, rfl, h195, h196, h197, h198⟩ := ht.open_
  have hsm200 := h195.small
  have hsm201 := h196.small
  refine enter (n := 16) Try.func48 rfl Try.ntmps48 (by kernel_rfl) fun a hE => ?_
  have hW := WOk.start w Nil
  refine go_seq_region [0, 1] (by kernel_rfl) ?_
  refine of_op (wpOp_box hW hE (d := 2) (cs := [.int .i64 n182, .slice A187 s183.length c188, .bool b184, .slice A189 l185.length c190, .slice A191 u186.length c192]) (by kernel_rfl) fun b202 a203 w204 hb205 hz206 hF207 hW208 hE209 => ?_)
  clear hE hW
  refine of_op (wpOp_alloc hW208 hE209 (d := 4) (cs := [.int .i64 0, .slice none 0 0, .bool false, .slice none 0 0, .slice none 0 0]) (by kernel_rfl) fun b210 a211 w212 hb213 hz214 hF215 hW216 hE217 => ?_)
  clear hE209 hW208
  refine wpOps_nil ?_
  refine then_normal ?_
  refine wp_seq ?_
  refine go_seq_region [0, 1, 2, 3, 4] (by kernel_rfl) ?_
  refine go_runs [0, 1, 2, 3, 4] [] [1, 2, 4, 9] hW216 hE217 (env' := [(1, .v (.int .i64 ((i : Nat) : Int))), (2, .p 0 0), (4, .p 1 0), (9, .v (.bool (decide (((i : Nat) : Int) < ((l185.length : Nat) : Int)))))]) (by kernel_rfl) rfl fun a218 hE219 => ?_
  clear hE217
  refine wpOps_nil ?_
  refine then_normal ?_
  refine cond_of hE219 (b := decide (((i : Nat) : Int) < ((l185.length : Nat) : Int))) (by kernel_rfl) (fun hc220 => ?_) (fun hc220 => ?_)
  ·
    have hf221 := of_decide_eq_true hc220
    refine go_seq_region [0, 1, 2, 3, 4, 5] (by kernel_rfl) ?_
    refine go_runs [0, 1, 2] [3, 4, 5] [4, 11, 12] hW216 hE219 (env' := [(4, .p 1 0), (11, .v (.slice A189 l185.length c190)), (12, .v (.int .i64 ((i : Nat) : Int)))]) (by kernel_rfl) rfl fun a222 hE223 => ?_
    clear hE219
    obtain ⟨b224, o225, hA226, hl227, hat228⟩ := Slots.get h196 (i := i) (by omega)
    obtain ⟨x229, he230⟩ : ∃ x, l185[i]? = some x := ⟨_, List.getElem?_eq_getElem (by omega)⟩
    have hr231 := h197 i x229 he230
    obtain ⟨n232, s233, b234, l235, u236, A237, c238, A239, c240, A241, c242, xs243, rfl, hcs244, h245, h246, h247, h248⟩ := hr231.open_
    rw [hcs244] at hr231
    have hsm250 := h245.small
    have hsm251 := h246.small
    rw [hcs244] at hat228
    refine of_op (wpOp_index hE223 (t := 23) (A := A189) (m := l185.length) (q := ((i : Nat) : Int)) (d := 13) (by kernel_rfl) (e := 26) (size := 5) (bytes := 88) (by kernel_rfl) hA226 rfl (by omega) fun a252 hE253 => ?_)
    clear hE223
    refine of_op (wpOp_load hE253 (t := 26) (b := b224) (o := o225 + i * 5) (d := 14) (by kernel_rfl) (cs := [.int .i64 n232, .slice A237 s233.length c238, .bool b234, .slice A239 l235.length c240, .slice A241 u236.length c242]) (v := .agg #[.int .i64 n232, .slice A237 s233.length c238, .bool b234, .slice A239 l235.length c240, .slice A241 u236.length c242]) (by kernel_rfl) (AtF.move hat228 hW216.step nilM keepF).at_ fun a254 hE255 => ?_)
    clear hE253
    refine of_op (wpOp_store hW216 hE255 (oi := 1) (cs := [.int .i64 n232, .slice A237 s233.length c238, .bool b234, .slice A239 l235.length c240, .slice A241 u236.length c242]) (by kernel_rfl) fun w256 hF257 hW258 hE259 => ?_)
    clear hE255 hW216
    refine wpOps_nil ?_
    refine then_normal ?_
    refine wp_ret ?_
    refine then_ret ?_
    refine leave hE259 hW258.cells (v := .agg #[.int .i64 n232, .slice A237 s233.length c238, .bool b234, .slice A239 l235.length c240, .slice A241 u236.length c242]) (by kernel_rfl) ?_
    exact ⟨_, rfl, by rw [at_some he230]; exact hr231, hW258.step⟩
  ·
    have hf260 := of_decide_eq_false hc220
    refine wp_skip ?_
    refine then_normal ?_
    refine go_seq_region [0, 1] (by kernel_rfl) ?_
    refine go_runs [0] [1] [4, 15] hW216 hE219 (env' := [(4, .p 1 0), (15, .v (.agg #[.int .i64 0, .slice none 0 0, .bool false, .slice none 0 0, .slice none 0 0]))]) (by kernel_rfl) rfl fun a261 hE262 => ?_
    clear hE219
    refine of_op (wpOp_store hW216 hE262 (oi := 1) (cs := [.int .i64 0, .slice none 0 0, .bool false, .slice none 0 0, .slice none 0 0]) (by kernel_rfl) fun w263 hF264 hW265 hE266 => ?_)
    clear hE262 hW216
    refine wpOps_nil ?_
    refine then_normal ?_
    refine wp_ret ?_
    refine leave hE266 hW265.cells (v := .agg #[.int .i64 0, .slice none 0 0, .bool false, .slice none 0 0, .slice none 0 0]) (by kernel_rfl) ?_
    exact ⟨_, rfl, by rw [at_none (by omega)]; exact TreeR.zero _ _, hW265.step⟩

theorem iAt (ct : List Value) (t : Tree) (i : Nat) (w : World) (F : Nat → Nat → Prop) (ht : TreeR w F ct t) :
    Calls Try.prog 95 #[.agg ct.toArray, .int .i64 (i : Int)] w (GivesO w F (t.at_ i)) := by
  obtain ⟨n267, s268, b269, l270, u271, A272, c273, A274, c275, A276, c277, xs278, rfl, rfl, h280, h281, h282, h283⟩ := ht.open_
  have hsm285 := h280.small
  have hsm286 := h281.small
  refine enter (n := 16) Try.func95 rfl Try.ntmps95 (by kernel_rfl) fun a hE => ?_
  have hW := WOk.start w Nil
  refine go_seq_region [0, 1] (by kernel_rfl) ?_
  refine of_op (wpOp_box hW hE (d := 2) (cs := [.int .i64 n267, .slice A272 s268.length c273, .bool b269, .slice A274 l270.length c275, .slice A276 u271.length c277]) (by kernel_rfl) fun b287 a288 w289 hb290 hz291 hF292 hW293 hE294 => ?_)
  clear hE hW
  refine of_op (wpOp_alloc hW293 hE294 (d := 4) (cs := [.int .i64 0, .slice none 0 0, .bool false, .slice none 0 0, .slice none 0 0]) (by kernel_rfl) fun b295 a296 w297 hb298 hz299 hF300 hW301 hE302 => ?_)
  clear hE294 hW293
  refine wpOps_nil ?_
  refine then_normal ?_
  refine wp_seq ?_
  refine go_seq_region [0, 1, 2, 3, 4] (by kernel_rfl) ?_
  refine go_runs [0, 1, 2, 3, 4] [] [1, 2, 4, 9] hW301 hE302 (env' := [(1, .v (.int .i64 ((i : Nat) : Int))), (2, .p 0 0), (4, .p 1 0), (9, .v (.bool (decide (((i : Nat) : Int) < ((l270.length : Nat) : Int)))))]) (by kernel_rfl) rfl fun a303 hE304 => ?_
  clear hE302
  refine wpOps_nil ?_
  refine then_normal ?_
  refine cond_of hE304 (b := decide (((i : Nat) : Int) < ((l270.length : Nat) : Int))) (by kernel_rfl) (fun hc305 => ?_) (fun hc305 => ?_)
  ·
    have hf306 := of_decide_eq_true hc305
    refine go_seq_region [0, 1, 2, 3, 4, 5] (by kernel_rfl) ?_
    refine go_runs [0, 1, 2] [3, 4, 5] [4, 11, 12] hW301 hE304 (env' := [(4, .p 1 0), (11, .v (.slice A274 l270.length c275)), (12, .v (.int .i64 ((i : Nat) : Int)))]) (by kernel_rfl) rfl fun a307 hE308 => ?_
    clear hE304
    obtain ⟨b309, o310, hA311, hl312, hat313⟩ := Slots.get h281 (i := i) (by omega)
    obtain ⟨x314, he315⟩ : ∃ x, l270[i]? = some x := ⟨_, List.getElem?_eq_getElem (by omega)⟩
    have hr316 := h282 i x314 he315
    obtain ⟨n317, s318, b319, l320, u321, A322, c323, A324, c325, A326, c327, xs328, rfl, hcs329, h330, h331, h332, h333⟩ := hr316.open_
    rw [hcs329] at hr316
    have hsm335 := h330.small
    have hsm336 := h331.small
    rw [hcs329] at hat313
    refine of_op (wpOp_index hE308 (t := 36) (A := A274) (m := l270.length) (q := ((i : Nat) : Int)) (d := 13) (by kernel_rfl) (e := 39) (size := 5) (bytes := 88) (by kernel_rfl) hA311 rfl (by omega) fun a337 hE338 => ?_)
    clear hE308
    refine of_op (wpOp_load hE338 (t := 39) (b := b309) (o := o310 + i * 5) (d := 14) (by kernel_rfl) (cs := [.int .i64 n317, .slice A322 s318.length c323, .bool b319, .slice A324 l320.length c325, .slice A326 u321.length c327]) (v := .agg #[.int .i64 n317, .slice A322 s318.length c323, .bool b319, .slice A324 l320.length c325, .slice A326 u321.length c327]) (by kernel_rfl) (AtF.move hat313 hW301.step nilM keepF).at_ fun a339 hE340 => ?_)
    clear hE338
    refine of_op (wpOp_store hW301 hE340 (oi := 1) (cs := [.int .i64 n317, .slice A322 s318.length c323, .bool b319, .slice A324 l320.length c325, .slice A326 u321.length c327]) (by kernel_rfl) fun w341 hF342 hW343 hE344 => ?_)
    clear hE340 hW301
    refine wpOps_nil ?_
    refine then_normal ?_
    refine wp_ret ?_
    refine then_ret ?_
    refine leave hE344 hW343.cells (v := .agg #[.int .i64 n317, .slice A322 s318.length c323, .bool b319, .slice A324 l320.length c325, .slice A326 u321.length c327]) (by kernel_rfl) ?_
    exact ⟨_, rfl, by rw [at_some he315]; exact hr316, hW343.step⟩
  ·
    have hf345 := of_decide_eq_false hc305
    refine wp_skip ?_
    refine then_normal ?_
    refine go_seq_region [0, 1] (by kernel_rfl) ?_
    refine go_runs [0] [1] [4, 15] hW301 hE304 (env' := [(4, .p 1 0), (15, .v (.agg #[.int .i64 0, .slice none 0 0, .bool false, .slice none 0 0, .slice none 0 0]))]) (by kernel_rfl) rfl fun a346 hE347 => ?_
    clear hE304
    refine of_op (wpOp_store hW301 hE347 (oi := 1) (cs := [.int .i64 0, .slice none 0 0, .bool false, .slice none 0 0, .slice none 0 0]) (by kernel_rfl) fun w348 hF349 hW350 hE351 => ?_)
    clear hE347 hW301
    refine wpOps_nil ?_
    refine then_normal ?_
    refine wp_ret ?_
    refine leave hE351 hW350.cells (v := .agg #[.int .i64 0, .slice none 0 0, .bool false, .slice none 0 0, .slice none 0 0]) (by kernel_rfl) ?_
    exact ⟨_, rfl, by rw [at_none (by omega)]; exact TreeR.zero _ _, hW350.step⟩

theorem sFixed (x : Int) (size : Nat) (hsz : size ≤ 8) (w : World) :
    Calls Try.prog 146 #[.int .i64 x, .int .i64 ((size : Nat) : Int)] w (FreshB w 5 (be size x)) := by
  refine enter (n := 22) Try.func146 rfl Try.ntmps146 (by kernel_rfl) fun a hE => ?_
  have hW := WOk.start w Nil
  refine go_seq_region [0] (by kernel_rfl) ?_
  refine go_runs [0] [] [0, 1] hW hE (env' := [(0, .v (.int .i64 x)), (1, .v (.int .i64 ((size : Nat) : Int)))]) (by kernel_rfl) rfl fun a352 hE353 => ?_
  clear hE
  refine wpOps_nil ?_
  refine then_normal ?_
  refine go_seq_region [0] (by kernel_rfl) ?_
  refine go_runs [0] [] [0, 1, 5] hW hE353 (env' := [(0, .v (.int .i64 x)), (1, .v (.int .i64 ((size : Nat) : Int))), (5, .v (.slice none 0 0))]) (by kernel_rfl) rfl fun a354 hE355 => ?_
  clear hE353
  refine wpOps_nil ?_
  refine then_normal ?_
  refine wp_seq ?_
  refine go_seq_region [0, 1, 2] (by kernel_rfl) ?_
  refine go_runs [0, 1, 2] [] [0, 5, 6] hW hE355 (env' := [(0, .v (.int .i64 x)), (5, .v (.slice none 0 0)), (6, .v (.int .i64 (IntKind.i64.wrap (((size : Nat) : Int) - 1))))]) (by kernel_rfl) rfl fun a356 hE357 => ?_
  clear hE355
  refine wpOps_nil ?_
  refine then_normal ?_
  refine wp_block ?_
  have hW358 := hW.addNil 5 1
  have hF359 := Fr.addNil w [] [] 5 1
  clear hW
  have hE368 := EnvOk.pick hE357 (ks := [0, 5, 6]) (env' := [(0, .v (.int .i64 x)), (5, .v (.slice none 0 0)), (6, .v (.int .i64 (IntKind.i64.wrap (((size : Nat) : Int) - 1))))]) (by kernel_rfl)
  have he369 : IntKind.i64.wrap (((size : Nat) : Int) - 1) = ((size : Nat) : Int) - 1 - ((0 : Nat) : Int) := by rw [wrap_i64 (by omega) (by omega)]; omega
  rw [he369] at hE368
  refine wp_loop_ghost (fun n_ a_ w_ => ∃ (k : Nat) (A : Option Addr) (c : Nat), n_ = size - k ∧ k ≤ size ∧ EnvOk 22 [] [(0, .v (.int .i64 x)), (5, .v (.slice A (((be size x).take k).length) c)), (6, .v (.int .i64 (((size : Nat) : Int) - 1 - ((k : Nat) : Int))))] a_ ∧ WOk w Nil w_ [] [brow A c 5 ((be size x).take k)] ∧ Fr w [] [brow none 0 5 []] w_ [] [brow A c 5 ((be size x).take k)]) (size) ⟨0, none, 0, by omega, by omega, hE368, hW358, Fr.refl _ _ _⟩ ?_
  clear hE368 hE357 hW358
  rintro n360 a361 w362 ⟨k, A, c, hn365, hk366, hE363, hW364, hF367⟩
  refine wp_seq ?_
  refine go_seq_region [0, 1] (by kernel_rfl) ?_
  refine go_runs [0, 1] [] [0, 5, 6, 10] hW364 hE363 (env' := [(0, .v (.int .i64 x)), (5, .v (.slice A (((be size x).take k).length) c)), (6, .v (.int .i64 (((size : Nat) : Int) - 1 - ((k : Nat) : Int)))), (10, .v (.bool (decide ((((size : Nat) : Int) - 1 - ((k : Nat) : Int)) ≥ 0))))]) (by kernel_rfl) rfl fun a370 hE371 => ?_
  clear hE363
  refine wpOps_nil ?_
  refine then_normal ?_
  refine cond_of hE371 (b := decide ((((size : Nat) : Int) - 1 - ((k : Nat) : Int)) ≥ 0)) (by kernel_rfl) (fun hc372 => ?_) (fun hc372 => ?_)
  ·
    have hf373 := of_decide_eq_true hc372
    refine wp_skip ?_
    refine then_normal ?_
    refine wp_seq ?_
    refine wp_block ?_
    refine go_region [0, 1, 2, 3, 4, 5, 6, 7, 8] (by kernel_rfl) ?_
    refine go_runs [0, 1, 2, 3] [4, 5, 6, 7, 8] [0, 6, 13, 14, 16] hW364 hE371 (env' := [(0, .v (.int .i64 x)), (6, .v (.int .i64 (((size : Nat) : Int) - 1 - ((k : Nat) : Int)))), (13, .v (.slice A (((be size x).take k).length) c)), (14, .v (.int .i64 x)), (16, .v (.int .i64 (IntKind.i64.wrap (8 * (((size : Nat) : Int) - 1 - ((k : Nat) : Int))))))]) (by kernel_rfl) rfl fun a374 hE375 => ?_
    clear hE371
    refine of_op (wpOp_shr hE375 (k := .i64) (p := x) (q := (IntKind.i64.wrap (8 * (((size : Nat) : Int) - 1 - ((k : Nat) : Int))))) (d := 17) (j := 8 * (size - 1 - k)) (by kernel_rfl) (by rw [wrap_i64 (by omega) (by omega)]; omega) (by simp only [IntKind.bits]; omega) fun a376 hE377 => ?_)
    clear hE375
    refine go_runs [5] [6, 7, 8] [0, 6, 13, 18] hW364 hE377 (env' := [(0, .v (.int .i64 x)), (6, .v (.int .i64 (((size : Nat) : Int) - 1 - ((k : Nat) : Int)))), (13, .v (.slice A (((be size x).take k).length) c)), (18, .v (.int .u8 (IntKind.u8.wrap (x / 2 ^ (8 * (size - 1 - k))))))]) (by kernel_rfl) rfl fun a378 hE379 => ?_
    clear hE377
    refine wpOps_push hW364 hE379 (k := 0) (e := 5) (size := 1) (len := 1) (cs := [.int .u8 (IntKind.u8.wrap (x / 2 ^ (8 * (size - 1 - k))))]) (d1 := 19) (d := 20) (by kernel_rfl) (t := 22) (bytes := 1) (by kernel_rfl) (fun _ => by kernel_rfl) rfl (by kernel_rfl) (by first | (have := hroom; omega) | (simp; done) | (simp; omega)) fun A380 c381 a382 w383 hF384 hW385 ⟨_, hE386⟩ => ?_
    clear hE379 hW364
    have er387 : (⟨A380, c381, 5, 1, ((be size x).take k).length + 1, bc ((be size x).take k) ++ [.int .u8 (IntKind.u8.wrap (x / 2 ^ (8 * (size - 1 - k))))]⟩ : Rw) = brow A380 c381 5 ((be size x).take k ++ [by8 (x / 2 ^ (8 * (size - 1 - k)))]) := brow_eq (by simp only [bc, List.map, by8_wrap]; try rfl) rfl
    have hW388 : WOk _ _ _ _ [brow A380 c381 5 ((be size x).take k ++ [by8 (x / 2 ^ (8 * (size - 1 - k)))])] := hW385.castR (congrArg (fun r_ => List.set [⟨A380, c381, 5, 1, ((be size x).take k).length + 1, bc ((be size x).take k) ++ [.int .u8 (IntKind.u8.wrap (x / 2 ^ (8 * (size - 1 - k))))]⟩] 0 r_) er387)
    have hF390 : Fr w383 [] [⟨A380, c381, 5, 1, ((be size x).take k).length + 1, bc ((be size x).take k) ++ [.int .u8 (IntKind.u8.wrap (x / 2 ^ (8 * (size - 1 - k))))]⟩] w383 [] [brow A380 c381 5 ((be size x).take k ++ [by8 (x / 2 ^ (8 * (size - 1 - k)))])] := Fr.castR (Fr.refl _ _ _) (congrArg (fun r_ => List.set [⟨A380, c381, 5, 1, ((be size x).take k).length + 1, bc ((be size x).take k) ++ [.int .u8 (IntKind.u8.wrap (x / 2 ^ (8 * (size - 1 - k))))]⟩] 0 r_) er387)
    clear hW385
    have hE391 := EnvOk.pick hE386 (ks := [0, 6, 13, 18, 20]) (env' := [(0, .v (.int .i64 x)), (6, .v (.int .i64 (((size : Nat) : Int) - 1 - ((k : Nat) : Int)))), (13, .v (.slice A (((be size x).take k).length) c)), (18, .v (.int .u8 (IntKind.u8.wrap (x / 2 ^ (8 * (size - 1 - k)))))), (20, .v (.slice A380 (((be size x).take k).length + 1) c381))]) (by kernel_rfl)
    have hE389 := hE391.cast (env' := [(0, .v (.int .i64 x)), (6, .v (.int .i64 (((size : Nat) : Int) - 1 - ((k : Nat) : Int)))), (13, .v (.slice A (((be size x).take k).length) c)), (18, .v (.int .u8 (IntKind.u8.wrap (x / 2 ^ (8 * (size - 1 - k)))))), (20, .v (.slice A380 (((be size x).take k ++ [by8 (x / 2 ^ (8 * (size - 1 - k)))]).length) c381))]) (by simp only [List.length_append, List.length_cons, List.length_nil, Nat.zero_add])
    clear hE386
    clear hE391
    refine go_runs [8] [] [0, 5, 6] hW388 hE389 (env' := [(0, .v (.int .i64 x)), (5, .v (.slice A380 (((be size x).take k ++ [by8 (x / 2 ^ (8 * (size - 1 - k)))]).length) c381)), (6, .v (.int .i64 (((size : Nat) : Int) - 1 - ((k : Nat) : Int))))]) (by kernel_rfl) rfl fun a392 hE393 => ?_
    clear hE389
    refine wpOps_nil ?_
    refine block_normal ?_
    refine then_normal ?_
    refine go_region [0, 1, 2] (by kernel_rfl) ?_
    refine go_runs [0, 1, 2] [] [0, 5, 6] hW388 hE393 (env' := [(0, .v (.int .i64 x)), (5, .v (.slice A380 (((be size x).take k ++ [by8 (x / 2 ^ (8 * (size - 1 - k)))]).length) c381)), (6, .v (.int .i64 (IntKind.i64.wrap ((((size : Nat) : Int) - 1 - ((k : Nat) : Int)) - 1))))]) (by kernel_rfl) rfl fun a394 hE395 => ?_
    clear hE393
    refine wpOps_nil ?_
    refine then_normal ?_
    have er396 : ((be size x).take k ++ [by8 (x / 2 ^ (8 * (size - 1 - k)))]) = ((be size x).take (k + 1)) := (be_take_succ (by omega)).symm
    have hF397 : Fr w383 [] [brow A380 c381 5 ((be size x).take k ++ [by8 (x / 2 ^ (8 * (size - 1 - k)))])] w383 [] [brow A380 c381 5 ((be size x).take (k + 1))] := Fr.castR (Fr.refl _ _ _) (congrArg (fun z_ => List.set [brow A380 c381 5 ((be size x).take k ++ [by8 (x / 2 ^ (8 * (size - 1 - k)))])] 0 (brow A380 c381 5 z_)) er396)
    rw [er396] at hE395 hW388
    have hE398 := EnvOk.pick hE395 (ks := [0, 5, 6]) (env' := [(0, .v (.int .i64 x)), (5, .v (.slice A380 (((be size x).take (k + 1)).length) c381)), (6, .v (.int .i64 (IntKind.i64.wrap ((((size : Nat) : Int) - 1 - ((k : Nat) : Int)) - 1))))]) (by kernel_rfl)
    have he399 : IntKind.i64.wrap ((((size : Nat) : Int) - 1 - ((k : Nat) : Int)) - 1) = ((size : Nat) : Int) - 1 - (((k + 1) : Nat) : Int) := by rw [wrap_i64 (by omega) (by omega)]; omega
    rw [he399] at hE398
    exact ⟨size - (k + 1), by omega, k + 1, A380, c381, rfl, by omega, hE398, hW388, (Fr.trans (Fr.trans (Fr.trans hF367 hF384) hF390) hF397)⟩
  ·
    have hf400 := of_decide_eq_false hc372
    refine wp_exit ?_
    refine then_exit ?_
    refine then_exit ?_
    refine block_exit ?_
    refine then_normal ?_
    refine go_seq_region [0, 1] (by kernel_rfl) ?_
    refine go_runs [0, 1] [] [4] hW364 hE371 (env' := [(4, .v (.slice A (((be size x).take k).length) c))]) (by kernel_rfl) rfl fun a401 hE402 => ?_
    clear hE371
    refine wpOps_nil ?_
    refine then_normal ?_
    refine wp_ret ?_
    refine leave hE402 hW364.cells (v := .slice A (((be size x).take k).length) c) (by kernel_rfl) ?_
    exact fresh_end hW364 (k := 0) rfl (List.take_of_length_le (by simp; omega))

theorem sUvarint (x : Nat) (hx : x < 18446744073709551616) (w : World) :
    Calls Try.prog 109 #[.int .u64 ((x : Nat) : Int)] w (FreshB w 5 (uv x)) := by
  refine enter (n := 20) Try.func109 rfl Try.ntmps109 (by kernel_rfl) fun a hE => ?_
  have hW := WOk.start w Nil
  refine go_seq_region [0] (by kernel_rfl) ?_
  refine go_runs [0] [] [0] hW hE (env' := [(0, .v (.int .u64 ((x : Nat) : Int)))]) (by kernel_rfl) rfl fun a403 hE404 => ?_
  clear hE
  refine wpOps_nil ?_
  refine then_normal ?_
  refine go_seq_region [0] (by kernel_rfl) ?_
  refine go_runs [0] [] [0, 3] hW hE404 (env' := [(0, .v (.int .u64 ((x : Nat) : Int))), (3, .v (.slice none 0 0))]) (by kernel_rfl) rfl fun a405 hE406 => ?_
  clear hE404
  refine wpOps_nil ?_
  refine then_normal ?_
  refine wp_seq ?_
  refine wp_block ?_
  have hW407 := hW.addNil 5 1
  have hF408 := Fr.addNil w [] [] 5 1
  clear hW
  have hE416 := EnvOk.pick hE406 (ks := [0, 3]) (env' := [(0, .v (.int .u64 ((x : Nat) : Int))), (3, .v (.slice none 0 0))]) (by kernel_rfl)
  refine wp_loop_ghost (fun n_ a_ w_ => ∃ (A : Option Addr) (c : Nat) (pre : Bs) (m : Nat), n_ = m ∧ (pre ++ uv m = uv x) ∧ (m < 18446744073709551616) ∧ EnvOk 20 [] [(0, .v (.int .u64 ((m : Nat) : Int))), (3, .v (.slice A pre.length c))] a_ ∧ WOk w Nil w_ [] [brow A c 5 pre] ∧ Fr w [] [brow none 0 5 []] w_ [] [brow A c 5 pre]) (x) ⟨none, 0, [], x, rfl, rfl, hx, hE416, hW407, Fr.refl _ _ _⟩ ?_
  clear hE416 hE406 hW407
  rintro n409 a410 w411 ⟨A, c, pre, m, hn414, hp, hm, hE412, hW413, hF415⟩
  refine wp_seq ?_
  refine go_seq_region [0, 1] (by kernel_rfl) ?_
  refine go_runs [0, 1] [] [0, 3, 5] hW413 hE412 (env' := [(0, .v (.int .u64 ((m : Nat) : Int))), (3, .v (.slice A pre.length c)), (5, .v (.bool (decide (((m : Nat) : Int) > 127))))]) (by kernel_rfl) rfl fun a417 hE418 => ?_
  clear hE412
  refine wpOps_nil ?_
  refine then_normal ?_
  refine cond_of hE418 (b := decide (((m : Nat) : Int) > 127)) (by kernel_rfl) (fun hc419 => ?_) (fun hc419 => ?_)
  ·
    have hf420 := of_decide_eq_true hc419
    refine wp_skip ?_
    refine then_normal ?_
    refine wp_block ?_
    refine go_seq_region [0, 1, 2, 3, 4, 5, 6, 7] (by kernel_rfl) ?_
    refine go_runs [0, 1, 2, 3, 4] [5, 6, 7] [0, 6, 10] hW413 hE418 (env' := [(0, .v (.int .u64 ((m : Nat) : Int))), (6, .v (.slice A pre.length c)), (10, .v (.int .u8 (IntKind.u8.wrap (BitVec.ofInt 8 (IntKind.u8.wrap (IntKind.u64.wrap (BitVec.ofInt 64 ((m : Nat) : Int) &&& BitVec.ofInt 64 127).toNat)) ||| BitVec.ofInt 8 128).toNat)))]) (by kernel_rfl) rfl fun a421 hE422 => ?_
    clear hE418
    refine wpOps_push hW413 hE422 (k := 0) (e := 5) (size := 1) (len := 1) (cs := [.int .u8 (IntKind.u8.wrap (BitVec.ofInt 8 (IntKind.u8.wrap (IntKind.u64.wrap (BitVec.ofInt 64 ((m : Nat) : Int) &&& BitVec.ofInt 64 127).toNat)) ||| BitVec.ofInt 8 128).toNat)]) (d1 := 11) (d := 12) (by kernel_rfl) (t := 22) (bytes := 1) (by kernel_rfl) (fun _ => by kernel_rfl) rfl (by kernel_rfl) (by have h1_ := uv_len10 x hx; rw [← hp, List.length_append] at h1_; omega) fun A423 c424 a425 w426 hF427 hW428 ⟨_, hE429⟩ => ?_
    clear hE422 hW413
    have er430 : (⟨A423, c424, 5, 1, pre.length + 1, bc pre ++ [.int .u8 (IntKind.u8.wrap (BitVec.ofInt 8 (IntKind.u8.wrap (IntKind.u64.wrap (BitVec.ofInt 64 ((m : Nat) : Int) &&& BitVec.ofInt 64 127).toNat)) ||| BitVec.ofInt 8 128).toNat)]⟩ : Rw) = brow A423 c424 5 (pre ++ [by8 (BitVec.ofInt 8 (IntKind.u8.wrap (IntKind.u64.wrap (BitVec.ofInt 64 ((m : Nat) : Int) &&& BitVec.ofInt 64 127).toNat)) ||| BitVec.ofInt 8 128).toNat]) := brow_eq (by simp only [bc, List.map, by8_wrap]; try rfl) rfl
    have hW431 : WOk _ _ _ _ [brow A423 c424 5 (pre ++ [by8 (BitVec.ofInt 8 (IntKind.u8.wrap (IntKind.u64.wrap (BitVec.ofInt 64 ((m : Nat) : Int) &&& BitVec.ofInt 64 127).toNat)) ||| BitVec.ofInt 8 128).toNat])] := hW428.castR (congrArg (fun r_ => List.set [⟨A423, c424, 5, 1, pre.length + 1, bc pre ++ [.int .u8 (IntKind.u8.wrap (BitVec.ofInt 8 (IntKind.u8.wrap (IntKind.u64.wrap (BitVec.ofInt 64 ((m : Nat) : Int) &&& BitVec.ofInt 64 127).toNat)) ||| BitVec.ofInt 8 128).toNat)]⟩] 0 r_) er430)
    have hF433 : Fr w426 [] [⟨A423, c424, 5, 1, pre.length + 1, bc pre ++ [.int .u8 (IntKind.u8.wrap (BitVec.ofInt 8 (IntKind.u8.wrap (IntKind.u64.wrap (BitVec.ofInt 64 ((m : Nat) : Int) &&& BitVec.ofInt 64 127).toNat)) ||| BitVec.ofInt 8 128).toNat)]⟩] w426 [] [brow A423 c424 5 (pre ++ [by8 (BitVec.ofInt 8 (IntKind.u8.wrap (IntKind.u64.wrap (BitVec.ofInt 64 ((m : Nat) : Int) &&& BitVec.ofInt 64 127).toNat)) ||| BitVec.ofInt 8 128).toNat])] := Fr.castR (Fr.refl _ _ _) (congrArg (fun r_ => List.set [⟨A423, c424, 5, 1, pre.length + 1, bc pre ++ [.int .u8 (IntKind.u8.wrap (BitVec.ofInt 8 (IntKind.u8.wrap (IntKind.u64.wrap (BitVec.ofInt 64 ((m : Nat) : Int) &&& BitVec.ofInt 64 127).toNat)) ||| BitVec.ofInt 8 128).toNat)]⟩] 0 r_) er430)
    clear hW428
    have hE434 := EnvOk.pick hE429 (ks := [0, 6, 10, 12]) (env' := [(0, .v (.int .u64 ((m : Nat) : Int))), (6, .v (.slice A pre.length c)), (10, .v (.int .u8 (IntKind.u8.wrap (BitVec.ofInt 8 (IntKind.u8.wrap (IntKind.u64.wrap (BitVec.ofInt 64 ((m : Nat) : Int) &&& BitVec.ofInt 64 127).toNat)) ||| BitVec.ofInt 8 128).toNat))), (12, .v (.slice A423 (pre.length + 1) c424))]) (by kernel_rfl)
    have hE432 := hE434.cast (env' := [(0, .v (.int .u64 ((m : Nat) : Int))), (6, .v (.slice A pre.length c)), (10, .v (.int .u8 (IntKind.u8.wrap (BitVec.ofInt 8 (IntKind.u8.wrap (IntKind.u64.wrap (BitVec.ofInt 64 ((m : Nat) : Int) &&& BitVec.ofInt 64 127).toNat)) ||| BitVec.ofInt 8 128).toNat))), (12, .v (.slice A423 ((pre ++ [by8 (BitVec.ofInt 8 (IntKind.u8.wrap (IntKind.u64.wrap (BitVec.ofInt 64 ((m : Nat) : Int) &&& BitVec.ofInt 64 127).toNat)) ||| BitVec.ofInt 8 128).toNat]).length) c424))]) (by simp only [List.length_append, List.length_cons, List.length_nil, Nat.zero_add])
    clear hE429
    clear hE434
    refine go_runs [7] [] [0, 3] hW431 hE432 (env' := [(0, .v (.int .u64 ((m : Nat) : Int))), (3, .v (.slice A423 ((pre ++ [by8 (BitVec.ofInt 8 (IntKind.u8.wrap (IntKind.u64.wrap (BitVec.ofInt 64 ((m : Nat) : Int) &&& BitVec.ofInt 64 127).toNat)) ||| BitVec.ofInt 8 128).toNat]).length) c424))]) (by kernel_rfl) rfl fun a435 hE436 => ?_
    clear hE432
    refine wpOps_nil ?_
    refine then_normal ?_
    refine go_region [0, 1, 2] (by kernel_rfl) ?_
    refine go_runs [0, 1, 2] [] [0, 3] hW431 hE436 (env' := [(0, .v (.int .u64 (Int.fdiv ((m : Nat) : Int) 128))), (3, .v (.slice A423 ((pre ++ [by8 (BitVec.ofInt 8 (IntKind.u8.wrap (IntKind.u64.wrap (BitVec.ofInt 64 ((m : Nat) : Int) &&& BitVec.ofInt 64 127).toNat)) ||| BitVec.ofInt 8 128).toNat]).length) c424))]) (by kernel_rfl) rfl fun a437 hE438 => ?_
    clear hE436
    refine wpOps_nil ?_
    refine block_normal ?_
    refine then_normal ?_
    have er439 : (pre ++ [by8 (BitVec.ofInt 8 (IntKind.u8.wrap (IntKind.u64.wrap (BitVec.ofInt 64 ((m : Nat) : Int) &&& BitVec.ofInt 64 127).toNat)) ||| BitVec.ofInt 8 128).toNat]) = (pre ++ [UInt8.ofNat (m % 128 + 128)]) := by rw [uv_oct64 m (by omega)]
    have hF440 : Fr w426 [] [brow A423 c424 5 (pre ++ [by8 (BitVec.ofInt 8 (IntKind.u8.wrap (IntKind.u64.wrap (BitVec.ofInt 64 ((m : Nat) : Int) &&& BitVec.ofInt 64 127).toNat)) ||| BitVec.ofInt 8 128).toNat])] w426 [] [brow A423 c424 5 (pre ++ [UInt8.ofNat (m % 128 + 128)])] := Fr.castR (Fr.refl _ _ _) (congrArg (fun z_ => List.set [brow A423 c424 5 (pre ++ [by8 (BitVec.ofInt 8 (IntKind.u8.wrap (IntKind.u64.wrap (BitVec.ofInt 64 ((m : Nat) : Int) &&& BitVec.ofInt 64 127).toNat)) ||| BitVec.ofInt 8 128).toNat])] 0 (brow A423 c424 5 z_)) er439)
    rw [er439] at hE438 hW431
    have hE441 := EnvOk.pick hE438 (ks := [0, 3]) (env' := [(0, .v (.int .u64 (Int.fdiv ((m : Nat) : Int) 128))), (3, .v (.slice A423 ((pre ++ [UInt8.ofNat (m % 128 + 128)]).length) c424))]) (by kernel_rfl)
    have he442 : Int.fdiv ((m : Nat) : Int) 128 = ((m / 128 : Nat) : Int) := fdiv128 m
    rw [he442] at hE441
    exact ⟨m / 128, by omega, A423, c424, pre ++ [UInt8.ofNat (m % 128 + 128)], m / 128, rfl, by rw [← hp, uv_big (show 128 ≤ m by omega)]; simp, by omega, hE441, hW431, (Fr.trans (Fr.trans (Fr.trans hF415 hF427) hF433) hF440)⟩
  ·
    have hf443 := of_decide_eq_false hc419
    refine wp_exit ?_
    refine then_exit ?_
    refine then_exit ?_
    refine block_exit ?_
    refine then_normal ?_
    refine go_seq_region [0, 1, 2, 3, 4, 5] (by kernel_rfl) ?_
    refine go_runs [0, 1, 2] [3, 4, 5] [15, 17] hW413 hE418 (env' := [(15, .v (.slice A pre.length c)), (17, .v (.int .u8 (IntKind.u8.wrap ((m : Nat) : Int))))]) (by kernel_rfl) rfl fun a444 hE445 => ?_
    clear hE418
    refine wpOps_push hW413 hE445 (k := 0) (e := 5) (size := 1) (len := 1) (cs := [.int .u8 (IntKind.u8.wrap ((m : Nat) : Int))]) (d1 := 18) (d := 19) (by kernel_rfl) (t := 22) (bytes := 1) (by kernel_rfl) (fun _ => by kernel_rfl) rfl (by kernel_rfl) (by have h1_ := uv_len10 x hx; rw [← hp, List.length_append] at h1_; omega) fun A446 c447 a448 w449 hF450 hW451 ⟨_, hE452⟩ => ?_
    clear hE445 hW413
    have er453 : (⟨A446, c447, 5, 1, pre.length + 1, bc pre ++ [.int .u8 (IntKind.u8.wrap ((m : Nat) : Int))]⟩ : Rw) = brow A446 c447 5 (pre ++ [by8 ((m : Nat) : Int)]) := brow_eq (by simp only [bc, List.map, by8_wrap]; try rfl) rfl
    have hW454 : WOk _ _ _ _ [brow A446 c447 5 (pre ++ [by8 ((m : Nat) : Int)])] := hW451.castR (congrArg (fun r_ => List.set [⟨A446, c447, 5, 1, pre.length + 1, bc pre ++ [.int .u8 (IntKind.u8.wrap ((m : Nat) : Int))]⟩] 0 r_) er453)
    have hF456 : Fr w449 [] [⟨A446, c447, 5, 1, pre.length + 1, bc pre ++ [.int .u8 (IntKind.u8.wrap ((m : Nat) : Int))]⟩] w449 [] [brow A446 c447 5 (pre ++ [by8 ((m : Nat) : Int)])] := Fr.castR (Fr.refl _ _ _) (congrArg (fun r_ => List.set [⟨A446, c447, 5, 1, pre.length + 1, bc pre ++ [.int .u8 (IntKind.u8.wrap ((m : Nat) : Int))]⟩] 0 r_) er453)
    clear hW451
    have hE457 := EnvOk.pick hE452 (ks := [15, 17, 19]) (env' := [(15, .v (.slice A pre.length c)), (17, .v (.int .u8 (IntKind.u8.wrap ((m : Nat) : Int)))), (19, .v (.slice A446 (pre.length + 1) c447))]) (by kernel_rfl)
    have hE455 := hE457.cast (env' := [(15, .v (.slice A pre.length c)), (17, .v (.int .u8 (IntKind.u8.wrap ((m : Nat) : Int)))), (19, .v (.slice A446 ((pre ++ [by8 ((m : Nat) : Int)]).length) c447))]) (by simp only [List.length_append, List.length_cons, List.length_nil, Nat.zero_add])
    clear hE452
    clear hE457
    refine go_runs [5] [] [2] hW454 hE455 (env' := [(2, .v (.slice A446 ((pre ++ [by8 ((m : Nat) : Int)]).length) c447))]) (by kernel_rfl) rfl fun a458 hE459 => ?_
    clear hE455
    refine wpOps_nil ?_
    refine then_normal ?_
    refine wp_ret ?_
    refine leave hE459 hW454.cells (v := .slice A446 ((pre ++ [by8 ((m : Nat) : Int)]).length) c447) (by kernel_rfl) ?_
    exact fresh_end hW454 (k := 0) rfl (by rw [← hp, uv_small (show m < 128 by omega), by8_nat])

theorem sCounted (flex null : Bool) (m sz : Nat) (hm : m ≤ 1099511627776) (hsz : sz ≤ 8) (w : World) :
    Calls Try.prog 144 #[.bool flex, .bool null, .int .i64 ((m : Nat) : Int), .int .i64 ((sz : Nat) : Int)] w (FreshB w 5 (countedB flex null m sz)) := by
  refine enter (n := 28) Try.func144 rfl Try.ntmps144 (by kernel_rfl) fun a hE => ?_
  have hW := WOk.start w Nil
  refine go_seq_region [0] (by kernel_rfl) ?_
  refine go_runs [0] [] [0, 1, 2, 3] hW hE (env' := [(0, .v (.bool flex)), (1, .v (.bool null)), (2, .v (.int .i64 ((m : Nat) : Int))), (3, .v (.int .i64 ((sz : Nat) : Int)))]) (by kernel_rfl) rfl fun a460 hE461 => ?_
  clear hE
  refine wpOps_nil ?_
  refine then_normal ?_
  refine wp_seq ?_
  refine wp_block ?_
  refine go_seq_region [0, 1, 2, 3, 4] (by kernel_rfl) ?_
  refine go_runs [0, 1] [2, 3, 4] [0, 1, 2, 3, 11] hW hE461 (env' := [(0, .v (.bool flex)), (1, .v (.bool null)), (2, .v (.int .i64 ((m : Nat) : Int))), (3, .v (.int .i64 ((sz : Nat) : Int))), (11, .v (.bool flex))]) (by kernel_rfl) rfl fun a462 hE463 => ?_
  clear hE461
  refine (Bool.eq_false_or_eq_true (flex)).elim (fun hc464 => ?_) (fun hc464 => ?_)
  ·
    have hE466 := hE463.cast (env' := [(0, .v (.bool true)), (1, .v (.bool null)), (2, .v (.int .i64 ((m : Nat) : Int))), (3, .v (.int .i64 ((sz : Nat) : Int))), (11, .v (.bool true))]) (by rw [hc464])
    clear hE463
    refine go_runs [2, 3, 4] [] [0, 1, 2, 3, 9] hW hE466 (env' := [(0, .v (.bool true)), (1, .v (.bool null)), (2, .v (.int .i64 ((m : Nat) : Int))), (3, .v (.int .i64 ((sz : Nat) : Int))), (9, .v (.bool null))]) (by kernel_rfl) rfl fun a467 hE468 => ?_
    clear hE466
    refine wpOps_nil ?_
    refine then_normal ?_
    refine cond_of hE468 (b := null) (by kernel_rfl) (fun hc469 => ?_) (fun hc469 => ?_)
    ·
      refine go_seq_region [0, 1] (by kernel_rfl) ?_
      refine of_op (wpOp_lit hW hE468 (e := 5) (size := 1) (len := 1) (cs := [.int .u8 0]) (d := 14) (by kernel_rfl) (by kernel_rfl) fun b471 a472 w473 hb474 hz475 hF476 hW477 hE478 => ?_)
      clear hE468 hW
      have er479 : (⟨some ⟨b471, 0, none⟩, 1, 5, 1, 1, [.int .u8 0]⟩ : Rw) = brow (some ⟨b471, 0, none⟩) 1 5 [by8 0] := by first | rfl | (simp only [brow, bc, List.map, by8_wrap]; try rfl)
      have hW480 : WOk _ _ _ _ [brow (some ⟨b471, 0, none⟩) 1 5 [by8 0]] := hW477.castR (congrArg (fun r_ => List.set [⟨some ⟨b471, 0, none⟩, 1, 5, 1, 1, [.int .u8 0]⟩] 0 r_) er479)
      have hF482 : Fr w473 [] [⟨some ⟨b471, 0, none⟩, 1, 5, 1, 1, [.int .u8 0]⟩] w473 [] [brow (some ⟨b471, 0, none⟩) 1 5 [by8 0]] := Fr.castR (Fr.refl _ _ _) (congrArg (fun r_ => List.set [⟨some ⟨b471, 0, none⟩, 1, 5, 1, 1, [.int .u8 0]⟩] 0 r_) er479)
      clear hW477
      have hE484 := EnvOk.pick hE478 (ks := [0, 1, 2, 3, 9, 14]) (env' := [(0, .v (.bool true)), (1, .v (.bool null)), (2, .v (.int .i64 ((m : Nat) : Int))), (3, .v (.int .i64 ((sz : Nat) : Int))), (9, .v (.bool null)), (14, .v (.slice (some ⟨b471, 0, none⟩) 1 1))]) (by kernel_rfl)
      have hE483 := hE484.cast (env' := [(0, .v (.bool true)), (1, .v (.bool null)), (2, .v (.int .i64 ((m : Nat) : Int))), (3, .v (.int .i64 ((sz : Nat) : Int))), (9, .v (.bool null)), (14, .v (.slice (some ⟨b471, 0, none⟩) ([by8 0].length) 1))]) rfl
      clear hE478 hE484
      refine go_runs [1] [] [8] hW480 hE483 (env' := [(8, .v (.slice (some ⟨b471, 0, none⟩) ([by8 0].length) 1))]) (by kernel_rfl) rfl fun a485 hE486 => ?_
      clear hE483
      refine wpOps_nil ?_
      refine then_normal ?_
      refine wp_ret ?_
      refine block_ret ?_
      refine then_ret ?_
      refine leave hE486 hW480.cells (v := .slice (some ⟨b471, 0, none⟩) ([by8 0].length) 1) (by kernel_rfl) ?_
      exact fresh_end hW480 (k := 0) rfl (by simp [countedB, hc464, hc469]; try rfl)
    ·
      refine go_seq_region [0, 1] (by kernel_rfl) ?_
      refine go_runs [0, 1] [] [1, 2, 3, 15] hW hE468 (env' := [(1, .v (.bool null)), (2, .v (.int .i64 ((m : Nat) : Int))), (3, .v (.int .i64 ((sz : Nat) : Int))), (15, .v (.bool true))]) (by kernel_rfl) rfl fun a488 hE489 => ?_
      clear hE468
      refine wpOps_nil ?_
      refine then_normal ?_
      refine cond_true hE489 (b := true) (by kernel_rfl) rfl ?_
      refine go_seq_region [0, 1, 2, 3, 4] (by kernel_rfl) ?_
      refine go_runs [0, 1, 2] [3, 4] [19] hW hE489 (env' := [(19, .v (.int .u64 (IntKind.u64.wrap ((IntKind.u64.wrap ((m : Nat) : Int)) + 1))))]) (by kernel_rfl) rfl fun a490 hE491 => ?_
      clear hE489
      have he492 : IntKind.u64.wrap ((IntKind.u64.wrap ((m : Nat) : Int)) + 1) = ((m + 1 : Nat) : Int) := by simp only [wrap_u64, wrap_u32, wrap_u16, IntKind.wrap_i64, IntKind.wrap_i32]; omega
      have hE494 := EnvOk.pick hE491 (ks := [19]) (env' := [(19, .v (.int .u64 (IntKind.u64.wrap ((IntKind.u64.wrap ((m : Nat) : Int)) + 1))))]) (by kernel_rfl)
      have hE493 := hE494.cast (env' := [(19, .v (.int .u64 ((m + 1 : Nat) : Int)))]) (by rw [he492])
      clear hE491 hE494
      refine of_op (wpOp_call hE493 (f := 109) (vs := [.int .u64 ((m + 1 : Nat) : Int)]) (d := 20) (by kernel_rfl) Try.call109 (sUvarint (m + 1) (by omega) _) ?_)
      rintro e_ w499 ⟨A497, c498, rfl, ho496, hs495⟩
      refine ⟨_, rfl, fun a500 hE501 => ?_⟩
      have hW502 := hW.fresh hs495 (brow A497 c498 5 (uv (m + 1))) (Nat.le_refl _) ho496
      have hF503 := Fr.fresh [] [] hs495 (brow A497 c498 5 (uv (m + 1))) (Nat.le_refl _) ho496
      clear hE493 hW
      refine go_runs [4] [] [8] hW502 hE501 (env' := [(8, .v (.slice A497 ((uv (m + 1)).length) c498))]) (by kernel_rfl) rfl fun a504 hE505 => ?_
      clear hE501
      refine wpOps_nil ?_
      refine then_normal ?_
      refine wp_ret ?_
      refine block_ret ?_
      refine then_ret ?_
      refine leave hE505 hW502.cells (v := .slice A497 ((uv (m + 1)).length) c498) (by kernel_rfl) ?_
      exact fresh_end hW502 (k := 0) rfl (by simp [countedB, hc464, hc469]; try rfl)
  ·
    have hE507 := hE463.cast (env' := [(0, .v (.bool false)), (1, .v (.bool null)), (2, .v (.int .i64 ((m : Nat) : Int))), (3, .v (.int .i64 ((sz : Nat) : Int))), (11, .v (.bool false))]) (by rw [hc464])
    clear hE463
    refine go_runs [2, 3, 4] [] [0, 1, 2, 3, 9] hW hE507 (env' := [(0, .v (.bool false)), (1, .v (.bool null)), (2, .v (.int .i64 ((m : Nat) : Int))), (3, .v (.int .i64 ((sz : Nat) : Int))), (9, .v (.bool false))]) (by kernel_rfl) rfl fun a508 hE509 => ?_
    clear hE507
    refine wpOps_nil ?_
    refine then_normal ?_
    refine cond_false hE509 (b := false) (by kernel_rfl) rfl ?_
    refine go_seq_region [0, 1] (by kernel_rfl) ?_
    refine go_runs [0, 1] [] [1, 2, 3, 15] hW hE509 (env' := [(1, .v (.bool null)), (2, .v (.int .i64 ((m : Nat) : Int))), (3, .v (.int .i64 ((sz : Nat) : Int))), (15, .v (.bool false))]) (by kernel_rfl) rfl fun a510 hE511 => ?_
    clear hE509
    refine wpOps_nil ?_
    refine then_normal ?_
    refine cond_false hE511 (b := false) (by kernel_rfl) rfl ?_
    refine go_seq_region [0, 1] (by kernel_rfl) ?_
    refine go_runs [0, 1] [] [2, 3, 21] hW hE511 (env' := [(2, .v (.int .i64 ((m : Nat) : Int))), (3, .v (.int .i64 ((sz : Nat) : Int))), (21, .v (.bool null))]) (by kernel_rfl) rfl fun a512 hE513 => ?_
    clear hE511
    refine wpOps_nil ?_
    refine then_normal ?_
    refine cond_of hE513 (b := null) (by kernel_rfl) (fun hc514 => ?_) (fun hc514 => ?_)
    ·
      refine go_seq_region [0, 1, 2] (by kernel_rfl) ?_
      refine go_runs [0] [1, 2] [23] hW hE513 (env' := [(23, .v (.int .i64 ((sz : Nat) : Int)))]) (by kernel_rfl) rfl fun a516 hE517 => ?_
      clear hE513
      refine of_op (wpOp_call hE517 (f := 146) (vs := [.int .i64 (-1), .int .i64 ((sz : Nat) : Int)]) (d := 24) (by kernel_rfl) Try.call146 (sFixed (-1) sz (by first | decide | exact widthI_le _ | omega) _) ?_)
      rintro e_ w522 ⟨A520, c521, rfl, ho519, hs518⟩
      refine ⟨_, rfl, fun a523 hE524 => ?_⟩
      have hW525 := hW.fresh hs518 (brow A520 c521 5 (be sz (-1))) (Nat.le_refl _) ho519
      have hF526 := Fr.fresh [] [] hs518 (brow A520 c521 5 (be sz (-1))) (Nat.le_refl _) ho519
      clear hE517 hW
      refine go_runs [2] [] [8] hW525 hE524 (env' := [(8, .v (.slice A520 ((be sz (-1)).length) c521))]) (by kernel_rfl) rfl fun a527 hE528 => ?_
      clear hE524
      refine wpOps_nil ?_
      refine then_normal ?_
      refine wp_ret ?_
      refine block_ret ?_
      refine then_ret ?_
      refine leave hE528 hW525.cells (v := .slice A520 ((be sz (-1)).length) c521) (by kernel_rfl) ?_
      exact fresh_end hW525 (k := 0) rfl (by simp [countedB, hc464, hc514]; try rfl)
    ·
      refine wp_skip ?_
      refine block_normal ?_
      refine then_normal ?_
      refine go_seq_region [0, 1, 2, 3] (by kernel_rfl) ?_
      refine go_runs [0, 1] [2, 3] [25, 26] hW hE513 (env' := [(25, .v (.int .i64 ((m : Nat) : Int))), (26, .v (.int .i64 ((sz : Nat) : Int)))]) (by kernel_rfl) rfl fun a530 hE531 => ?_
      clear hE513
      refine of_op (wpOp_call hE531 (f := 146) (vs := [.int .i64 ((m : Nat) : Int), .int .i64 ((sz : Nat) : Int)]) (d := 27) (by kernel_rfl) Try.call146 (sFixed ((m : Nat) : Int) sz (by first | decide | exact widthI_le _ | omega) _) ?_)
      rintro e_ w536 ⟨A534, c535, rfl, ho533, hs532⟩
      refine ⟨_, rfl, fun a537 hE538 => ?_⟩
      have hW539 := hW.fresh hs532 (brow A534 c535 5 (be sz ((m : Nat) : Int))) (Nat.le_refl _) ho533
      have hF540 := Fr.fresh [] [] hs532 (brow A534 c535 5 (be sz ((m : Nat) : Int))) (Nat.le_refl _) ho533
      clear hE531 hW
      refine go_runs [3] [] [8] hW539 hE538 (env' := [(8, .v (.slice A534 ((be sz ((m : Nat) : Int)).length) c535))]) (by kernel_rfl) rfl fun a541 hE542 => ?_
      clear hE538
      refine wpOps_nil ?_
      refine then_normal ?_
      refine wp_ret ?_
      refine leave hE542 hW539.cells (v := .slice A534 ((be sz ((m : Nat) : Int)).length) c535) (by kernel_rfl) ?_
      exact fresh_end hW539 (k := 0) rfl (by simp [countedB, hc464, hc514]; try rfl)

theorem sKnown (A : Option Addr) (c : Nat) (l : List Fld) (w : World) (F : Nat → Nat → Prop) (hl : FldsR w F A c l) :
    Calls Try.prog 105 #[.slice A l.length c] w (Gives w (.int .u32 (knownI l))) := by
  obtain ⟨xfs, h1, h2⟩ := hl.ex
  have hsm := h1.small
  refine enter (n := 23) Try.func105 rfl Try.ntmps105 (by kernel_rfl) fun a hE => ?_
  have hW := WOk.start w Nil
  refine go_seq_region [0] (by kernel_rfl) ?_
  refine go_runs [0] [] [0] hW hE (env' := [(0, .v (.slice A l.length c))]) (by kernel_rfl) rfl fun a543 hE544 => ?_
  clear hE
  refine wpOps_nil ?_
  refine then_normal ?_
  refine go_seq_region [0] (by kernel_rfl) ?_
  refine go_runs [0] [] [0, 3] hW hE544 (env' := [(0, .v (.slice A l.length c)), (3, .v (.int .u32 0))]) (by kernel_rfl) rfl fun a545 hE546 => ?_
  clear hE544
  refine wpOps_nil ?_
  refine then_normal ?_
  refine wp_seq ?_
  refine go_seq_region [0, 1, 2] (by kernel_rfl) ?_
  refine go_runs [0, 1, 2] [] [3, 6, 7, 8] hW hE546 (env' := [(3, .v (.int .u32 0)), (6, .v (.slice A l.length c)), (7, .v (.int .i64 ((l.length : Nat) : Int))), (8, .v (.int .i64 0))]) (by kernel_rfl) rfl fun a547 hE548 => ?_
  clear hE546
  refine wpOps_nil ?_
  refine then_normal ?_
  refine wp_block ?_
  have hE557 := EnvOk.pick hE548 (ks := [3, 6, 7, 8]) (env' := [(3, .v (.int .u32 0)), (6, .v (.slice A l.length c)), (7, .v (.int .i64 ((l.length : Nat) : Int))), (8, .v (.int .i64 0))]) (by kernel_rfl)
  refine wp_loop_ghost (fun n_ a_ w_ => ∃ (k : Nat), n_ = l.length - k ∧ k ≤ l.length ∧ EnvOk 23 [] [(3, .v (.int .u32 (knownI (l.take k)))), (6, .v (.slice A l.length c)), (7, .v (.int .i64 ((l.length : Nat) : Int))), (8, .v (.int .i64 ((k : Nat) : Int)))] a_ ∧ WOk w Nil w_ [] [] ∧ Fr w [] [] w_ [] []) (l.length) ⟨0, by omega, by omega, hE557, hW, Fr.refl _ _ _⟩ ?_
  clear hE557 hE548 hW
  rintro n549 a550 w551 ⟨k, hn554, hk555, hE552, hW553, hF556⟩
  refine go_seq_region [0] (by kernel_rfl) ?_
  refine go_runs [0] [] [3, 6, 7, 8, 9] hW553 hE552 (env' := [(3, .v (.int .u32 (knownI (l.take k)))), (6, .v (.slice A l.length c)), (7, .v (.int .i64 ((l.length : Nat) : Int))), (8, .v (.int .i64 ((k : Nat) : Int))), (9, .v (.bool (decide (((k : Nat) : Int) < ((l.length : Nat) : Int)))))]) (by kernel_rfl) rfl fun a558 hE559 => ?_
  clear hE552
  refine wpOps_nil ?_
  refine then_normal ?_
  refine wp_seq ?_
  refine cond_of hE559 (b := decide (((k : Nat) : Int) < ((l.length : Nat) : Int))) (by kernel_rfl) (fun hc560 => ?_) (fun hc560 => ?_)
  ·
    have hf561 := of_decide_eq_true hc560
    refine wp_skip ?_
    refine then_normal ?_
    refine wp_seq ?_
    refine wp_block ?_
    refine go_seq_region [0, 1, 2, 3] (by kernel_rfl) ?_
    obtain ⟨b562, o563, hA564, hl565, hat566⟩ := Slots.get h1 (i := k) (by omega)
    obtain ⟨x567, he568⟩ : ∃ x, l[k]? = some x := ⟨_, List.getElem?_eq_getElem (by omega)⟩
    have hr569 := h2 k x567 he568
    obtain ⟨k570, y571, y572, y573, y574, y575, y576, l577, A578, c579, xs580, rfl, hcs581, h582, h583⟩ := hr569.open_
    rw [hcs581] at hr569
    have hsm584 := h582.small
    rw [hcs581] at hat566
    refine of_op (wpOp_index hE559 (t := 29) (A := A) (m := l.length) (q := ((k : Nat) : Int)) (d := 10) (by kernel_rfl) (e := 50) (size := 8) (bytes := 80) (by kernel_rfl) hA564 rfl (by omega) fun a585 hE586 => ?_)
    clear hE559
    refine of_op (wpOp_load hE586 (t := 50) (b := b562) (o := o563 + k * 8) (d := 11) (by kernel_rfl) (cs := [.int .i64 k570, .int .i64 y571, .int .i64 y572, .int .i64 y573, .int .i64 y574, .int .i64 y575, .int .i64 y576, .slice A578 l577.length c579]) (v := .agg #[.int .i64 k570, .int .i64 y571, .int .i64 y572, .int .i64 y573, .int .i64 y574, .int .i64 y575, .int .i64 y576, .slice A578 l577.length c579]) (by kernel_rfl) (AtF.move hat566 hW553.step nilM keepF).at_ fun a587 hE588 => ?_)
    clear hE586
    refine of_op (wpOp_alloc hW553 hE588 (d := 5) (cs := [.int .i64 0, .int .i64 0, .int .i64 0, .int .i64 0, .int .i64 0, .int .i64 0, .int .i64 0, .slice none 0 0]) (by kernel_rfl) fun b589 a590 w591 hb592 hz593 hF594 hW595 hE596 => ?_)
    clear hE588 hW553
    refine of_op (wpOp_store hW595 hE596 (oi := 0) (cs := [.int .i64 k570, .int .i64 y571, .int .i64 y572, .int .i64 y573, .int .i64 y574, .int .i64 y575, .int .i64 y576, .slice A578 l577.length c579]) (by kernel_rfl) fun w597 hF598 hW599 hE600 => ?_)
    clear hE596 hW595
    refine wpOps_nil ?_
    refine then_normal ?_
    refine go_seq_region [0, 1, 2] (by kernel_rfl) ?_
    refine go_runs [0, 1, 2] [] [3, 5, 6, 7, 8, 14] hW599 hE600 (env' := [(3, .v (.int .u32 (knownI (l.take k)))), (5, .p 0 0), (6, .v (.slice A l.length c)), (7, .v (.int .i64 ((l.length : Nat) : Int))), (8, .v (.int .i64 ((k : Nat) : Int))), (14, .v (.bool (decide (y574 ≥ 0))))]) (by kernel_rfl) rfl fun a601 hE602 => ?_
    clear hE600
    refine wpOps_nil ?_
    refine then_normal ?_
    refine cond_of hE602 (b := decide (y574 ≥ 0)) (by kernel_rfl) (fun hc603 => ?_) (fun hc603 => ?_)
    ·
      have hf604 := of_decide_eq_true hc603
      refine go_region [0, 1, 2, 3, 4, 5, 6] (by kernel_rfl) ?_
      refine go_runs [0, 1, 2, 3, 4, 5, 6] [] [3, 6, 7, 8] hW599 hE602 (env' := [(3, .v (.int .u32 (if IntKind.u32.wrap ((IntKind.u32.wrap y574) + 1) > knownI (l.take k) then IntKind.u32.wrap ((IntKind.u32.wrap y574) + 1) else knownI (l.take k)))), (6, .v (.slice A l.length c)), (7, .v (.int .i64 ((l.length : Nat) : Int))), (8, .v (.int .i64 ((k : Nat) : Int)))]) (by kernel_rfl) rfl fun a605 hE606 => ?_
      clear hE602
      refine wpOps_nil ?_
      refine block_normal ?_
      refine then_normal ?_
      refine go_region [0, 1] (by kernel_rfl) ?_
      refine go_runs [0, 1] [] [3, 6, 7, 8] hW599 hE606 (env' := [(3, .v (.int .u32 (if IntKind.u32.wrap ((IntKind.u32.wrap y574) + 1) > knownI (l.take k) then IntKind.u32.wrap ((IntKind.u32.wrap y574) + 1) else knownI (l.take k)))), (6, .v (.slice A l.length c)), (7, .v (.int .i64 ((l.length : Nat) : Int))), (8, .v (.int .i64 (IntKind.i64.wrap (((k : Nat) : Int) + 1))))]) (by kernel_rfl) rfl fun a607 hE608 => ?_
      clear hE606
      refine wpOps_nil ?_
      refine then_normal ?_
      have hE609 := EnvOk.pick hE608 (ks := [3, 6, 7, 8]) (env' := [(3, .v (.int .u32 (if IntKind.u32.wrap ((IntKind.u32.wrap y574) + 1) > knownI (l.take k) then IntKind.u32.wrap ((IntKind.u32.wrap y574) + 1) else knownI (l.take k)))), (6, .v (.slice A l.length c)), (7, .v (.int .i64 ((l.length : Nat) : Int))), (8, .v (.int .i64 (IntKind.i64.wrap (((k : Nat) : Int) + 1))))]) (by kernel_rfl)
      have hE610 : EnvOk 23 [] _ _ := hE609.cutTb 0 (by kernel_rfl)
      have hW611 : WOk _ _ _ [] _ := hW599.cutTb 0
      have hF612 : Fr _ _ _ _ [] _ := Fr.cutTb w597 [⟨b589, 0, [.int .i64 k570, .int .i64 y571, .int .i64 y572, .int .i64 y573, .int .i64 y574, .int .i64 y575, .int .i64 y576, .slice A578 l577.length c579], true⟩] [] 0
      have hE613 := EnvOk.pick hE610 (ks := [3, 6, 7, 8]) (env' := [(3, .v (.int .u32 (if IntKind.u32.wrap ((IntKind.u32.wrap y574) + 1) > knownI (l.take k) then IntKind.u32.wrap ((IntKind.u32.wrap y574) + 1) else knownI (l.take k)))), (6, .v (.slice A l.length c)), (7, .v (.int .i64 ((l.length : Nat) : Int))), (8, .v (.int .i64 (IntKind.i64.wrap (((k : Nat) : Int) + 1))))]) (by kernel_rfl)
      have he614 : IntKind.i64.wrap (((k : Nat) : Int) + 1) = ((k + 1 : Nat) : Int) := wrap_succ (by omega)
      rw [he614] at hE613
      have he615 : (if IntKind.u32.wrap ((IntKind.u32.wrap y574) + 1) > knownI (l.take k) then IntKind.u32.wrap ((IntKind.u32.wrap y574) + 1) else knownI (l.take k)) = knownI (l.take (k + 1)) := known_pos he568 hf604
      rw [he615] at hE613
      exact ⟨l.length - (k + 1), by omega, k + 1, rfl, by omega, hE613, hW611, (Fr.trans (Fr.trans (Fr.trans hF556 hF594) hF598) hF612)⟩
    ·
      have hf616 := of_decide_eq_false hc603
      refine wp_skip ?_
      refine block_normal ?_
      refine then_normal ?_
      refine go_region [0, 1] (by kernel_rfl) ?_
      refine go_runs [0, 1] [] [3, 6, 7, 8] hW599 hE602 (env' := [(3, .v (.int .u32 (knownI (l.take k)))), (6, .v (.slice A l.length c)), (7, .v (.int .i64 ((l.length : Nat) : Int))), (8, .v (.int .i64 (IntKind.i64.wrap (((k : Nat) : Int) + 1))))]) (by kernel_rfl) rfl fun a617 hE618 => ?_
      clear hE602
      refine wpOps_nil ?_
      refine then_normal ?_
      have hE619 := EnvOk.pick hE618 (ks := [3, 6, 7, 8]) (env' := [(3, .v (.int .u32 (knownI (l.take k)))), (6, .v (.slice A l.length c)), (7, .v (.int .i64 ((l.length : Nat) : Int))), (8, .v (.int .i64 (IntKind.i64.wrap (((k : Nat) : Int) + 1))))]) (by kernel_rfl)
      have hE620 : EnvOk 23 [] _ _ := hE619.cutTb 0 (by kernel_rfl)
      have hW621 : WOk _ _ _ [] _ := hW599.cutTb 0
      have hF622 : Fr _ _ _ _ [] _ := Fr.cutTb w597 [⟨b589, 0, [.int .i64 k570, .int .i64 y571, .int .i64 y572, .int .i64 y573, .int .i64 y574, .int .i64 y575, .int .i64 y576, .slice A578 l577.length c579], true⟩] [] 0
      have hE623 := EnvOk.pick hE620 (ks := [3, 6, 7, 8]) (env' := [(3, .v (.int .u32 (knownI (l.take k)))), (6, .v (.slice A l.length c)), (7, .v (.int .i64 ((l.length : Nat) : Int))), (8, .v (.int .i64 (IntKind.i64.wrap (((k : Nat) : Int) + 1))))]) (by kernel_rfl)
      have he624 : IntKind.i64.wrap (((k : Nat) : Int) + 1) = ((k + 1 : Nat) : Int) := wrap_succ (by omega)
      rw [he624] at hE623
      have he625 : knownI (l.take k) = knownI (l.take (k + 1)) := known_neg he568 hf616
      rw [he625] at hE623
      exact ⟨l.length - (k + 1), by omega, k + 1, rfl, by omega, hE623, hW621, (Fr.trans (Fr.trans (Fr.trans hF556 hF594) hF598) hF622)⟩
  ·
    have hf626 := of_decide_eq_false hc560
    refine wp_exit ?_
    refine then_exit ?_
    refine then_exit ?_
    refine block_exit ?_
    refine then_normal ?_
    refine go_seq_region [0, 1] (by kernel_rfl) ?_
    refine go_runs [0, 1] [] [2] hW553 hE559 (env' := [(2, .v (.int .u32 (knownI (l.take k))))]) (by kernel_rfl) rfl fun a627 hE628 => ?_
    clear hE559
    refine wpOps_nil ?_
    refine then_normal ?_
    refine wp_ret ?_
    refine leave hE628 hW553.cells (v := .int .u32 (knownI (l.take k))) (by kernel_rfl) ?_
    exact ⟨by rw [List.take_of_length_le (by omega)], hW553.step⟩

/-- the writing of a part whose fields are at most d deep -/
def PartOK (d : Nat) : Prop := ∀ (A : Option Addr) (c : Nat) (l : List Fld) (v : Int) (flex : Bool) (ct : List Value) (t : Tree) (w : World) (F : Nat → Nat → Prop), FldsR w F A c l → depths l ≤ d → TreeR w F ct t → (partB d l v flex t).length ≤ 1099511627776 →
    Calls Try.prog 51 #[.slice A l.length c, .int .i64 v, .bool flex, .agg ct.toArray] w (FreshB w 5 (partB d l v flex t))

theorem sValue {d : Nat} (hp : PartOK d) (kind : Int) (A : Option Addr) (c : Nat) (l : List Fld) (null : Bool) (v : Int) (flex : Bool) (ct : List Value) (t : Tree) (w : World) (F : Nat → Nat → Prop) (hl : FldsR w F A c l) (hd : depths l ≤ d) (ht : TreeR w F ct t) (hroom : (valueB (partB d l v flex) kind null flex t).length ≤ 1099511627776) :
    Calls Try.prog 145 #[.int .i64 kind, .slice A l.length c, .bool null, .int .i64 v, .bool flex, .agg ct.toArray] w (FreshB w 5 (valueB (partB d l v flex) kind null flex t)) := by
  obtain ⟨n629, s630, b631, l632, u633, A634, c635, A636, c637, A638, c639, xs640, rfl, rfl, h642, h643, h644, h645⟩ := ht.open_
  have hsm647 := h642.small
  have hsm648 := h643.small
  have hl0 := hl
  obtain ⟨xfs, h1, h2⟩ := hl.ex
  have hsm := h1.small
  refine enter (n := 70) Try.func145 rfl Try.ntmps145 (by kernel_rfl) fun a hE => ?_
  have hW := WOk.start w Nil
  refine go_seq_region [0, 1] (by kernel_rfl) ?_
  refine of_op (wpOp_box hW hE (d := 11) (cs := [.int .i64 n629, .slice A634 s630.length c635, .bool b631, .slice A636 l632.length c637, .slice A638 u633.length c639]) (by kernel_rfl) fun b649 a650 w651 hb652 hz653 hF654 hW655 hE656 => ?_)
  clear hE hW
  refine go_runs [1] [] [0, 1, 2, 3, 4, 11] hW655 hE656 (env' := [(0, .v (.int .i64 kind)), (1, .v (.slice A l.length c)), (2, .v (.bool null)), (3, .v (.int .i64 v)), (4, .v (.bool flex)), (11, .p 0 0)]) (by kernel_rfl) rfl fun a657 hE658 => ?_
  clear hE656
  refine wpOps_nil ?_
  refine then_normal ?_
  refine wp_seq ?_
  refine go_seq_region [0] (by kernel_rfl) ?_
  refine go_runs [0] [] [0, 1, 2, 3, 4, 11, 16] hW655 hE658 (env' := [(0, .v (.int .i64 kind)), (1, .v (.slice A l.length c)), (2, .v (.bool null)), (3, .v (.int .i64 v)), (4, .v (.bool flex)), (11, .p 0 0), (16, .v (.int .i64 kind))]) (by kernel_rfl) rfl fun a659 hE660 => ?_
  clear hE658
  refine wpOps_nil ?_
  refine then_normal ?_
  refine wp_block ?_
  refine go_seq_region [0, 1] (by kernel_rfl) ?_
  refine go_runs [0, 1] [] [0, 1, 2, 3, 4, 11, 16, 17] hW655 hE660 (env' := [(0, .v (.int .i64 kind)), (1, .v (.slice A l.length c)), (2, .v (.bool null)), (3, .v (.int .i64 v)), (4, .v (.bool flex)), (11, .p 0 0), (16, .v (.int .i64 kind)), (17, .v (.bool (kind == 0)))]) (by kernel_rfl) rfl fun a661 hE662 => ?_
  clear hE660
  refine wpOps_nil ?_
  refine then_normal ?_
  refine cond_of hE662 (b := kind == 0) (by kernel_rfl) (fun hc663 => ?_) (fun hc663 => ?_)
  ·
    have hf664 : kind = 0 := by simpa using hc663
    refine go_seq_region [0, 1, 2, 3, 4, 5] (by kernel_rfl) ?_
    refine go_runs [0, 1, 2, 3] [4, 5] [22] hW655 hE662 (env' := [(22, .v (.int .u8 (IntKind.u8.wrap (IntKind.i64.wrap (BitVec.ofInt 64 n629 &&& BitVec.ofInt 64 1).toNat))))]) (by kernel_rfl) rfl fun a665 hE666 => ?_
    clear hE662
    refine of_op (wpOp_lit hW655 hE666 (e := 5) (size := 1) (len := 1) (cs := [.int .u8 (IntKind.u8.wrap (IntKind.i64.wrap (BitVec.ofInt 64 n629 &&& BitVec.ofInt 64 1).toNat))]) (d := 23) (by kernel_rfl) (by kernel_rfl) fun b667 a668 w669 hb670 hz671 hF672 hW673 hE674 => ?_)
    clear hE666 hW655
    have er675 : (⟨some ⟨b667, 0, none⟩, 1, 5, 1, 1, [.int .u8 (IntKind.u8.wrap (IntKind.i64.wrap (BitVec.ofInt 64 n629 &&& BitVec.ofInt 64 1).toNat))]⟩ : Rw) = brow (some ⟨b667, 0, none⟩) 1 5 [by8 (IntKind.i64.wrap (BitVec.ofInt 64 n629 &&& BitVec.ofInt 64 1).toNat)] := by first | rfl | (simp only [brow, bc, List.map, by8_wrap]; try rfl)
    have hW676 : WOk _ _ _ _ [brow (some ⟨b667, 0, none⟩) 1 5 [by8 (IntKind.i64.wrap (BitVec.ofInt 64 n629 &&& BitVec.ofInt 64 1).toNat)]] := hW673.castR (congrArg (fun r_ => List.set [⟨some ⟨b667, 0, none⟩, 1, 5, 1, 1, [.int .u8 (IntKind.u8.wrap (IntKind.i64.wrap (BitVec.ofInt 64 n629 &&& BitVec.ofInt 64 1).toNat))]⟩] 0 r_) er675)
    have hF678 : Fr w669 [⟨b649, 0, [.int .i64 n629, .slice A634 s630.length c635, .bool b631, .slice A636 l632.length c637, .slice A638 u633.length c639], true⟩] [⟨some ⟨b667, 0, none⟩, 1, 5, 1, 1, [.int .u8 (IntKind.u8.wrap (IntKind.i64.wrap (BitVec.ofInt 64 n629 &&& BitVec.ofInt 64 1).toNat))]⟩] w669 [⟨b649, 0, [.int .i64 n629, .slice A634 s630.length c635, .bool b631, .slice A636 l632.length c637, .slice A638 u633.length c639], true⟩] [brow (some ⟨b667, 0, none⟩) 1 5 [by8 (IntKind.i64.wrap (BitVec.ofInt 64 n629 &&& BitVec.ofInt 64 1).toNat)]] := Fr.castR (Fr.refl _ _ _) (congrArg (fun r_ => List.set [⟨some ⟨b667, 0, none⟩, 1, 5, 1, 1, [.int .u8 (IntKind.u8.wrap (IntKind.i64.wrap (BitVec.ofInt 64 n629 &&& BitVec.ofInt 64 1).toNat))]⟩] 0 r_) er675)
    clear hW673
    have hE680 := EnvOk.pick hE674 (ks := [22, 23]) (env' := [(22, .v (.int .u8 (IntKind.u8.wrap (IntKind.i64.wrap (BitVec.ofInt 64 n629 &&& BitVec.ofInt 64 1).toNat)))), (23, .v (.slice (some ⟨b667, 0, none⟩) 1 1))]) (by kernel_rfl)
    have hE679 := hE680.cast (env' := [(22, .v (.int .u8 (IntKind.u8.wrap (IntKind.i64.wrap (BitVec.ofInt 64 n629 &&& BitVec.ofInt 64 1).toNat)))), (23, .v (.slice (some ⟨b667, 0, none⟩) ([by8 (IntKind.i64.wrap (BitVec.ofInt 64 n629 &&& BitVec.ofInt 64 1).toNat)].length) 1))]) rfl
    clear hE674 hE680
    refine go_runs [5] [] [12] hW676 hE679 (env' := [(12, .v (.slice (some ⟨b667, 0, none⟩) ([by8 (IntKind.i64.wrap (BitVec.ofInt 64 n629 &&& BitVec.ofInt 64 1).toNat)].length) 1))]) (by kernel_rfl) rfl fun a681 hE682 => ?_
    clear hE679
    refine wpOps_nil ?_
    refine then_normal ?_
    refine wp_ret ?_
    refine block_ret ?_
    refine then_ret ?_
    refine leave hE682 hW676.cells (v := .slice (some ⟨b667, 0, none⟩) ([by8 (IntKind.i64.wrap (BitVec.ofInt 64 n629 &&& BitVec.ofInt 64 1).toNat)].length) 1) (by kernel_rfl) ?_
    exact fresh_end hW676 (k := 0) rfl (by (try simp only [and1]); simp [valueB, Tree.S, Tree.N, hf664, hc663])
  ·
    have hf683 : kind ≠ 0 := by simpa using hc663
    refine go_seq_region [0, 1] (by kernel_rfl) ?_
    refine go_runs [0, 1] [] [0, 1, 2, 3, 4, 11, 16, 24] hW655 hE662 (env' := [(0, .v (.int .i64 kind)), (1, .v (.slice A l.length c)), (2, .v (.bool null)), (3, .v (.int .i64 v)), (4, .v (.bool flex)), (11, .p 0 0), (16, .v (.int .i64 kind)), (24, .v (.bool (kind == 7)))]) (by kernel_rfl) rfl fun a684 hE685 => ?_
    clear hE662
    refine wpOps_nil ?_
    refine then_normal ?_
    refine cond_of hE685 (b := kind == 7) (by kernel_rfl) (fun hc686 => ?_) (fun hc686 => ?_)
    ·
      have hf687 : kind = 7 := by simpa using hc686
      refine go_seq_region [0, 1] (by kernel_rfl) ?_
      refine of_op (wpOp_make1 hW655 hE685 (d := 26) (j := 16) (t := 22) (e := 5) (bytes := 1) (z := .int .u8 0) (by kernel_rfl) (by kernel_rfl) (by kernel_rfl) (by kernel_rfl) (rfl) (rfl) (by omega) fun b688 a689 w690 hb691 hz692 hF693 hW694 hE695 => ?_)
      clear hE685 hW655
      refine go_runs [1] [] [11, 13] hW694 hE695 (env' := [(11, .p 0 0), (13, .v (.slice (some ⟨b688, 0, none⟩) 16 16))]) (by kernel_rfl) rfl fun a696 hE697 => ?_
      clear hE695
      refine wpOps_nil ?_
      refine then_normal ?_
      refine go_seq_region [0, 1, 2, 3] (by kernel_rfl) ?_
      refine go_runs [0, 1, 2] [3] [13, 27, 29] hW694 hE697 (env' := [(13, .v (.slice (some ⟨b688, 0, none⟩) 16 16)), (27, .v (.slice (some ⟨b688, 0, none⟩) 16 16)), (29, .v (.slice A634 s630.length c635))]) (by kernel_rfl) rfl fun a698 hE699 => ?_
      clear hE697
      refine of_op (wpOp_copyR hW694 hE699 (k := 0) (d := 30) (t := 22) (u := 22) (e := 5) (bytes := 1) (A := (some ⟨b688, 0, none⟩)) (As := A634) (m := s630.length) (cs := c635) (m0 := 16) (c := 16) (xs := (List.replicate 16 (.int .u8 0))) (news := bc s630) (by kernel_rfl) (by kernel_rfl) rfl (h642.move hW694.step nilM hW694.imm).src fun a700 w701 hF702 hW703 hE704 => ?_)
      clear hE699 hW694
      have er705 : (⟨(some ⟨b688, 0, none⟩), 16, 5, 1, 16, splice (List.replicate 16 (.int .u8 0)) 0 ((bc s630).take (min s630.length 16))⟩ : Rw) = brow (some ⟨b688, 0, none⟩) 16 5 (uuidB s630) := uuid_row _ _ _
      have hW706 : WOk _ _ _ _ [brow (some ⟨b688, 0, none⟩) 16 5 (uuidB s630)] := hW703.castR (congrArg (fun r_ => List.set [⟨(some ⟨b688, 0, none⟩), 16, 5, 1, 16, splice (List.replicate 16 (.int .u8 0)) 0 ((bc s630).take (min s630.length 16))⟩] 0 r_) er705)
      have hF708 : Fr w701 [⟨b649, 0, [.int .i64 n629, .slice A634 s630.length c635, .bool b631, .slice A636 l632.length c637, .slice A638 u633.length c639], true⟩] [⟨(some ⟨b688, 0, none⟩), 16, 5, 1, 16, splice (List.replicate 16 (.int .u8 0)) 0 ((bc s630).take (min s630.length 16))⟩] w701 [⟨b649, 0, [.int .i64 n629, .slice A634 s630.length c635, .bool b631, .slice A636 l632.length c637, .slice A638 u633.length c639], true⟩] [brow (some ⟨b688, 0, none⟩) 16 5 (uuidB s630)] := Fr.castR (Fr.refl _ _ _) (congrArg (fun r_ => List.set [⟨(some ⟨b688, 0, none⟩), 16, 5, 1, 16, splice (List.replicate 16 (.int .u8 0)) 0 ((bc s630).take (min s630.length 16))⟩] 0 r_) er705)
      clear hW703
      have hE710 := EnvOk.pick hE704 (ks := [13, 27, 29, 30]) (env' := [(13, .v (.slice (some ⟨b688, 0, none⟩) 16 16)), (27, .v (.slice (some ⟨b688, 0, none⟩) 16 16)), (29, .v (.slice A634 s630.length c635)), (30, .v (.int .i64 ((min s630.length 16 : Nat) : Int)))]) (by kernel_rfl)
      have hE709 := hE710.cast (env' := [(13, .v (.slice (some ⟨b688, 0, none⟩) ((uuidB s630).length) 16)), (27, .v (.slice (some ⟨b688, 0, none⟩) ((uuidB s630).length) 16)), (29, .v (.slice A634 s630.length c635)), (30, .v (.int .i64 ((min s630.length 16 : Nat) : Int)))]) (by rw [uuidB_length _])
      clear hE704 hE710
      refine wpOps_nil ?_
      refine then_normal ?_
      refine go_seq_region [0, 1] (by kernel_rfl) ?_
      refine go_runs [0, 1] [] [12] hW706 hE709 (env' := [(12, .v (.slice (some ⟨b688, 0, none⟩) ((uuidB s630).length) 16))]) (by kernel_rfl) rfl fun a711 hE712 => ?_
      clear hE709
      refine wpOps_nil ?_
      refine then_normal ?_
      refine wp_ret ?_
      refine block_ret ?_
      refine then_ret ?_
      refine leave hE712 hW706.cells (v := .slice (some ⟨b688, 0, none⟩) ((uuidB s630).length) 16) (by kernel_rfl) ?_
      exact fresh_end hW706 (k := 0) rfl (by (try simp only [and1]); simp [valueB, Tree.S, Tree.N, hf683, hf687, hc663, hc686])
    ·
      have hf713 : kind ≠ 7 := by simpa using hc686
      refine go_seq_region [0, 1] (by kernel_rfl) ?_
      refine go_runs [0, 1] [] [0, 1, 2, 3, 4, 11, 16, 32] hW655 hE685 (env' := [(0, .v (.int .i64 kind)), (1, .v (.slice A l.length c)), (2, .v (.bool null)), (3, .v (.int .i64 v)), (4, .v (.bool flex)), (11, .p 0 0), (16, .v (.int .i64 kind)), (32, .v (.bool (kind == 8)))]) (by kernel_rfl) rfl fun a714 hE715 => ?_
      clear hE685
      refine wpOps_nil ?_
      refine then_normal ?_
      refine cond_of hE715 (b := kind == 8) (by kernel_rfl) (fun hc716 => ?_) (fun hc716 => ?_)
      ·
        have hf717 : kind = 8 := by simpa using hc716
        refine go_seq_region [0, 1, 2, 3] (by kernel_rfl) ?_
        refine go_runs [0, 1] [2, 3] [2, 4, 35] hW655 hE715 (env' := [(2, .v (.bool null)), (4, .v (.bool flex)), (35, .v (.slice A634 s630.length c635))]) (by kernel_rfl) rfl fun a718 hE719 => ?_
        clear hE715
        have hwl721 := whole_le s630
        refine of_op (wpOp_call hE719 (f := 50) (vs := [.slice A634 s630.length c635]) (d := 36) (by kernel_rfl) Try.call50 (sWhole _ _ s630 (h642.move hW655.step nilM hW655.imm).le _) ?_)
        rintro e_ w722 ⟨rfl, hs720⟩
        refine ⟨_, rfl, fun a723 hE724 => ?_⟩
        have hW725 := hW655.next_nil hs720
        have hF726 := Fr.nil [⟨b649, 0, [.int .i64 n629, .slice A634 s630.length c635, .bool b631, .slice A636 l632.length c637, .slice A638 u633.length c639], true⟩] [] hs720
        clear hE719 hW655
        refine go_runs [3] [] [2, 4, 14] hW725 hE724 (env' := [(2, .v (.bool null)), (4, .v (.bool flex)), (14, .v (.slice A634 ((whole s630).length) c635))]) (by kernel_rfl) rfl fun a727 hE728 => ?_
        clear hE724
        refine wpOps_nil ?_
        refine then_normal ?_
        refine wp_seq ?_
        refine go_seq_region [0] (by kernel_rfl) ?_
        refine go_runs [0] [] [2, 4, 14, 37] hW725 hE728 (env' := [(2, .v (.bool null)), (4, .v (.bool flex)), (14, .v (.slice A634 ((whole s630).length) c635)), (37, .v (.bool null))]) (by kernel_rfl) rfl fun a729 hE730 => ?_
        clear hE728
        refine wpOps_nil ?_
        refine then_normal ?_
        refine cond_of hE730 (b := null) (by kernel_rfl) (fun hc731 => ?_) (fun hc731 => ?_)
        ·
          refine go_region [0] (by kernel_rfl) ?_
          refine go_runs [0] [] [2, 4, 14] hW725 hE730 (env' := [(2, .v (.bool null)), (4, .v (.bool flex)), (14, .v (.slice none 0 0))]) (by kernel_rfl) rfl fun a733 hE734 => ?_
          clear hE730
          refine wpOps_nil ?_
          refine then_normal ?_
          refine go_seq_region [0, 1, 2, 3, 4, 5, 6, 7] (by kernel_rfl) ?_
          refine go_runs [0, 1, 2, 3] [4, 5, 6, 7] [14, 38, 39, 41] hW725 hE734 (env' := [(14, .v (.slice none 0 0)), (38, .v (.bool flex)), (39, .v (.bool null)), (41, .v (.int .i64 0))]) (by kernel_rfl) rfl fun a735 hE736 => ?_
          clear hE734
          refine of_op (wpOp_call hE736 (f := 144) (vs := [.bool flex, .bool null, .int .i64 0, .int .i64 2]) (d := 42) (by kernel_rfl) Try.call144 (sCounted flex null 0 2 (by first | omega | exact Nat.le_trans (whole_le _) (by decide) | exact Nat.le_trans (things_le _) (by decide) | (simp; done) | (have := hroom; omega)) (by first | decide | omega) _) ?_)
          rintro e_ w741 ⟨A739, c740, rfl, ho738, hs737⟩
          refine ⟨_, rfl, fun a742 hE743 => ?_⟩
          have hW744 := hW725.fresh hs737 (brow A739 c740 5 (countedB flex null 0 2)) (Nat.le_refl _) ho738
          have hF745 := Fr.fresh [⟨b649, 0, [.int .i64 n629, .slice A634 s630.length c635, .bool b631, .slice A636 l632.length c637, .slice A638 u633.length c639], true⟩] [] hs737 (brow A739 c740 5 (countedB flex null 0 2)) (Nat.le_refl _) ho738
          clear hE736 hW725
          refine go_runs [5] [6, 7] [42, 43] hW744 hE743 (env' := [(42, .v (.slice A739 ((countedB flex null 0 2).length) c740)), (43, .v (.slice none 0 0))]) (by kernel_rfl) rfl fun a746 hE747 => ?_
          clear hE743
          refine of_op (wpOp_append hW744 hE747 (k := 0) (d := 44) (t := 22) (e := 5) (size := 1) (bytes := 1) (A := A739) (As := none) (m0 := ((countedB flex null 0 2).length)) (c := c740) (m := 0) (cs := 0) (xs := (bc (countedB flex null 0 2))) (news := bc ([] : Bs)) (by kernel_rfl) (by kernel_rfl) rfl (Octs.nil _ (fun _ _ => True)).src (fun _ => rfl) (by first | exact cw_room (by omega) (by decide) (by omega) | exact cw_room (Nat.le_trans (whole_le _) (by decide)) (by decide) (Nat.le_trans (whole_le _) (by decide)) | (simp; done)) fun A748 c749 a750 w751 hF752 hW753 hE754 => ?_)
          clear hE747 hW744
          have er755 : (⟨A748, c749, 5, 1, (countedB flex null 0 2).length + 0, bc (countedB flex null 0 2) ++ bc ([] : Bs)⟩ : Rw) = brow A748 c749 5 (countedB flex null 0 2 ++ ([] : Bs)) := brow_eq (rfl) rfl
          have hW756 : WOk _ _ _ _ [brow A748 c749 5 (countedB flex null 0 2 ++ ([] : Bs))] := hW753.castR (congrArg (fun r_ => List.set [⟨A748, c749, 5, 1, (countedB flex null 0 2).length + 0, bc (countedB flex null 0 2) ++ bc ([] : Bs)⟩] 0 r_) er755)
          have hF758 : Fr w751 [⟨b649, 0, [.int .i64 n629, .slice A634 s630.length c635, .bool b631, .slice A636 l632.length c637, .slice A638 u633.length c639], true⟩] [⟨A748, c749, 5, 1, (countedB flex null 0 2).length + 0, bc (countedB flex null 0 2) ++ bc ([] : Bs)⟩] w751 [⟨b649, 0, [.int .i64 n629, .slice A634 s630.length c635, .bool b631, .slice A636 l632.length c637, .slice A638 u633.length c639], true⟩] [brow A748 c749 5 (countedB flex null 0 2 ++ ([] : Bs))] := Fr.castR (Fr.refl _ _ _) (congrArg (fun r_ => List.set [⟨A748, c749, 5, 1, (countedB flex null 0 2).length + 0, bc (countedB flex null 0 2) ++ bc ([] : Bs)⟩] 0 r_) er755)
          clear hW753
          have hE759 := EnvOk.pick hE754 (ks := [42, 43, 44]) (env' := [(42, .v (.slice A739 ((countedB flex null 0 2).length) c740)), (43, .v (.slice none 0 0)), (44, .v (.slice A748 ((countedB flex null 0 2).length + 0) c749))]) (by kernel_rfl)
          have hE757 := hE759.cast (env' := [(42, .v (.slice A739 ((countedB flex null 0 2).length) c740)), (43, .v (.slice none 0 0)), (44, .v (.slice A748 ((countedB flex null 0 2 ++ ([] : Bs)).length) c749))]) (by simp only [List.length_append, List.length_cons, List.length_nil, Nat.zero_add])
          clear hE754
          clear hE759
          refine go_runs [7] [] [12] hW756 hE757 (env' := [(12, .v (.slice A748 ((countedB flex null 0 2 ++ ([] : Bs)).length) c749))]) (by kernel_rfl) rfl fun a760 hE761 => ?_
          clear hE757
          refine wpOps_nil ?_
          refine then_normal ?_
          refine wp_ret ?_
          refine block_ret ?_
          refine then_ret ?_
          refine leave hE761 hW756.cells (v := .slice A748 ((countedB flex null 0 2 ++ ([] : Bs)).length) c749) (by kernel_rfl) ?_
          exact fresh_end hW756 (k := 0) rfl (by (try simp only [and1]); simp [valueB, Tree.S, Tree.N, hf683, hf713, hf717, hc663, hc686, hc716, hc731])
        ·
          refine wp_skip ?_
          refine then_normal ?_
          refine go_seq_region [0, 1, 2, 3, 4, 5, 6, 7] (by kernel_rfl) ?_
          refine go_runs [0, 1, 2, 3] [4, 5, 6, 7] [14, 38, 39, 41] hW725 hE730 (env' := [(14, .v (.slice A634 ((whole s630).length) c635)), (38, .v (.bool flex)), (39, .v (.bool null)), (41, .v (.int .i64 (((whole s630).length : Nat) : Int)))]) (by kernel_rfl) rfl fun a763 hE764 => ?_
          clear hE730
          refine of_op (wpOp_call hE764 (f := 144) (vs := [.bool flex, .bool null, .int .i64 (((whole s630).length : Nat) : Int), .int .i64 2]) (d := 42) (by kernel_rfl) Try.call144 (sCounted flex null ((whole s630).length) 2 (by first | omega | exact Nat.le_trans (whole_le _) (by decide) | exact Nat.le_trans (things_le _) (by decide) | (simp; done) | (have := hroom; omega)) (by first | decide | omega) _) ?_)
          rintro e_ w769 ⟨A767, c768, rfl, ho766, hs765⟩
          refine ⟨_, rfl, fun a770 hE771 => ?_⟩
          have hW772 := hW725.fresh hs765 (brow A767 c768 5 (countedB flex null ((whole s630).length) 2)) (Nat.le_refl _) ho766
          have hF773 := Fr.fresh [⟨b649, 0, [.int .i64 n629, .slice A634 s630.length c635, .bool b631, .slice A636 l632.length c637, .slice A638 u633.length c639], true⟩] [] hs765 (brow A767 c768 5 (countedB flex null ((whole s630).length) 2)) (Nat.le_refl _) ho766
          clear hE764 hW725
          refine go_runs [5] [6, 7] [42, 43] hW772 hE771 (env' := [(42, .v (.slice A767 ((countedB flex null ((whole s630).length) 2).length) c768)), (43, .v (.slice A634 ((whole s630).length) c635))]) (by kernel_rfl) rfl fun a774 hE775 => ?_
          clear hE771
          refine of_op (wpOp_append hW772 hE775 (k := 0) (d := 44) (t := 22) (e := 5) (size := 1) (bytes := 1) (A := A767) (As := A634) (m0 := ((countedB flex null ((whole s630).length) 2).length)) (c := c768) (m := ((whole s630).length)) (cs := c635) (xs := (bc (countedB flex null ((whole s630).length) 2))) (news := bc (whole s630)) (by kernel_rfl) (by kernel_rfl) rfl ((h642.take 32767).move hW772.step nilM hW772.imm).src ((h642.take 32767).move hW772.step nilM hW772.imm).cap (by first | exact cw_room (by omega) (by decide) (by omega) | exact cw_room (Nat.le_trans (whole_le _) (by decide)) (by decide) (Nat.le_trans (whole_le _) (by decide)) | (simp; done)) fun A776 c777 a778 w779 hF780 hW781 hE782 => ?_)
          clear hE775 hW772
          have er783 : (⟨A776, c777, 5, 1, (countedB flex null ((whole s630).length) 2).length + (whole s630).length, bc (countedB flex null ((whole s630).length) 2) ++ bc (whole s630)⟩ : Rw) = brow A776 c777 5 (countedB flex null ((whole s630).length) 2 ++ (whole s630)) := brow_eq (rfl) rfl
          have hW784 : WOk _ _ _ _ [brow A776 c777 5 (countedB flex null ((whole s630).length) 2 ++ (whole s630))] := hW781.castR (congrArg (fun r_ => List.set [⟨A776, c777, 5, 1, (countedB flex null ((whole s630).length) 2).length + (whole s630).length, bc (countedB flex null ((whole s630).length) 2) ++ bc (whole s630)⟩] 0 r_) er783)
          have hF786 : Fr w779 [⟨b649, 0, [.int .i64 n629, .slice A634 s630.length c635, .bool b631, .slice A636 l632.length c637, .slice A638 u633.length c639], true⟩] [⟨A776, c777, 5, 1, (countedB flex null ((whole s630).length) 2).length + (whole s630).length, bc (countedB flex null ((whole s630).length) 2) ++ bc (whole s630)⟩] w779 [⟨b649, 0, [.int .i64 n629, .slice A634 s630.length c635, .bool b631, .slice A636 l632.length c637, .slice A638 u633.length c639], true⟩] [brow A776 c777 5 (countedB flex null ((whole s630).length) 2 ++ (whole s630))] := Fr.castR (Fr.refl _ _ _) (congrArg (fun r_ => List.set [⟨A776, c777, 5, 1, (countedB flex null ((whole s630).length) 2).length + (whole s630).length, bc (countedB flex null ((whole s630).length) 2) ++ bc (whole s630)⟩] 0 r_) er783)
          clear hW781
          have hE787 := EnvOk.pick hE782 (ks := [42, 43, 44]) (env' := [(42, .v (.slice A767 ((countedB flex null ((whole s630).length) 2).length) c768)), (43, .v (.slice A634 ((whole s630).length) c635)), (44, .v (.slice A776 ((countedB flex null ((whole s630).length) 2).length + (whole s630).length) c777))]) (by kernel_rfl)
          have hE785 := hE787.cast (env' := [(42, .v (.slice A767 ((countedB flex null ((whole s630).length) 2).length) c768)), (43, .v (.slice A634 ((whole s630).length) c635)), (44, .v (.slice A776 ((countedB flex null ((whole s630).length) 2 ++ (whole s630)).length) c777))]) (by simp only [List.length_append, List.length_cons, List.length_nil, Nat.zero_add])
          clear hE782
          clear hE787
          refine go_runs [7] [] [12] hW784 hE785 (env' := [(12, .v (.slice A776 ((countedB flex null ((whole s630).length) 2 ++ (whole s630)).length) c777))]) (by kernel_rfl) rfl fun a788 hE789 => ?_
          clear hE785
          refine wpOps_nil ?_
          refine then_normal ?_
          refine wp_ret ?_
          refine block_ret ?_
          refine then_ret ?_
          refine leave hE789 hW784.cells (v := .slice A776 ((countedB flex null ((whole s630).length) 2 ++ (whole s630)).length) c777) (by kernel_rfl) ?_
          exact fresh_end hW784 (k := 0) rfl (by (try simp only [and1]); simp [valueB, Tree.S, Tree.N, hf683, hf713, hf717, hc663, hc686, hc716, hc731])
      ·
        have hf790 : kind ≠ 8 := by simpa using hc716
        refine go_seq_region [0, 1] (by kernel_rfl) ?_
        refine go_runs [0, 1] [] [0, 1, 2, 3, 4, 11, 16, 45] hW655 hE715 (env' := [(0, .v (.int .i64 kind)), (1, .v (.slice A l.length c)), (2, .v (.bool null)), (3, .v (.int .i64 v)), (4, .v (.bool flex)), (11, .p 0 0), (16, .v (.int .i64 kind)), (45, .v (.bool (kind == 9)))]) (by kernel_rfl) rfl fun a791 hE792 => ?_
        clear hE715
        refine wpOps_nil ?_
        refine then_normal ?_
        refine cond_of hE792 (b := kind == 9) (by kernel_rfl) (fun hc793 => ?_) (fun hc793 => ?_)
        ·
          have hf794 : kind = 9 := by simpa using hc793
          refine go_seq_region [0, 1, 2, 3] (by kernel_rfl) ?_
          refine go_runs [0, 1] [2, 3] [2, 4, 48] hW655 hE792 (env' := [(2, .v (.bool null)), (4, .v (.bool flex)), (48, .v (.slice A634 s630.length c635))]) (by kernel_rfl) rfl fun a795 hE796 => ?_
          clear hE792
          have hwl798 := whole_le s630
          refine of_op (wpOp_call hE796 (f := 50) (vs := [.slice A634 s630.length c635]) (d := 49) (by kernel_rfl) Try.call50 (sWhole _ _ s630 (h642.move hW655.step nilM hW655.imm).le _) ?_)
          rintro e_ w799 ⟨rfl, hs797⟩
          refine ⟨_, rfl, fun a800 hE801 => ?_⟩
          have hW802 := hW655.next_nil hs797
          have hF803 := Fr.nil [⟨b649, 0, [.int .i64 n629, .slice A634 s630.length c635, .bool b631, .slice A636 l632.length c637, .slice A638 u633.length c639], true⟩] [] hs797
          clear hE796 hW655
          refine go_runs [3] [] [2, 4, 15] hW802 hE801 (env' := [(2, .v (.bool null)), (4, .v (.bool flex)), (15, .v (.slice A634 ((whole s630).length) c635))]) (by kernel_rfl) rfl fun a804 hE805 => ?_
          clear hE801
          refine wpOps_nil ?_
          refine then_normal ?_
          refine wp_seq ?_
          refine go_seq_region [0] (by kernel_rfl) ?_
          refine go_runs [0] [] [2, 4, 15, 50] hW802 hE805 (env' := [(2, .v (.bool null)), (4, .v (.bool flex)), (15, .v (.slice A634 ((whole s630).length) c635)), (50, .v (.bool null))]) (by kernel_rfl) rfl fun a806 hE807 => ?_
          clear hE805
          refine wpOps_nil ?_
          refine then_normal ?_
          refine cond_of hE807 (b := null) (by kernel_rfl) (fun hc808 => ?_) (fun hc808 => ?_)
          ·
            refine go_region [0] (by kernel_rfl) ?_
            refine go_runs [0] [] [2, 4, 15] hW802 hE807 (env' := [(2, .v (.bool null)), (4, .v (.bool flex)), (15, .v (.slice none 0 0))]) (by kernel_rfl) rfl fun a810 hE811 => ?_
            clear hE807
            refine wpOps_nil ?_
            refine then_normal ?_
            refine go_seq_region [0, 1, 2, 3, 4, 5, 6, 7] (by kernel_rfl) ?_
            refine go_runs [0, 1, 2, 3] [4, 5, 6, 7] [15, 51, 52, 54] hW802 hE811 (env' := [(15, .v (.slice none 0 0)), (51, .v (.bool flex)), (52, .v (.bool null)), (54, .v (.int .i64 0))]) (by kernel_rfl) rfl fun a812 hE813 => ?_
            clear hE811
            refine of_op (wpOp_call hE813 (f := 144) (vs := [.bool flex, .bool null, .int .i64 0, .int .i64 4]) (d := 55) (by kernel_rfl) Try.call144 (sCounted flex null 0 4 (by first | omega | exact Nat.le_trans (whole_le _) (by decide) | exact Nat.le_trans (things_le _) (by decide) | (simp; done) | (have := hroom; omega)) (by first | decide | omega) _) ?_)
            rintro e_ w818 ⟨A816, c817, rfl, ho815, hs814⟩
            refine ⟨_, rfl, fun a819 hE820 => ?_⟩
            have hW821 := hW802.fresh hs814 (brow A816 c817 5 (countedB flex null 0 4)) (Nat.le_refl _) ho815
            have hF822 := Fr.fresh [⟨b649, 0, [.int .i64 n629, .slice A634 s630.length c635, .bool b631, .slice A636 l632.length c637, .slice A638 u633.length c639], true⟩] [] hs814 (brow A816 c817 5 (countedB flex null 0 4)) (Nat.le_refl _) ho815
            clear hE813 hW802
            refine go_runs [5] [6, 7] [55, 56] hW821 hE820 (env' := [(55, .v (.slice A816 ((countedB flex null 0 4).length) c817)), (56, .v (.slice none 0 0))]) (by kernel_rfl) rfl fun a823 hE824 => ?_
            clear hE820
            refine of_op (wpOp_append hW821 hE824 (k := 0) (d := 57) (t := 22) (e := 5) (size := 1) (bytes := 1) (A := A816) (As := none) (m0 := ((countedB flex null 0 4).length)) (c := c817) (m := 0) (cs := 0) (xs := (bc (countedB flex null 0 4))) (news := bc ([] : Bs)) (by kernel_rfl) (by kernel_rfl) rfl (Octs.nil _ (fun _ _ => True)).src (fun _ => rfl) (by first | exact cw_room (by omega) (by decide) (by omega) | exact cw_room (Nat.le_trans (whole_le _) (by decide)) (by decide) (Nat.le_trans (whole_le _) (by decide)) | (simp; done)) fun A825 c826 a827 w828 hF829 hW830 hE831 => ?_)
            clear hE824 hW821
            have er832 : (⟨A825, c826, 5, 1, (countedB flex null 0 4).length + 0, bc (countedB flex null 0 4) ++ bc ([] : Bs)⟩ : Rw) = brow A825 c826 5 (countedB flex null 0 4 ++ ([] : Bs)) := brow_eq (rfl) rfl
            have hW833 : WOk _ _ _ _ [brow A825 c826 5 (countedB flex null 0 4 ++ ([] : Bs))] := hW830.castR (congrArg (fun r_ => List.set [⟨A825, c826, 5, 1, (countedB flex null 0 4).length + 0, bc (countedB flex null 0 4) ++ bc ([] : Bs)⟩] 0 r_) er832)
            have hF835 : Fr w828 [⟨b649, 0, [.int .i64 n629, .slice A634 s630.length c635, .bool b631, .slice A636 l632.length c637, .slice A638 u633.length c639], true⟩] [⟨A825, c826, 5, 1, (countedB flex null 0 4).length + 0, bc (countedB flex null 0 4) ++ bc ([] : Bs)⟩] w828 [⟨b649, 0, [.int .i64 n629, .slice A634 s630.length c635, .bool b631, .slice A636 l632.length c637, .slice A638 u633.length c639], true⟩] [brow A825 c826 5 (countedB flex null 0 4 ++ ([] : Bs))] := Fr.castR (Fr.refl _ _ _) (congrArg (fun r_ => List.set [⟨A825, c826, 5, 1, (countedB flex null 0 4).length + 0, bc (countedB flex null 0 4) ++ bc ([] : Bs)⟩] 0 r_) er832)
            clear hW830
            have hE836 := EnvOk.pick hE831 (ks := [55, 56, 57]) (env' := [(55, .v (.slice A816 ((countedB flex null 0 4).length) c817)), (56, .v (.slice none 0 0)), (57, .v (.slice A825 ((countedB flex null 0 4).length + 0) c826))]) (by kernel_rfl)
            have hE834 := hE836.cast (env' := [(55, .v (.slice A816 ((countedB flex null 0 4).length) c817)), (56, .v (.slice none 0 0)), (57, .v (.slice A825 ((countedB flex null 0 4 ++ ([] : Bs)).length) c826))]) (by simp only [List.length_append, List.length_cons, List.length_nil, Nat.zero_add])
            clear hE831
            clear hE836
            refine go_runs [7] [] [12] hW833 hE834 (env' := [(12, .v (.slice A825 ((countedB flex null 0 4 ++ ([] : Bs)).length) c826))]) (by kernel_rfl) rfl fun a837 hE838 => ?_
            clear hE834
            refine wpOps_nil ?_
            refine then_normal ?_
            refine wp_ret ?_
            refine block_ret ?_
            refine then_ret ?_
            refine leave hE838 hW833.cells (v := .slice A825 ((countedB flex null 0 4 ++ ([] : Bs)).length) c826) (by kernel_rfl) ?_
            exact fresh_end hW833 (k := 0) rfl (by (try simp only [and1]); simp [valueB, Tree.S, Tree.N, hf683, hf713, hf790, hf794, hc663, hc686, hc716, hc793, hc808])
          ·
            refine wp_skip ?_
            refine then_normal ?_
            refine go_seq_region [0, 1, 2, 3, 4, 5, 6, 7] (by kernel_rfl) ?_
            refine go_runs [0, 1, 2, 3] [4, 5, 6, 7] [15, 51, 52, 54] hW802 hE807 (env' := [(15, .v (.slice A634 ((whole s630).length) c635)), (51, .v (.bool flex)), (52, .v (.bool null)), (54, .v (.int .i64 (((whole s630).length : Nat) : Int)))]) (by kernel_rfl) rfl fun a840 hE841 => ?_
            clear hE807
            refine of_op (wpOp_call hE841 (f := 144) (vs := [.bool flex, .bool null, .int .i64 (((whole s630).length : Nat) : Int), .int .i64 4]) (d := 55) (by kernel_rfl) Try.call144 (sCounted flex null ((whole s630).length) 4 (by first | omega | exact Nat.le_trans (whole_le _) (by decide) | exact Nat.le_trans (things_le _) (by decide) | (simp; done) | (have := hroom; omega)) (by first | decide | omega) _) ?_)
            rintro e_ w846 ⟨A844, c845, rfl, ho843, hs842⟩
            refine ⟨_, rfl, fun a847 hE848 => ?_⟩
            have hW849 := hW802.fresh hs842 (brow A844 c845 5 (countedB flex null ((whole s630).length) 4)) (Nat.le_refl _) ho843
            have hF850 := Fr.fresh [⟨b649, 0, [.int .i64 n629, .slice A634 s630.length c635, .bool b631, .slice A636 l632.length c637, .slice A638 u633.length c639], true⟩] [] hs842 (brow A844 c845 5 (countedB flex null ((whole s630).length) 4)) (Nat.le_refl _) ho843
            clear hE841 hW802
            refine go_runs [5] [6, 7] [55, 56] hW849 hE848 (env' := [(55, .v (.slice A844 ((countedB flex null ((whole s630).length) 4).length) c845)), (56, .v (.slice A634 ((whole s630).length) c635))]) (by kernel_rfl) rfl fun a851 hE852 => ?_
            clear hE848
            refine of_op (wpOp_append hW849 hE852 (k := 0) (d := 57) (t := 22) (e := 5) (size := 1) (bytes := 1) (A := A844) (As := A634) (m0 := ((countedB flex null ((whole s630).length) 4).length)) (c := c845) (m := ((whole s630).length)) (cs := c635) (xs := (bc (countedB flex null ((whole s630).length) 4))) (news := bc (whole s630)) (by kernel_rfl) (by kernel_rfl) rfl ((h642.take 32767).move hW849.step nilM hW849.imm).src ((h642.take 32767).move hW849.step nilM hW849.imm).cap (by first | exact cw_room (by omega) (by decide) (by omega) | exact cw_room (Nat.le_trans (whole_le _) (by decide)) (by decide) (Nat.le_trans (whole_le _) (by decide)) | (simp; done)) fun A853 c854 a855 w856 hF857 hW858 hE859 => ?_)
            clear hE852 hW849
            have er860 : (⟨A853, c854, 5, 1, (countedB flex null ((whole s630).length) 4).length + (whole s630).length, bc (countedB flex null ((whole s630).length) 4) ++ bc (whole s630)⟩ : Rw) = brow A853 c854 5 (countedB flex null ((whole s630).length) 4 ++ (whole s630)) := brow_eq (rfl) rfl
            have hW861 : WOk _ _ _ _ [brow A853 c854 5 (countedB flex null ((whole s630).length) 4 ++ (whole s630))] := hW858.castR (congrArg (fun r_ => List.set [⟨A853, c854, 5, 1, (countedB flex null ((whole s630).length) 4).length + (whole s630).length, bc (countedB flex null ((whole s630).length) 4) ++ bc (whole s630)⟩] 0 r_) er860)
            have hF863 : Fr w856 [⟨b649, 0, [.int .i64 n629, .slice A634 s630.length c635, .bool b631, .slice A636 l632.length c637, .slice A638 u633.length c639], true⟩] [⟨A853, c854, 5, 1, (countedB flex null ((whole s630).length) 4).length + (whole s630).length, bc (countedB flex null ((whole s630).length) 4) ++ bc (whole s630)⟩] w856 [⟨b649, 0, [.int .i64 n629, .slice A634 s630.length c635, .bool b631, .slice A636 l632.length c637, .slice A638 u633.length c639], true⟩] [brow A853 c854 5 (countedB flex null ((whole s630).length) 4 ++ (whole s630))] := Fr.castR (Fr.refl _ _ _) (congrArg (fun r_ => List.set [⟨A853, c854, 5, 1, (countedB flex null ((whole s630).length) 4).length + (whole s630).length, bc (countedB flex null ((whole s630).length) 4) ++ bc (whole s630)⟩] 0 r_) er860)
            clear hW858
            have hE864 := EnvOk.pick hE859 (ks := [55, 56, 57]) (env' := [(55, .v (.slice A844 ((countedB flex null ((whole s630).length) 4).length) c845)), (56, .v (.slice A634 ((whole s630).length) c635)), (57, .v (.slice A853 ((countedB flex null ((whole s630).length) 4).length + (whole s630).length) c854))]) (by kernel_rfl)
            have hE862 := hE864.cast (env' := [(55, .v (.slice A844 ((countedB flex null ((whole s630).length) 4).length) c845)), (56, .v (.slice A634 ((whole s630).length) c635)), (57, .v (.slice A853 ((countedB flex null ((whole s630).length) 4 ++ (whole s630)).length) c854))]) (by simp only [List.length_append, List.length_cons, List.length_nil, Nat.zero_add])
            clear hE859
            clear hE864
            refine go_runs [7] [] [12] hW861 hE862 (env' := [(12, .v (.slice A853 ((countedB flex null ((whole s630).length) 4 ++ (whole s630)).length) c854))]) (by kernel_rfl) rfl fun a865 hE866 => ?_
            clear hE862
            refine wpOps_nil ?_
            refine then_normal ?_
            refine wp_ret ?_
            refine block_ret ?_
            refine then_ret ?_
            refine leave hE866 hW861.cells (v := .slice A853 ((countedB flex null ((whole s630).length) 4 ++ (whole s630)).length) c854) (by kernel_rfl) ?_
            exact fresh_end hW861 (k := 0) rfl (by (try simp only [and1]); simp [valueB, Tree.S, Tree.N, hf683, hf713, hf790, hf794, hc663, hc686, hc716, hc793, hc808])
        ·
          have hf867 : kind ≠ 9 := by simpa using hc793
          refine go_seq_region [0, 1] (by kernel_rfl) ?_
          refine go_runs [0, 1] [] [0, 1, 3, 4, 11, 58] hW655 hE792 (env' := [(0, .v (.int .i64 kind)), (1, .v (.slice A l.length c)), (3, .v (.int .i64 v)), (4, .v (.bool flex)), (11, .p 0 0), (58, .v (.bool (kind == 10)))]) (by kernel_rfl) rfl fun a868 hE869 => ?_
          clear hE792
          refine wpOps_nil ?_
          refine then_normal ?_
          refine cond_of hE869 (b := kind == 10) (by kernel_rfl) (fun hc870 => ?_) (fun hc870 => ?_)
          ·
            have hf871 : kind = 10 := by simpa using hc870
            refine go_seq_region [0, 1, 2, 3, 4, 5] (by kernel_rfl) ?_
            refine go_runs [0, 1, 2, 3] [4, 5] [60, 61, 62, 63] hW655 hE869 (env' := [(60, .v (.slice A l.length c)), (61, .v (.int .i64 v)), (62, .v (.bool flex)), (63, .v (.agg #[.int .i64 n629, .slice A634 s630.length c635, .bool b631, .slice A636 l632.length c637, .slice A638 u633.length c639]))]) (by kernel_rfl) rfl fun a872 hE873 => ?_
            clear hE869
            refine of_op (wpOp_call hE873 (f := 51) (vs := [.slice A l.length c, .int .i64 v, .bool flex, .agg #[.int .i64 n629, .slice A634 s630.length c635, .bool b631, .slice A636 l632.length c637, .slice A638 u633.length c639]]) (d := 64) (by kernel_rfl) Try.call51 (hp _ _ l v flex _ (Tree.mk n629 s630 b631 l632 u633) _ _ ⟨xfs, (h1.move hW655.step nilM hW655.imm), (fun i_ x_ h_ => ((h2 i_ x_ h_).move hW655.step nilM hW655.imm))⟩ hd (ht.move hW655.step nilM hW655.imm) (by simpa [valueB, hf683, hf713, hf790, hf867, hf871, hc663, hc686, hc716, hc793, hc870] using hroom)) ?_)
            rintro e_ w878 ⟨A876, c877, rfl, ho875, hs874⟩
            refine ⟨_, rfl, fun a879 hE880 => ?_⟩
            have hW881 := hW655.fresh hs874 (brow A876 c877 5 (partB d l v flex (Tree.mk n629 s630 b631 l632 u633))) (Nat.le_refl _) ho875
            have hF882 := Fr.fresh [⟨b649, 0, [.int .i64 n629, .slice A634 s630.length c635, .bool b631, .slice A636 l632.length c637, .slice A638 u633.length c639], true⟩] [] hs874 (brow A876 c877 5 (partB d l v flex (Tree.mk n629 s630 b631 l632 u633))) (Nat.le_refl _) ho875
            clear hE873 hW655
            refine go_runs [5] [] [12] hW881 hE880 (env' := [(12, .v (.slice A876 ((partB d l v flex (Tree.mk n629 s630 b631 l632 u633)).length) c877))]) (by kernel_rfl) rfl fun a883 hE884 => ?_
            clear hE880
            refine wpOps_nil ?_
            refine then_normal ?_
            refine wp_ret ?_
            refine block_ret ?_
            refine then_ret ?_
            refine leave hE884 hW881.cells (v := .slice A876 ((partB d l v flex (Tree.mk n629 s630 b631 l632 u633)).length) c877) (by kernel_rfl) ?_
            exact fresh_end hW881 (k := 0) rfl (by (try simp only [and1]); simp [valueB, Tree.S, Tree.N, hf683, hf713, hf790, hf867, hf871, hc663, hc686, hc716, hc793, hc870])
          ·
            have hf885 : kind ≠ 10 := by simpa using hc870
            refine wp_skip ?_
            refine block_normal ?_
            refine then_normal ?_
            refine go_seq_drawK 5 (by kernel_rfl) hW655 fun w886 hF887 hW888 hT889 => ?_
            clear hW655
            refine go_runsD [0, 1, 2] [66, 67] 3 (by kernel_rfl) (panicFree_then panicFree_body) (fun _ h => h.cells) hT889 hE869 (by kernel_rfl) (env' := [(66, .v (.int .i64 n629)), (67, .v (.int .i64 kind))]) (by kernel_rfl) rfl fun a890 hE891 => ?_
            clear hE869
            refine anyC_op (i := 3) (by kernel_rfl) (wpOp_call hE891 (f := 147) (vs := [.int .i64 kind]) (d := 68) (by kernel_rfl) Try.call147 (sWidth kind _) ?_)
            rintro e_ w893 ⟨rfl, hs892⟩
            refine ⟨_, rfl, fun a894 hE895 => ?_⟩
            have hW896 := hW888.next_nil hs892
            have hF897 := Fr.nil [⟨b649, 0, [.int .i64 n629, .slice A634 s630.length c635, .bool b631, .slice A636 l632.length c637, .slice A638 u633.length c639], true⟩] [] hs892
            clear hE891
            have hT898 : TT w886 [⟨b649, 0, [.int .i64 n629, .slice A634 s630.length c635, .bool b631, .slice A636 l632.length c637, .slice A638 u633.length c639], true⟩] [] w893 := ⟨hW896.cells, hF897.step⟩
            refine ⟨fun _ => hT898, ?_⟩
            refine anyC_op (i := 4) (by kernel_rfl) (wpOp_call hE895 (f := 146) (vs := [.int .i64 n629, .int .i64 ((widthI kind : Nat) : Int)]) (d := 69) (by kernel_rfl) Try.call146 (sFixed n629 (widthI kind) (by first | decide | exact widthI_le _ | omega) _) ?_)
            rintro e_ w903 ⟨A901, c902, rfl, ho900, hs899⟩
            refine ⟨_, rfl, fun a904 hE905 => ?_⟩
            have hW906 := hW896.fresh hs899 (brow A901 c902 5 (be (widthI kind) n629)) (Nat.le_refl _) ho900
            have hF907 := Fr.fresh [⟨b649, 0, [.int .i64 n629, .slice A634 s630.length c635, .bool b631, .slice A636 l632.length c637, .slice A638 u633.length c639], true⟩] [] hs899 (brow A901 c902 5 (be (widthI kind) n629)) (Nat.le_refl _) ho900
            clear hE895 hW896
            have hT908 : TT w886 [⟨b649, 0, [.int .i64 n629, .slice A634 s630.length c635, .bool b631, .slice A636 l632.length c637, .slice A638 u633.length c639], true⟩] [] w903 := ⟨hW906.cells, (Fr.trans hF897 hF907).step⟩
            refine ⟨fun _ => hT908, ?_⟩
            refine anyC_op (i := 5) (by kernel_rfl) (wpOp_pure [12] hW906.cells hE905 (env' := [(12, .v (.slice A901 ((be (widthI kind) n629).length) c902))]) (by kernel_rfl) fun a909 hE910 => ?_)
            clear hE905
            refine ⟨fun h => absurd rfl h, ?_⟩
            refine anyC_done (by kernel_rfl) ?_ _
            refine then_normal ?_
            refine wp_ret ?_
            refine leave hE910 hW906.cells (v := .slice A901 ((be (widthI kind) n629).length) c902) (by kernel_rfl) ?_
            exact fresh_end hW906 (k := 0) rfl (by (try simp only [and1]); simp [valueB, Tree.S, Tree.N, hf683, hf713, hf790, hf867, hf885, hc663, hc686, hc716, hc793, hc870])

theorem sField {d : Nat} (hp : PartOK d) (cf : List Value) (f : Fld) (v : Int) (flex : Bool) (ct : List Value) (t : Tree) (w : World) (F : Nat → Nat → Prop) (hf : FldR w F cf f) (hd : depths f.sub ≤ d) (ht : TreeR w F ct t) (hroom : (fieldD d f v flex t).length ≤ 1099511627776) :
    Calls Try.prog 107 #[.agg cf.toArray, .int .i64 v, .bool flex, .agg ct.toArray] w (FreshB w 5 (fieldD d f v flex t)) := by
  obtain ⟨n911, s912, b913, l914, u915, A916, c917, A918, c919, A920, c921, xs922, rfl, rfl, h924, h925, h926, h927⟩ := ht.open_
  have hsm929 := h924.small
  have hsm930 := h925.small
  obtain ⟨k931, y932, y933, y934, y935, y936, y937, l938, A939, c940, xs941, rfl, rfl, h943, h944⟩ := hf.open_
  have hsm945 := h943.small
  refine enter (n := 76) Try.func107 rfl Try.ntmps107 (by kernel_rfl) fun a hE => ?_
  have hW := WOk.start w Nil
  refine go_seq_region [0, 1, 2] (by kernel_rfl) ?_
  refine of_op (wpOp_box hW hE (d := 4) (cs := [.int .i64 k931, .int .i64 y932, .int .i64 y933, .int .i64 y934, .int .i64 y935, .int .i64 y936, .int .i64 y937, .slice A939 l938.length c940]) (by kernel_rfl) fun b946 a947 w948 hb949 hz950 hF951 hW952 hE953 => ?_)
  clear hE hW
  refine of_op (wpOp_box hW952 hE953 (d := 7) (cs := [.int .i64 n911, .slice A916 s912.length c917, .bool b913, .slice A918 l914.length c919, .slice A920 u915.length c921]) (by kernel_rfl) fun b954 a955 w956 hb957 hz958 hF959 hW960 hE961 => ?_)
  clear hE953 hW952
  refine go_runs [2] [] [1, 2, 4, 7] hW960 hE961 (env' := [(1, .v (.int .i64 v)), (2, .v (.bool flex)), (4, .p 0 0), (7, .p 1 0)]) (by kernel_rfl) rfl fun a962 hE963 => ?_
  clear hE961
  refine wpOps_nil ?_
  refine then_normal ?_
  refine go_seq_region [0, 1, 2, 3, 4] (by kernel_rfl) ?_
  refine go_runs [0, 1, 2] [3, 4] [1, 2, 4, 7, 13, 14, 15] hW960 hE963 (env' := [(1, .v (.int .i64 v)), (2, .v (.bool flex)), (4, .p 0 0), (7, .p 1 0), (13, .v (.agg #[.int .i64 k931, .int .i64 y932, .int .i64 y933, .int .i64 y934, .int .i64 y935, .int .i64 y936, .int .i64 y937, .slice A939 l938.length c940])), (14, .v (.int .i64 v)), (15, .v (.agg #[.int .i64 n911, .slice A916 s912.length c917, .bool b913, .slice A918 l914.length c919, .slice A920 u915.length c921]))]) (by kernel_rfl) rfl fun a964 hE965 => ?_
  clear hE963
  refine of_op (wpOp_call hE965 (f := 103) (vs := [.agg #[.int .i64 k931, .int .i64 y932, .int .i64 y933, .int .i64 y934, .int .i64 y935, .int .i64 y936, .int .i64 y937, .slice A939 l938.length c940], .int .i64 v, .agg #[.int .i64 n911, .slice A916 s912.length c917, .bool b913, .slice A918 l914.length c919, .slice A920 u915.length c921]]) (d := 16) (by kernel_rfl) Try.call103 (sNull k931 y932 y933 y934 y935 y936 y937 l938 _ _ v n911 s912 b913 l914 u915 _ _ _ _ _ _ _) ?_)
  rintro e_ w967 ⟨rfl, hs966⟩
  refine ⟨_, rfl, fun a968 hE969 => ?_⟩
  have hW970 := hW960.next_nil hs966
  have hF971 := Fr.nil [⟨b946, 0, [.int .i64 k931, .int .i64 y932, .int .i64 y933, .int .i64 y934, .int .i64 y935, .int .i64 y936, .int .i64 y937, .slice A939 l938.length c940], true⟩, ⟨b954, 0, [.int .i64 n911, .slice A916 s912.length c917, .bool b913, .slice A918 l914.length c919, .slice A920 u915.length c921], true⟩] [] hs966
  clear hE965 hW960
  refine go_runs [4] [] [1, 2, 4, 7, 9] hW970 hE969 (env' := [(1, .v (.int .i64 v)), (2, .v (.bool flex)), (4, .p 0 0), (7, .p 1 0), (9, .v (.bool (Fld.nul (Fld.mk k931 y932 y933 y934 y935 y936 y937 l938) v (Tree.mk n911 s912 b913 l914 u915))))]) (by kernel_rfl) rfl fun a972 hE973 => ?_
  clear hE969
  refine wpOps_nil ?_
  refine then_normal ?_
  refine wp_seq ?_
  refine go_seq_region [0, 1, 2] (by kernel_rfl) ?_
  refine go_runs [0, 1, 2] [] [1, 2, 4, 7, 9, 19] hW970 hE973 (env' := [(1, .v (.int .i64 v)), (2, .v (.bool flex)), (4, .p 0 0), (7, .p 1 0), (9, .v (.bool (Fld.nul (Fld.mk k931 y932 y933 y934 y935 y936 y937 l938) v (Tree.mk n911 s912 b913 l914 u915)))), (19, .v (.bool (k931 == 11)))]) (by kernel_rfl) rfl fun a974 hE975 => ?_
  clear hE973
  refine wpOps_nil ?_
  refine then_normal ?_
  refine cond_of hE975 (b := k931 == 11) (by kernel_rfl) (fun hc976 => ?_) (fun hc976 => ?_)
  ·
    have hf977 : k931 = 11 := by simpa using hc976
    refine go_seq_region [0, 1, 2, 3] (by kernel_rfl) ?_
    refine go_runs [0, 1] [2, 3] [1, 2, 4, 9, 21] hW970 hE975 (env' := [(1, .v (.int .i64 v)), (2, .v (.bool flex)), (4, .p 0 0), (9, .v (.bool (Fld.nul (Fld.mk k931 y932 y933 y934 y935 y936 y937 l938) v (Tree.mk n911 s912 b913 l914 u915)))), (21, .v (.slice A918 l914.length c919))]) (by kernel_rfl) rfl fun a978 hE979 => ?_
    clear hE975
    refine of_op (wpOp_call hE979 (f := 104) (vs := [.slice A918 l914.length c919]) (d := 22) (by kernel_rfl) Try.call104 (sThings _ _ l914 (h925.move hW970.step nilM hW970.imm).le _) ?_)
    rintro e_ w981 ⟨rfl, hs980⟩
    refine ⟨_, rfl, fun a982 hE983 => ?_⟩
    have hW984 := hW970.next_nil hs980
    have hF985 := Fr.nil [⟨b946, 0, [.int .i64 k931, .int .i64 y932, .int .i64 y933, .int .i64 y934, .int .i64 y935, .int .i64 y936, .int .i64 y937, .slice A939 l938.length c940], true⟩, ⟨b954, 0, [.int .i64 n911, .slice A916 s912.length c917, .bool b913, .slice A918 l914.length c919, .slice A920 u915.length c921], true⟩] [] hs980
    clear hE979 hW970
    refine go_runs [3] [] [1, 2, 4, 9, 10] hW984 hE983 (env' := [(1, .v (.int .i64 v)), (2, .v (.bool flex)), (4, .p 0 0), (9, .v (.bool (Fld.nul (Fld.mk k931 y932 y933 y934 y935 y936 y937 l938) v (Tree.mk n911 s912 b913 l914 u915)))), (10, .v (.slice A918 ((things l914).length) c919))]) (by kernel_rfl) rfl fun a986 hE987 => ?_
    clear hE983
    refine wpOps_nil ?_
    refine then_normal ?_
    refine wp_seq ?_
    refine go_seq_region [0] (by kernel_rfl) ?_
    refine go_runs [0] [] [1, 2, 4, 9, 10, 23] hW984 hE987 (env' := [(1, .v (.int .i64 v)), (2, .v (.bool flex)), (4, .p 0 0), (9, .v (.bool (Fld.nul (Fld.mk k931 y932 y933 y934 y935 y936 y937 l938) v (Tree.mk n911 s912 b913 l914 u915)))), (10, .v (.slice A918 ((things l914).length) c919)), (23, .v (.bool (Fld.nul (Fld.mk k931 y932 y933 y934 y935 y936 y937 l938) v (Tree.mk n911 s912 b913 l914 u915))))]) (by kernel_rfl) rfl fun a988 hE989 => ?_
    clear hE987
    refine wpOps_nil ?_
    refine then_normal ?_
    refine cond_of hE989 (b := Fld.nul (Fld.mk k931 y932 y933 y934 y935 y936 y937 l938) v (Tree.mk n911 s912 b913 l914 u915)) (by kernel_rfl) (fun hc990 => ?_) (fun hc990 => ?_)
    ·
      refine go_region [0] (by kernel_rfl) ?_
      refine go_runs [0] [] [1, 2, 4, 9, 10] hW984 hE989 (env' := [(1, .v (.int .i64 v)), (2, .v (.bool flex)), (4, .p 0 0), (9, .v (.bool (Fld.nul (Fld.mk k931 y932 y933 y934 y935 y936 y937 l938) v (Tree.mk n911 s912 b913 l914 u915)))), (10, .v (.slice none 0 0))]) (by kernel_rfl) rfl fun a992 hE993 => ?_
      clear hE989
      refine wpOps_nil ?_
      refine then_normal ?_
      refine go_seq_region [0, 1, 2, 3, 4, 5] (by kernel_rfl) ?_
      refine go_runs [0, 1, 2, 3] [4, 5] [1, 2, 4, 10, 24, 25, 27] hW984 hE993 (env' := [(1, .v (.int .i64 v)), (2, .v (.bool flex)), (4, .p 0 0), (10, .v (.slice none 0 0)), (24, .v (.bool flex)), (25, .v (.bool (Fld.nul (Fld.mk k931 y932 y933 y934 y935 y936 y937 l938) v (Tree.mk n911 s912 b913 l914 u915)))), (27, .v (.int .i64 0))]) (by kernel_rfl) rfl fun a994 hE995 => ?_
      clear hE993
      refine of_op (wpOp_call hE995 (f := 144) (vs := [.bool flex, .bool (Fld.nul (Fld.mk k931 y932 y933 y934 y935 y936 y937 l938) v (Tree.mk n911 s912 b913 l914 u915)), .int .i64 0, .int .i64 4]) (d := 28) (by kernel_rfl) Try.call144 (sCounted flex (Fld.nul (Fld.mk k931 y932 y933 y934 y935 y936 y937 l938) v (Tree.mk n911 s912 b913 l914 u915)) 0 4 (by first | omega | exact Nat.le_trans (whole_le _) (by decide) | exact Nat.le_trans (things_le _) (by decide) | (simp; done) | (have := hroom; omega)) (by first | decide | omega) _) ?_)
      rintro e_ w1000 ⟨A998, c999, rfl, ho997, hs996⟩
      refine ⟨_, rfl, fun a1001 hE1002 => ?_⟩
      have hW1003 := hW984.fresh hs996 (brow A998 c999 5 (countedB flex (Fld.nul (Fld.mk k931 y932 y933 y934 y935 y936 y937 l938) v (Tree.mk n911 s912 b913 l914 u915)) 0 4)) (Nat.le_refl _) ho997
      have hF1004 := Fr.fresh [⟨b946, 0, [.int .i64 k931, .int .i64 y932, .int .i64 y933, .int .i64 y934, .int .i64 y935, .int .i64 y936, .int .i64 y937, .slice A939 l938.length c940], true⟩, ⟨b954, 0, [.int .i64 n911, .slice A916 s912.length c917, .bool b913, .slice A918 l914.length c919, .slice A920 u915.length c921], true⟩] [] hs996 (brow A998 c999 5 (countedB flex (Fld.nul (Fld.mk k931 y932 y933 y934 y935 y936 y937 l938) v (Tree.mk n911 s912 b913 l914 u915)) 0 4)) (Nat.le_refl _) ho997
      clear hE995 hW984
      refine go_runs [5] [] [1, 2, 4, 10, 11] hW1003 hE1002 (env' := [(1, .v (.int .i64 v)), (2, .v (.bool flex)), (4, .p 0 0), (10, .v (.slice none 0 0)), (11, .v (.slice A998 ((countedB flex (Fld.nul (Fld.mk k931 y932 y933 y934 y935 y936 y937 l938) v (Tree.mk n911 s912 b913 l914 u915)) 0 4).length) c999))]) (by kernel_rfl) rfl fun a1005 hE1006 => ?_
      clear hE1002
      refine wpOps_nil ?_
      refine then_normal ?_
      refine wp_seq ?_
      refine go_seq_region [0, 1, 2] (by kernel_rfl) ?_
      refine go_runs [0, 1, 2] [] [1, 2, 4, 10, 11, 30, 31] hW1003 hE1006 (env' := [(1, .v (.int .i64 v)), (2, .v (.bool flex)), (4, .p 0 0), (10, .v (.slice none 0 0)), (11, .v (.slice A998 ((countedB flex (Fld.nul (Fld.mk k931 y932 y933 y934 y935 y936 y937 l938) v (Tree.mk n911 s912 b913 l914 u915)) 0 4).length) c999)), (30, .v (.int .i64 0)), (31, .v (.int .i64 0))]) (by kernel_rfl) rfl fun a1007 hE1008 => ?_
      clear hE1006
      refine wpOps_nil ?_
      refine then_normal ?_
      refine wp_block ?_
      have hr2 : (countedB flex (Fld.nul (Fld.mk k931 y932 y933 y934 y935 y936 y937 l938) v (Tree.mk n911 s912 b913 l914 u915)) 0 4 ++ ([] : List Tree).flatMap (valueB (partB d l938 v flex) y937 false flex)).length ≤ 1099511627776 := by have h_ := hroom; rw [fieldD_11n (by assumption) (by assumption)] at h_; exact h_
      rw [List.length_append] at hr2
      have hr3 := flatMap_take_le ([] : List Tree) (valueB (partB d l938 v flex) y937 false flex)
      have er1009 : (countedB flex (Fld.nul (Fld.mk k931 y932 y933 y934 y935 y936 y937 l938) v (Tree.mk n911 s912 b913 l914 u915)) 0 4) = (countedB flex (Fld.nul (Fld.mk k931 y932 y933 y934 y935 y936 y937 l938) v (Tree.mk n911 s912 b913 l914 u915)) 0 4 ++ (([] : List Tree).take 0).flatMap (valueB (partB d l938 v flex) y937 false flex)) := by simp
      have hF1010 : Fr w1000 [⟨b946, 0, [.int .i64 k931, .int .i64 y932, .int .i64 y933, .int .i64 y934, .int .i64 y935, .int .i64 y936, .int .i64 y937, .slice A939 l938.length c940], true⟩, ⟨b954, 0, [.int .i64 n911, .slice A916 s912.length c917, .bool b913, .slice A918 l914.length c919, .slice A920 u915.length c921], true⟩] [brow A998 c999 5 (countedB flex (Fld.nul (Fld.mk k931 y932 y933 y934 y935 y936 y937 l938) v (Tree.mk n911 s912 b913 l914 u915)) 0 4)] w1000 [⟨b946, 0, [.int .i64 k931, .int .i64 y932, .int .i64 y933, .int .i64 y934, .int .i64 y935, .int .i64 y936, .int .i64 y937, .slice A939 l938.length c940], true⟩, ⟨b954, 0, [.int .i64 n911, .slice A916 s912.length c917, .bool b913, .slice A918 l914.length c919, .slice A920 u915.length c921], true⟩] [brow A998 c999 5 (countedB flex (Fld.nul (Fld.mk k931 y932 y933 y934 y935 y936 y937 l938) v (Tree.mk n911 s912 b913 l914 u915)) 0 4 ++ (([] : List Tree).take 0).flatMap (valueB (partB d l938 v flex) y937 false flex))] := Fr.castR (Fr.refl _ _ _) (congrArg (fun z_ => List.set [brow A998 c999 5 (countedB flex (Fld.nul (Fld.mk k931 y932 y933 y934 y935 y936 y937 l938) v (Tree.mk n911 s912 b913 l914 u915)) 0 4)] 0 (brow A998 c999 5 z_)) er1009)
      rw [er1009] at hE1008 hW1003
      have hE1019 := EnvOk.pick hE1008 (ks := [1, 2, 4, 10, 11, 30, 31]) (env' := [(1, .v (.int .i64 v)), (2, .v (.bool flex)), (4, .p 0 0), (10, .v (.slice none 0 0)), (11, .v (.slice A998 ((countedB flex (Fld.nul (Fld.mk k931 y932 y933 y934 y935 y936 y937 l938) v (Tree.mk n911 s912 b913 l914 u915)) 0 4 ++ (([] : List Tree).take 0).flatMap (valueB (partB d l938 v flex) y937 false flex)).length) c999)), (30, .v (.int .i64 0)), (31, .v (.int .i64 0))]) (by kernel_rfl)
      refine wp_loop_ghost (fun n_ a_ w_ => ∃ (k : Nat) (A_ : Option Addr) (c_ : Nat), n_ = 0 - k ∧ k ≤ 0 ∧ EnvOk 76 [⟨b946, 0, [.int .i64 k931, .int .i64 y932, .int .i64 y933, .int .i64 y934, .int .i64 y935, .int .i64 y936, .int .i64 y937, .slice A939 l938.length c940], true⟩, ⟨b954, 0, [.int .i64 n911, .slice A916 s912.length c917, .bool b913, .slice A918 l914.length c919, .slice A920 u915.length c921], true⟩] [(1, .v (.int .i64 v)), (2, .v (.bool flex)), (4, .p 0 0), (10, .v (.slice none 0 0)), (11, .v (.slice A_ ((countedB flex (Fld.nul (Fld.mk k931 y932 y933 y934 y935 y936 y937 l938) v (Tree.mk n911 s912 b913 l914 u915)) 0 4 ++ (([] : List Tree).take k).flatMap (valueB (partB d l938 v flex) y937 false flex)).length) c_)), (30, .v (.int .i64 0)), (31, .v (.int .i64 ((k : Nat) : Int)))] a_ ∧ WOk w Nil w_ [⟨b946, 0, [.int .i64 k931, .int .i64 y932, .int .i64 y933, .int .i64 y934, .int .i64 y935, .int .i64 y936, .int .i64 y937, .slice A939 l938.length c940], true⟩, ⟨b954, 0, [.int .i64 n911, .slice A916 s912.length c917, .bool b913, .slice A918 l914.length c919, .slice A920 u915.length c921], true⟩] [brow A_ c_ 5 (countedB flex (Fld.nul (Fld.mk k931 y932 y933 y934 y935 y936 y937 l938) v (Tree.mk n911 s912 b913 l914 u915)) 0 4 ++ (([] : List Tree).take k).flatMap (valueB (partB d l938 v flex) y937 false flex))] ∧ Fr w1000 [⟨b946, 0, [.int .i64 k931, .int .i64 y932, .int .i64 y933, .int .i64 y934, .int .i64 y935, .int .i64 y936, .int .i64 y937, .slice A939 l938.length c940], true⟩, ⟨b954, 0, [.int .i64 n911, .slice A916 s912.length c917, .bool b913, .slice A918 l914.length c919, .slice A920 u915.length c921], true⟩] [brow A998 c999 5 (countedB flex (Fld.nul (Fld.mk k931 y932 y933 y934 y935 y936 y937 l938) v (Tree.mk n911 s912 b913 l914 u915)) 0 4 ++ (([] : List Tree).take 0).flatMap (valueB (partB d l938 v flex) y937 false flex))] w_ [⟨b946, 0, [.int .i64 k931, .int .i64 y932, .int .i64 y933, .int .i64 y934, .int .i64 y935, .int .i64 y936, .int .i64 y937, .slice A939 l938.length c940], true⟩, ⟨b954, 0, [.int .i64 n911, .slice A916 s912.length c917, .bool b913, .slice A918 l914.length c919, .slice A920 u915.length c921], true⟩] [brow A_ c_ 5 (countedB flex (Fld.nul (Fld.mk k931 y932 y933 y934 y935 y936 y937 l938) v (Tree.mk n911 s912 b913 l914 u915)) 0 4 ++ (([] : List Tree).take k).flatMap (valueB (partB d l938 v flex) y937 false flex))]) (0) ⟨0, A998, c999, by omega, by omega, hE1019, hW1003, Fr.refl _ _ _⟩ ?_
      clear hE1019 hE1008 hW1003
      rintro n1011 a1012 w1013 ⟨k, A_, c_, hn1016, hk1017, hE1014, hW1015, hF1018⟩
      refine go_seq_region [0] (by kernel_rfl) ?_
      refine go_runs [0] [] [1, 2, 4, 10, 11, 30, 31, 32] hW1015 hE1014 (env' := [(1, .v (.int .i64 v)), (2, .v (.bool flex)), (4, .p 0 0), (10, .v (.slice none 0 0)), (11, .v (.slice A_ ((countedB flex (Fld.nul (Fld.mk k931 y932 y933 y934 y935 y936 y937 l938) v (Tree.mk n911 s912 b913 l914 u915)) 0 4 ++ (([] : List Tree).take k).flatMap (valueB (partB d l938 v flex) y937 false flex)).length) c_)), (30, .v (.int .i64 0)), (31, .v (.int .i64 ((k : Nat) : Int))), (32, .v (.bool (decide (((k : Nat) : Int) < 0))))]) (by kernel_rfl) rfl fun a1020 hE1021 => ?_
      clear hE1014
      refine wpOps_nil ?_
      refine then_normal ?_
      refine wp_seq ?_
      refine cond_false hE1021 (b := decide (((k : Nat) : Int) < 0)) (by kernel_rfl) (decide_eq_false (by omega)) ?_
      refine wp_exit ?_
      refine then_exit ?_
      refine then_exit ?_
      refine block_exit ?_
      refine then_normal ?_
      refine go_seq_region [0, 1] (by kernel_rfl) ?_
      refine go_runs [0, 1] [] [8] hW1015 hE1021 (env' := [(8, .v (.slice A_ ((countedB flex (Fld.nul (Fld.mk k931 y932 y933 y934 y935 y936 y937 l938) v (Tree.mk n911 s912 b913 l914 u915)) 0 4 ++ (([] : List Tree).take k).flatMap (valueB (partB d l938 v flex) y937 false flex)).length) c_))]) (by kernel_rfl) rfl fun a1022 hE1023 => ?_
      clear hE1021
      refine wpOps_nil ?_
      refine then_normal ?_
      refine wp_ret ?_
      refine then_ret ?_
      refine leave hE1023 hW1015.cells (v := .slice A_ ((countedB flex (Fld.nul (Fld.mk k931 y932 y933 y934 y935 y936 y937 l938) v (Tree.mk n911 s912 b913 l914 u915)) 0 4 ++ (([] : List Tree).take k).flatMap (valueB (partB d l938 v flex) y937 false flex)).length) c_) (by kernel_rfl) ?_
      exact fresh_end hW1015 (k := 0) rfl (by rw [fieldD_11n (by assumption) (by assumption)]; simp)
    ·
      refine wp_skip ?_
      refine then_normal ?_
      refine go_seq_region [0, 1, 2, 3, 4, 5] (by kernel_rfl) ?_
      refine go_runs [0, 1, 2, 3] [4, 5] [1, 2, 4, 10, 24, 25, 27] hW984 hE989 (env' := [(1, .v (.int .i64 v)), (2, .v (.bool flex)), (4, .p 0 0), (10, .v (.slice A918 ((things l914).length) c919)), (24, .v (.bool flex)), (25, .v (.bool (Fld.nul (Fld.mk k931 y932 y933 y934 y935 y936 y937 l938) v (Tree.mk n911 s912 b913 l914 u915)))), (27, .v (.int .i64 (((things l914).length : Nat) : Int)))]) (by kernel_rfl) rfl fun a1025 hE1026 => ?_
      clear hE989
      refine of_op (wpOp_call hE1026 (f := 144) (vs := [.bool flex, .bool (Fld.nul (Fld.mk k931 y932 y933 y934 y935 y936 y937 l938) v (Tree.mk n911 s912 b913 l914 u915)), .int .i64 (((things l914).length : Nat) : Int), .int .i64 4]) (d := 28) (by kernel_rfl) Try.call144 (sCounted flex (Fld.nul (Fld.mk k931 y932 y933 y934 y935 y936 y937 l938) v (Tree.mk n911 s912 b913 l914 u915)) ((things l914).length) 4 (by first | omega | exact Nat.le_trans (whole_le _) (by decide) | exact Nat.le_trans (things_le _) (by decide) | (simp; done) | (have := hroom; omega)) (by first | decide | omega) _) ?_)
      rintro e_ w1031 ⟨A1029, c1030, rfl, ho1028, hs1027⟩
      refine ⟨_, rfl, fun a1032 hE1033 => ?_⟩
      have hW1034 := hW984.fresh hs1027 (brow A1029 c1030 5 (countedB flex (Fld.nul (Fld.mk k931 y932 y933 y934 y935 y936 y937 l938) v (Tree.mk n911 s912 b913 l914 u915)) ((things l914).length) 4)) (Nat.le_refl _) ho1028
      have hF1035 := Fr.fresh [⟨b946, 0, [.int .i64 k931, .int .i64 y932, .int .i64 y933, .int .i64 y934, .int .i64 y935, .int .i64 y936, .int .i64 y937, .slice A939 l938.length c940], true⟩, ⟨b954, 0, [.int .i64 n911, .slice A916 s912.length c917, .bool b913, .slice A918 l914.length c919, .slice A920 u915.length c921], true⟩] [] hs1027 (brow A1029 c1030 5 (countedB flex (Fld.nul (Fld.mk k931 y932 y933 y934 y935 y936 y937 l938) v (Tree.mk n911 s912 b913 l914 u915)) ((things l914).length) 4)) (Nat.le_refl _) ho1028
      clear hE1026 hW984
      refine go_runs [5] [] [1, 2, 4, 10, 11] hW1034 hE1033 (env' := [(1, .v (.int .i64 v)), (2, .v (.bool flex)), (4, .p 0 0), (10, .v (.slice A918 ((things l914).length) c919)), (11, .v (.slice A1029 ((countedB flex (Fld.nul (Fld.mk k931 y932 y933 y934 y935 y936 y937 l938) v (Tree.mk n911 s912 b913 l914 u915)) ((things l914).length) 4).length) c1030))]) (by kernel_rfl) rfl fun a1036 hE1037 => ?_
      clear hE1033
      refine wpOps_nil ?_
      refine then_normal ?_
      refine wp_seq ?_
      refine go_seq_region [0, 1, 2] (by kernel_rfl) ?_
      refine go_runs [0, 1, 2] [] [1, 2, 4, 10, 11, 30, 31] hW1034 hE1037 (env' := [(1, .v (.int .i64 v)), (2, .v (.bool flex)), (4, .p 0 0), (10, .v (.slice A918 ((things l914).length) c919)), (11, .v (.slice A1029 ((countedB flex (Fld.nul (Fld.mk k931 y932 y933 y934 y935 y936 y937 l938) v (Tree.mk n911 s912 b913 l914 u915)) ((things l914).length) 4).length) c1030)), (30, .v (.int .i64 (((things l914).length : Nat) : Int))), (31, .v (.int .i64 0))]) (by kernel_rfl) rfl fun a1038 hE1039 => ?_
      clear hE1037
      refine wpOps_nil ?_
      refine then_normal ?_
      refine wp_block ?_
      have hr2 : (countedB flex (Fld.nul (Fld.mk k931 y932 y933 y934 y935 y936 y937 l938) v (Tree.mk n911 s912 b913 l914 u915)) ((things l914).length) 4 ++ (things l914).flatMap (valueB (partB d l938 v flex) y937 false flex)).length ≤ 1099511627776 := by have h_ := hroom; rw [fieldD_11 (by assumption) (by assumption)] at h_; exact h_
      rw [List.length_append] at hr2
      have hr3 := flatMap_take_le (things l914) (valueB (partB d l938 v flex) y937 false flex)
      have hsm3 : (things l914).length ≤ 32767 := by simp only [things, List.length_take]; omega
      have er1040 : (countedB flex (Fld.nul (Fld.mk k931 y932 y933 y934 y935 y936 y937 l938) v (Tree.mk n911 s912 b913 l914 u915)) ((things l914).length) 4) = (countedB flex (Fld.nul (Fld.mk k931 y932 y933 y934 y935 y936 y937 l938) v (Tree.mk n911 s912 b913 l914 u915)) ((things l914).length) 4 ++ ((things l914).take 0).flatMap (valueB (partB d l938 v flex) y937 false flex)) := by simp
      have hF1041 : Fr w1031 [⟨b946, 0, [.int .i64 k931, .int .i64 y932, .int .i64 y933, .int .i64 y934, .int .i64 y935, .int .i64 y936, .int .i64 y937, .slice A939 l938.length c940], true⟩, ⟨b954, 0, [.int .i64 n911, .slice A916 s912.length c917, .bool b913, .slice A918 l914.length c919, .slice A920 u915.length c921], true⟩] [brow A1029 c1030 5 (countedB flex (Fld.nul (Fld.mk k931 y932 y933 y934 y935 y936 y937 l938) v (Tree.mk n911 s912 b913 l914 u915)) ((things l914).length) 4)] w1031 [⟨b946, 0, [.int .i64 k931, .int .i64 y932, .int .i64 y933, .int .i64 y934, .int .i64 y935, .int .i64 y936, .int .i64 y937, .slice A939 l938.length c940], true⟩, ⟨b954, 0, [.int .i64 n911, .slice A916 s912.length c917, .bool b913, .slice A918 l914.length c919, .slice A920 u915.length c921], true⟩] [brow A1029 c1030 5 (countedB flex (Fld.nul (Fld.mk k931 y932 y933 y934 y935 y936 y937 l938) v (Tree.mk n911 s912 b913 l914 u915)) ((things l914).length) 4 ++ ((things l914).take 0).flatMap (valueB (partB d l938 v flex) y937 false flex))] := Fr.castR (Fr.refl _ _ _) (congrArg (fun z_ => List.set [brow A1029 c1030 5 (countedB flex (Fld.nul (Fld.mk k931 y932 y933 y934 y935 y936 y937 l938) v (Tree.mk n911 s912 b913 l914 u915)) ((things l914).length) 4)] 0 (brow A1029 c1030 5 z_)) er1040)
      rw [er1040] at hE1039 hW1034
      have hE1050 := EnvOk.pick hE1039 (ks := [1, 2, 4, 10, 11, 30, 31]) (env' := [(1, .v (.int .i64 v)), (2, .v (.bool flex)), (4, .p 0 0), (10, .v (.slice A918 ((things l914).length) c919)), (11, .v (.slice A1029 ((countedB flex (Fld.nul (Fld.mk k931 y932 y933 y934 y935 y936 y937 l938) v (Tree.mk n911 s912 b913 l914 u915)) ((things l914).length) 4 ++ ((things l914).take 0).flatMap (valueB (partB d l938 v flex) y937 false flex)).length) c1030)), (30, .v (.int .i64 (((things l914).length : Nat) : Int))), (31, .v (.int .i64 0))]) (by kernel_rfl)
      refine wp_loop_ghost (fun n_ a_ w_ => ∃ (k : Nat) (A_ : Option Addr) (c_ : Nat), n_ = (things l914).length - k ∧ k ≤ (things l914).length ∧ EnvOk 76 [⟨b946, 0, [.int .i64 k931, .int .i64 y932, .int .i64 y933, .int .i64 y934, .int .i64 y935, .int .i64 y936, .int .i64 y937, .slice A939 l938.length c940], true⟩, ⟨b954, 0, [.int .i64 n911, .slice A916 s912.length c917, .bool b913, .slice A918 l914.length c919, .slice A920 u915.length c921], true⟩] [(1, .v (.int .i64 v)), (2, .v (.bool flex)), (4, .p 0 0), (10, .v (.slice A918 ((things l914).length) c919)), (11, .v (.slice A_ ((countedB flex (Fld.nul (Fld.mk k931 y932 y933 y934 y935 y936 y937 l938) v (Tree.mk n911 s912 b913 l914 u915)) ((things l914).length) 4 ++ ((things l914).take k).flatMap (valueB (partB d l938 v flex) y937 false flex)).length) c_)), (30, .v (.int .i64 (((things l914).length : Nat) : Int))), (31, .v (.int .i64 ((k : Nat) : Int)))] a_ ∧ WOk w Nil w_ [⟨b946, 0, [.int .i64 k931, .int .i64 y932, .int .i64 y933, .int .i64 y934, .int .i64 y935, .int .i64 y936, .int .i64 y937, .slice A939 l938.length c940], true⟩, ⟨b954, 0, [.int .i64 n911, .slice A916 s912.length c917, .bool b913, .slice A918 l914.length c919, .slice A920 u915.length c921], true⟩] [brow A_ c_ 5 (countedB flex (Fld.nul (Fld.mk k931 y932 y933 y934 y935 y936 y937 l938) v (Tree.mk n911 s912 b913 l914 u915)) ((things l914).length) 4 ++ ((things l914).take k).flatMap (valueB (partB d l938 v flex) y937 false flex))] ∧ Fr w1031 [⟨b946, 0, [.int .i64 k931, .int .i64 y932, .int .i64 y933, .int .i64 y934, .int .i64 y935, .int .i64 y936, .int .i64 y937, .slice A939 l938.length c940], true⟩, ⟨b954, 0, [.int .i64 n911, .slice A916 s912.length c917, .bool b913, .slice A918 l914.length c919, .slice A920 u915.length c921], true⟩] [brow A1029 c1030 5 (countedB flex (Fld.nul (Fld.mk k931 y932 y933 y934 y935 y936 y937 l938) v (Tree.mk n911 s912 b913 l914 u915)) ((things l914).length) 4 ++ ((things l914).take 0).flatMap (valueB (partB d l938 v flex) y937 false flex))] w_ [⟨b946, 0, [.int .i64 k931, .int .i64 y932, .int .i64 y933, .int .i64 y934, .int .i64 y935, .int .i64 y936, .int .i64 y937, .slice A939 l938.length c940], true⟩, ⟨b954, 0, [.int .i64 n911, .slice A916 s912.length c917, .bool b913, .slice A918 l914.length c919, .slice A920 u915.length c921], true⟩] [brow A_ c_ 5 (countedB flex (Fld.nul (Fld.mk k931 y932 y933 y934 y935 y936 y937 l938) v (Tree.mk n911 s912 b913 l914 u915)) ((things l914).length) 4 ++ ((things l914).take k).flatMap (valueB (partB d l938 v flex) y937 false flex))]) ((things l914).length) ⟨0, A1029, c1030, by omega, by omega, hE1050, hW1034, Fr.refl _ _ _⟩ ?_
      clear hE1050 hE1039 hW1034
      rintro n1042 a1043 w1044 ⟨k, A_, c_, hn1047, hk1048, hE1045, hW1046, hF1049⟩
      refine go_seq_region [0] (by kernel_rfl) ?_
      refine go_runs [0] [] [1, 2, 4, 10, 11, 30, 31, 32] hW1046 hE1045 (env' := [(1, .v (.int .i64 v)), (2, .v (.bool flex)), (4, .p 0 0), (10, .v (.slice A918 ((things l914).length) c919)), (11, .v (.slice A_ ((countedB flex (Fld.nul (Fld.mk k931 y932 y933 y934 y935 y936 y937 l938) v (Tree.mk n911 s912 b913 l914 u915)) ((things l914).length) 4 ++ ((things l914).take k).flatMap (valueB (partB d l938 v flex) y937 false flex)).length) c_)), (30, .v (.int .i64 (((things l914).length : Nat) : Int))), (31, .v (.int .i64 ((k : Nat) : Int))), (32, .v (.bool (decide (((k : Nat) : Int) < (((things l914).length : Nat) : Int)))))]) (by kernel_rfl) rfl fun a1051 hE1052 => ?_
      clear hE1045
      refine wpOps_nil ?_
      refine then_normal ?_
      refine wp_seq ?_
      refine cond_of hE1052 (b := decide (((k : Nat) : Int) < (((things l914).length : Nat) : Int))) (by kernel_rfl) (fun hc1053 => ?_) (fun hc1053 => ?_)
      ·
        have hf1054 := of_decide_eq_true hc1053
        refine wp_skip ?_
        refine then_normal ?_
        refine wp_seq ?_
        refine wp_block ?_
        refine go_seq_region [0, 1] (by kernel_rfl) ?_
        refine go_runs [0, 1] [] [1, 2, 4, 10, 11, 12, 30, 31] hW1046 hE1052 (env' := [(1, .v (.int .i64 v)), (2, .v (.bool flex)), (4, .p 0 0), (10, .v (.slice A918 ((things l914).length) c919)), (11, .v (.slice A_ ((countedB flex (Fld.nul (Fld.mk k931 y932 y933 y934 y935 y936 y937 l938) v (Tree.mk n911 s912 b913 l914 u915)) ((things l914).length) 4 ++ ((things l914).take k).flatMap (valueB (partB d l938 v flex) y937 false flex)).length) c_)), (12, .v (.int .i64 ((k : Nat) : Int))), (30, .v (.int .i64 (((things l914).length : Nat) : Int))), (31, .v (.int .i64 ((k : Nat) : Int)))]) (by kernel_rfl) rfl fun a1055 hE1056 => ?_
        clear hE1052
        refine wpOps_nil ?_
        refine then_normal ?_
        refine go_drawK 13 (by kernel_rfl) hW1046 fun w1057 hF1058 hW1059 hT1060 => ?_
        clear hW1046
        refine go_runsD [0, 1, 2, 3, 4, 5, 6, 7, 8] [1, 2, 4, 10, 11, 30, 31, 34, 36, 38, 39, 40, 41, 42] 5 (by kernel_rfl) (panicFree_block (panicFree_then (panicFree_then (panicFree_block (panicFree_then (panicFree_then panicFree_body)))))) (fun _ h => h.cells) hT1060 hE1056 (by kernel_rfl) (env' := [(1, .v (.int .i64 v)), (2, .v (.bool flex)), (4, .p 0 0), (10, .v (.slice A918 ((things l914).length) c919)), (11, .v (.slice A_ ((countedB flex (Fld.nul (Fld.mk k931 y932 y933 y934 y935 y936 y937 l938) v (Tree.mk n911 s912 b913 l914 u915)) ((things l914).length) 4 ++ ((things l914).take k).flatMap (valueB (partB d l938 v flex) y937 false flex)).length) c_)), (30, .v (.int .i64 (((things l914).length : Nat) : Int))), (31, .v (.int .i64 ((k : Nat) : Int))), (34, .v (.slice A_ ((countedB flex (Fld.nul (Fld.mk k931 y932 y933 y934 y935 y936 y937 l938) v (Tree.mk n911 s912 b913 l914 u915)) ((things l914).length) 4 ++ ((things l914).take k).flatMap (valueB (partB d l938 v flex) y937 false flex)).length) c_)), (36, .v (.int .i64 y937)), (38, .v (.slice A939 l938.length c940)), (39, .v (.int .i64 v)), (40, .v (.bool flex)), (41, .v (.slice A918 ((things l914).length) c919)), (42, .v (.int .i64 ((k : Nat) : Int)))]) (by kernel_rfl) rfl fun a1061 hE1062 => ?_
        clear hE1056
        obtain ⟨b1063, o1064, hA1065, hl1066, hat1067⟩ := Slots.get (things_slots h925) (i := k) (by omega)
        obtain ⟨x1068, he1069⟩ : ∃ x, (things l914)[k]? = some x := ⟨_, List.getElem?_eq_getElem (by omega)⟩
        have hr1070 := (things_each h926) k x1068 he1069
        obtain ⟨n1071, s1072, b1073, l1074, u1075, A1076, c1077, A1078, c1079, A1080, c1081, xs1082, rfl, hcs1083, h1084, h1085, h1086, h1087⟩ := hr1070.open_
        rw [hcs1083] at hr1070
        have hsm1089 := h1084.small
        have hsm1090 := h1085.small
        rw [hcs1083] at hat1067
        refine takeC_index hE1062 (i := 9) (t := 23) (A := A918) (m := (things l914).length) (q := ((k : Nat) : Int)) (d := 43) (by kernel_rfl) (e := 26) (size := 5) (bytes := 88) (by kernel_rfl) hA1065 rfl (by omega) (by kernel_rfl) (by kernel_rfl) (panicFree_block (panicFree_then (panicFree_then (panicFree_block (panicFree_then (panicFree_then panicFree_body)))))) hT1060 fun a1091 hE1092 => ?_
        clear hE1062
        refine takeC_load hE1092 (i := 10) (t := 26) (b := b1063) (o := o1064 + k * 5) (d := 44) (by kernel_rfl) (cs := [.int .i64 n1071, .slice A1076 s1072.length c1077, .bool b1073, .slice A1078 l1074.length c1079, .slice A1080 u1075.length c1081]) (v := .agg #[.int .i64 n1071, .slice A1076 s1072.length c1077, .bool b1073, .slice A1078 l1074.length c1079, .slice A1080 u1075.length c1081]) (by kernel_rfl) (fun w' h' => (AtF.move hat1067 (TT.step0 hW1059 h') nilM keepF).at_) (by kernel_rfl) (by kernel_rfl) (panicFree_block (panicFree_then (panicFree_then (panicFree_block (panicFree_then (panicFree_then panicFree_body)))))) hT1060 fun a1093 hE1094 => ?_
        clear hE1092
        refine anyC_op (i := 11) (by kernel_rfl) (wpOp_call hE1094 (f := 145) (vs := [.int .i64 y937, .slice A939 l938.length c940, .bool false, .int .i64 v, .bool flex, .agg #[.int .i64 n1071, .slice A1076 s1072.length c1077, .bool b1073, .slice A1078 l1074.length c1079, .slice A1080 u1075.length c1081]]) (d := 45) (by kernel_rfl) Try.call145 (sValue hp y937 _ _ l938 false v flex _ (Tree.mk n1071 s1072 b1073 l1074 u1075) _ _ ⟨xs941, (h943.move hW1059.step nilM hW1059.imm), (fun i_ x_ h_ => ((h944 i_ x_ h_).move hW1059.step nilM hW1059.imm))⟩ hd (hr1070.move hW1059.step nilM hW1059.imm) (by have := flatMap_le (g := valueB (partB d l938 v flex) y937 false flex) he1069; omega)) ?_)
        rintro e_ w1099 ⟨A1097, c1098, rfl, ho1096, hs1095⟩
        refine ⟨_, rfl, fun a1100 hE1101 => ?_⟩
        have hW1102 := hW1059.fresh hs1095 (brow A1097 c1098 5 (valueB (partB d l938 v flex) y937 false flex (Tree.mk n1071 s1072 b1073 l1074 u1075))) (Nat.le_refl _) ho1096
        have hF1103 := Fr.fresh [⟨b946, 0, [.int .i64 k931, .int .i64 y932, .int .i64 y933, .int .i64 y934, .int .i64 y935, .int .i64 y936, .int .i64 y937, .slice A939 l938.length c940], true⟩, ⟨b954, 0, [.int .i64 n911, .slice A916 s912.length c917, .bool b913, .slice A918 l914.length c919, .slice A920 u915.length c921], true⟩] [brow A_ c_ 5 (countedB flex (Fld.nul (Fld.mk k931 y932 y933 y934 y935 y936 y937 l938) v (Tree.mk n911 s912 b913 l914 u915)) ((things l914).length) 4 ++ ((things l914).take k).flatMap (valueB (partB d l938 v flex) y937 false flex))] hs1095 (brow A1097 c1098 5 (valueB (partB d l938 v flex) y937 false flex (Tree.mk n1071 s1072 b1073 l1074 u1075))) (Nat.le_refl _) ho1096
        clear hE1094
        have hT1104 : TT w1057 [⟨b946, 0, [.int .i64 k931, .int .i64 y932, .int .i64 y933, .int .i64 y934, .int .i64 y935, .int .i64 y936, .int .i64 y937, .slice A939 l938.length c940], true⟩, ⟨b954, 0, [.int .i64 n911, .slice A916 s912.length c917, .bool b913, .slice A918 l914.length c919, .slice A920 u915.length c921], true⟩] [brow A_ c_ 5 (countedB flex (Fld.nul (Fld.mk k931 y932 y933 y934 y935 y936 y937 l938) v (Tree.mk n911 s912 b913 l914 u915)) ((things l914).length) 4 ++ ((things l914).take k).flatMap (valueB (partB d l938 v flex) y937 false flex))] w1099 := ⟨hW1102.cells, hF1103.step⟩
        refine ⟨fun _ => hT1104, ?_⟩
        refine anyC_op (i := 12) (by kernel_rfl) (wpOp_append hW1102 hE1101 (k := 0) (d := 46) (t := 22) (e := 5) (size := 1) (bytes := 1) (A := A_) (As := A1097) (m0 := ((countedB flex (Fld.nul (Fld.mk k931 y932 y933 y934 y935 y936 y937 l938) v (Tree.mk n911 s912 b913 l914 u915)) ((things l914).length) 4 ++ ((things l914).take k).flatMap (valueB (partB d l938 v flex) y937 false flex)).length)) (c := c_) (m := ((valueB (partB d l938 v flex) y937 false flex (Tree.mk n1071 s1072 b1073 l1074 u1075)).length)) (cs := c1098) (xs := (bc (countedB flex (Fld.nul (Fld.mk k931 y932 y933 y934 y935 y936 y937 l938) v (Tree.mk n911 s912 b913 l914 u915)) ((things l914).length) 4 ++ ((things l914).take k).flatMap (valueB (partB d l938 v flex) y937 false flex)))) (news := bc (valueB (partB d l938 v flex) y937 false flex (Tree.mk n1071 s1072 b1073 l1074 u1075))) (by kernel_rfl) (by kernel_rfl) rfl (own_src (hW1102.own 1 _ rfl) (bc_one _)) (own_cap (hW1102.own 1 _ rfl)) (by rw [List.length_append]; have h8_ := hr3 k; have h9_ := flatMap_le (g := valueB (partB d l938 v flex) y937 false flex) he1069; omega) fun A1105 c1106 a1107 w1108 hF1109 hW1110 hE1111 => ?_)
        clear hE1101 hW1102
        have er1112 : (⟨A1105, c1106, 5, 1, (countedB flex (Fld.nul (Fld.mk k931 y932 y933 y934 y935 y936 y937 l938) v (Tree.mk n911 s912 b913 l914 u915)) ((things l914).length) 4 ++ ((things l914).take k).flatMap (valueB (partB d l938 v flex) y937 false flex)).length + (valueB (partB d l938 v flex) y937 false flex (Tree.mk n1071 s1072 b1073 l1074 u1075)).length, bc (countedB flex (Fld.nul (Fld.mk k931 y932 y933 y934 y935 y936 y937 l938) v (Tree.mk n911 s912 b913 l914 u915)) ((things l914).length) 4 ++ ((things l914).take k).flatMap (valueB (partB d l938 v flex) y937 false flex)) ++ bc (valueB (partB d l938 v flex) y937 false flex (Tree.mk n1071 s1072 b1073 l1074 u1075))⟩ : Rw) = brow A1105 c1106 5 (countedB flex (Fld.nul (Fld.mk k931 y932 y933 y934 y935 y936 y937 l938) v (Tree.mk n911 s912 b913 l914 u915)) ((things l914).length) 4 ++ ((things l914).take k).flatMap (valueB (partB d l938 v flex) y937 false flex) ++ (valueB (partB d l938 v flex) y937 false flex (Tree.mk n1071 s1072 b1073 l1074 u1075))) := brow_eq (rfl) rfl
        have hW1113 : WOk _ _ _ _ [brow A1105 c1106 5 (countedB flex (Fld.nul (Fld.mk k931 y932 y933 y934 y935 y936 y937 l938) v (Tree.mk n911 s912 b913 l914 u915)) ((things l914).length) 4 ++ ((things l914).take k).flatMap (valueB (partB d l938 v flex) y937 false flex) ++ (valueB (partB d l938 v flex) y937 false flex (Tree.mk n1071 s1072 b1073 l1074 u1075))), brow A1097 c1098 5 (valueB (partB d l938 v flex) y937 false flex (Tree.mk n1071 s1072 b1073 l1074 u1075))] := hW1110.castR (congrArg (fun r_ => List.set [⟨A1105, c1106, 5, 1, (countedB flex (Fld.nul (Fld.mk k931 y932 y933 y934 y935 y936 y937 l938) v (Tree.mk n911 s912 b913 l914 u915)) ((things l914).length) 4 ++ ((things l914).take k).flatMap (valueB (partB d l938 v flex) y937 false flex)).length + (valueB (partB d l938 v flex) y937 false flex (Tree.mk n1071 s1072 b1073 l1074 u1075)).length, bc (countedB flex (Fld.nul (Fld.mk k931 y932 y933 y934 y935 y936 y937 l938) v (Tree.mk n911 s912 b913 l914 u915)) ((things l914).length) 4 ++ ((things l914).take k).flatMap (valueB (partB d l938 v flex) y937 false flex)) ++ bc (valueB (partB d l938 v flex) y937 false flex (Tree.mk n1071 s1072 b1073 l1074 u1075))⟩, brow A1097 c1098 5 (valueB (partB d l938 v flex) y937 false flex (Tree.mk n1071 s1072 b1073 l1074 u1075))] 0 r_) er1112)
        have hF1115 : Fr w1108 [⟨b946, 0, [.int .i64 k931, .int .i64 y932, .int .i64 y933, .int .i64 y934, .int .i64 y935, .int .i64 y936, .int .i64 y937, .slice A939 l938.length c940], true⟩, ⟨b954, 0, [.int .i64 n911, .slice A916 s912.length c917, .bool b913, .slice A918 l914.length c919, .slice A920 u915.length c921], true⟩] [⟨A1105, c1106, 5, 1, (countedB flex (Fld.nul (Fld.mk k931 y932 y933 y934 y935 y936 y937 l938) v (Tree.mk n911 s912 b913 l914 u915)) ((things l914).length) 4 ++ ((things l914).take k).flatMap (valueB (partB d l938 v flex) y937 false flex)).length + (valueB (partB d l938 v flex) y937 false flex (Tree.mk n1071 s1072 b1073 l1074 u1075)).length, bc (countedB flex (Fld.nul (Fld.mk k931 y932 y933 y934 y935 y936 y937 l938) v (Tree.mk n911 s912 b913 l914 u915)) ((things l914).length) 4 ++ ((things l914).take k).flatMap (valueB (partB d l938 v flex) y937 false flex)) ++ bc (valueB (partB d l938 v flex) y937 false flex (Tree.mk n1071 s1072 b1073 l1074 u1075))⟩, brow A1097 c1098 5 (valueB (partB d l938 v flex) y937 false flex (Tree.mk n1071 s1072 b1073 l1074 u1075))] w1108 [⟨b946, 0, [.int .i64 k931, .int .i64 y932, .int .i64 y933, .int .i64 y934, .int .i64 y935, .int .i64 y936, .int .i64 y937, .slice A939 l938.length c940], true⟩, ⟨b954, 0, [.int .i64 n911, .slice A916 s912.length c917, .bool b913, .slice A918 l914.length c919, .slice A920 u915.length c921], true⟩] [brow A1105 c1106 5 (countedB flex (Fld.nul (Fld.mk k931 y932 y933 y934 y935 y936 y937 l938) v (Tree.mk n911 s912 b913 l914 u915)) ((things l914).length) 4 ++ ((things l914).take k).flatMap (valueB (partB d l938 v flex) y937 false flex) ++ (valueB (partB d l938 v flex) y937 false flex (Tree.mk n1071 s1072 b1073 l1074 u1075))), brow A1097 c1098 5 (valueB (partB d l938 v flex) y937 false flex (Tree.mk n1071 s1072 b1073 l1074 u1075))] := Fr.castR (Fr.refl _ _ _) (congrArg (fun r_ => List.set [⟨A1105, c1106, 5, 1, (countedB flex (Fld.nul (Fld.mk k931 y932 y933 y934 y935 y936 y937 l938) v (Tree.mk n911 s912 b913 l914 u915)) ((things l914).length) 4 ++ ((things l914).take k).flatMap (valueB (partB d l938 v flex) y937 false flex)).length + (valueB (partB d l938 v flex) y937 false flex (Tree.mk n1071 s1072 b1073 l1074 u1075)).length, bc (countedB flex (Fld.nul (Fld.mk k931 y932 y933 y934 y935 y936 y937 l938) v (Tree.mk n911 s912 b913 l914 u915)) ((things l914).length) 4 ++ ((things l914).take k).flatMap (valueB (partB d l938 v flex) y937 false flex)) ++ bc (valueB (partB d l938 v flex) y937 false flex (Tree.mk n1071 s1072 b1073 l1074 u1075))⟩, brow A1097 c1098 5 (valueB (partB d l938 v flex) y937 false flex (Tree.mk n1071 s1072 b1073 l1074 u1075))] 0 r_) er1112)
        clear hW1110
        have hE1116 := EnvOk.pick hE1111 (ks := [1, 2, 4, 10, 11, 30, 31, 34, 36, 38, 39, 40, 41, 42, 43, 44, 45, 46]) (env' := [(1, .v (.int .i64 v)), (2, .v (.bool flex)), (4, .p 0 0), (10, .v (.slice A918 ((things l914).length) c919)), (11, .v (.slice A_ ((countedB flex (Fld.nul (Fld.mk k931 y932 y933 y934 y935 y936 y937 l938) v (Tree.mk n911 s912 b913 l914 u915)) ((things l914).length) 4 ++ ((things l914).take k).flatMap (valueB (partB d l938 v flex) y937 false flex)).length) c_)), (30, .v (.int .i64 (((things l914).length : Nat) : Int))), (31, .v (.int .i64 ((k : Nat) : Int))), (34, .v (.slice A_ ((countedB flex (Fld.nul (Fld.mk k931 y932 y933 y934 y935 y936 y937 l938) v (Tree.mk n911 s912 b913 l914 u915)) ((things l914).length) 4 ++ ((things l914).take k).flatMap (valueB (partB d l938 v flex) y937 false flex)).length) c_)), (36, .v (.int .i64 y937)), (38, .v (.slice A939 l938.length c940)), (39, .v (.int .i64 v)), (40, .v (.bool flex)), (41, .v (.slice A918 ((things l914).length) c919)), (42, .v (.int .i64 ((k : Nat) : Int))), (43, .v (.pointer (some ⟨b1063, o1064 + k * 5, none⟩))), (44, .v (.agg #[.int .i64 n1071, .slice A1076 s1072.length c1077, .bool b1073, .slice A1078 l1074.length c1079, .slice A1080 u1075.length c1081])), (45, .v (.slice A1097 ((valueB (partB d l938 v flex) y937 false flex (Tree.mk n1071 s1072 b1073 l1074 u1075)).length) c1098)), (46, .v (.slice A1105 ((countedB flex (Fld.nul (Fld.mk k931 y932 y933 y934 y935 y936 y937 l938) v (Tree.mk n911 s912 b913 l914 u915)) ((things l914).length) 4 ++ ((things l914).take k).flatMap (valueB (partB d l938 v flex) y937 false flex)).length + (valueB (partB d l938 v flex) y937 false flex (Tree.mk n1071 s1072 b1073 l1074 u1075)).length) c1106))]) (by kernel_rfl)
        have hE1114 := hE1116.cast (env' := [(1, .v (.int .i64 v)), (2, .v (.bool flex)), (4, .p 0 0), (10, .v (.slice A918 ((things l914).length) c919)), (11, .v (.slice A_ ((countedB flex (Fld.nul (Fld.mk k931 y932 y933 y934 y935 y936 y937 l938) v (Tree.mk n911 s912 b913 l914 u915)) ((things l914).length) 4 ++ ((things l914).take k).flatMap (valueB (partB d l938 v flex) y937 false flex)).length) c_)), (30, .v (.int .i64 (((things l914).length : Nat) : Int))), (31, .v (.int .i64 ((k : Nat) : Int))), (34, .v (.slice A_ ((countedB flex (Fld.nul (Fld.mk k931 y932 y933 y934 y935 y936 y937 l938) v (Tree.mk n911 s912 b913 l914 u915)) ((things l914).length) 4 ++ ((things l914).take k).flatMap (valueB (partB d l938 v flex) y937 false flex)).length) c_)), (36, .v (.int .i64 y937)), (38, .v (.slice A939 l938.length c940)), (39, .v (.int .i64 v)), (40, .v (.bool flex)), (41, .v (.slice A918 ((things l914).length) c919)), (42, .v (.int .i64 ((k : Nat) : Int))), (43, .v (.pointer (some ⟨b1063, o1064 + k * 5, none⟩))), (44, .v (.agg #[.int .i64 n1071, .slice A1076 s1072.length c1077, .bool b1073, .slice A1078 l1074.length c1079, .slice A1080 u1075.length c1081])), (45, .v (.slice A1097 ((valueB (partB d l938 v flex) y937 false flex (Tree.mk n1071 s1072 b1073 l1074 u1075)).length) c1098)), (46, .v (.slice A1105 ((countedB flex (Fld.nul (Fld.mk k931 y932 y933 y934 y935 y936 y937 l938) v (Tree.mk n911 s912 b913 l914 u915)) ((things l914).length) 4 ++ ((things l914).take k).flatMap (valueB (partB d l938 v flex) y937 false flex) ++ (valueB (partB d l938 v flex) y937 false flex (Tree.mk n1071 s1072 b1073 l1074 u1075))).length) c1106))]) (by simp only [List.length_append, List.length_cons, List.length_nil, Nat.zero_add])
        clear hE1111
        clear hE1116
        have hT1117 : TT w1057 [⟨b946, 0, [.int .i64 k931, .int .i64 y932, .int .i64 y933, .int .i64 y934, .int .i64 y935, .int .i64 y936, .int .i64 y937, .slice A939 l938.length c940], true⟩, ⟨b954, 0, [.int .i64 n911, .slice A916 s912.length c917, .bool b913, .slice A918 l914.length c919, .slice A920 u915.length c921], true⟩] [brow A_ c_ 5 (countedB flex (Fld.nul (Fld.mk k931 y932 y933 y934 y935 y936 y937 l938) v (Tree.mk n911 s912 b913 l914 u915)) ((things l914).length) 4 ++ ((things l914).take k).flatMap (valueB (partB d l938 v flex) y937 false flex))] w1108 := ⟨hW1113.cells, (Fr.trans (Fr.trans hF1103 hF1109) hF1115).step⟩
        refine ⟨fun _ => hT1117, ?_⟩
        refine anyC_op (i := 13) (by kernel_rfl) (wpOp_pure [1, 2, 4, 10, 11, 30, 31] hW1113.cells hE1114 (env' := [(1, .v (.int .i64 v)), (2, .v (.bool flex)), (4, .p 0 0), (10, .v (.slice A918 ((things l914).length) c919)), (11, .v (.slice A1105 ((countedB flex (Fld.nul (Fld.mk k931 y932 y933 y934 y935 y936 y937 l938) v (Tree.mk n911 s912 b913 l914 u915)) ((things l914).length) 4 ++ ((things l914).take k).flatMap (valueB (partB d l938 v flex) y937 false flex) ++ (valueB (partB d l938 v flex) y937 false flex (Tree.mk n1071 s1072 b1073 l1074 u1075))).length) c1106)), (30, .v (.int .i64 (((things l914).length : Nat) : Int))), (31, .v (.int .i64 ((k : Nat) : Int)))]) (by kernel_rfl) fun a1118 hE1119 => ?_)
        clear hE1114
        refine ⟨fun h => absurd rfl h, ?_⟩
        refine anyC_done (by kernel_rfl) ?_ _
        refine block_normal ?_
        refine then_normal ?_
        refine go_region [0, 1] (by kernel_rfl) ?_
        refine go_runs [0, 1] [] [1, 2, 4, 10, 11, 30, 31] hW1113 hE1119 (env' := [(1, .v (.int .i64 v)), (2, .v (.bool flex)), (4, .p 0 0), (10, .v (.slice A918 ((things l914).length) c919)), (11, .v (.slice A1105 ((countedB flex (Fld.nul (Fld.mk k931 y932 y933 y934 y935 y936 y937 l938) v (Tree.mk n911 s912 b913 l914 u915)) ((things l914).length) 4 ++ ((things l914).take k).flatMap (valueB (partB d l938 v flex) y937 false flex) ++ (valueB (partB d l938 v flex) y937 false flex (Tree.mk n1071 s1072 b1073 l1074 u1075))).length) c1106)), (30, .v (.int .i64 (((things l914).length : Nat) : Int))), (31, .v (.int .i64 (IntKind.i64.wrap (((k : Nat) : Int) + 1))))]) (by kernel_rfl) rfl fun a1120 hE1121 => ?_
        clear hE1119
        refine wpOps_nil ?_
        refine then_normal ?_
        have hW1122 : WOk _ _ _ _ [brow A1105 c1106 5 (countedB flex (Fld.nul (Fld.mk k931 y932 y933 y934 y935 y936 y937 l938) v (Tree.mk n911 s912 b913 l914 u915)) ((things l914).length) 4 ++ ((things l914).take k).flatMap (valueB (partB d l938 v flex) y937 false flex) ++ (valueB (partB d l938 v flex) y937 false flex (Tree.mk n1071 s1072 b1073 l1074 u1075)))] := hW1113.rows 1
        have hF1123 : Fr _ _ _ _ _ [brow A1105 c1106 5 (countedB flex (Fld.nul (Fld.mk k931 y932 y933 y934 y935 y936 y937 l938) v (Tree.mk n911 s912 b913 l914 u915)) ((things l914).length) 4 ++ ((things l914).take k).flatMap (valueB (partB d l938 v flex) y937 false flex) ++ (valueB (partB d l938 v flex) y937 false flex (Tree.mk n1071 s1072 b1073 l1074 u1075)))] := Fr.rows w1108 [⟨b946, 0, [.int .i64 k931, .int .i64 y932, .int .i64 y933, .int .i64 y934, .int .i64 y935, .int .i64 y936, .int .i64 y937, .slice A939 l938.length c940], true⟩, ⟨b954, 0, [.int .i64 n911, .slice A916 s912.length c917, .bool b913, .slice A918 l914.length c919, .slice A920 u915.length c921], true⟩] [brow A1105 c1106 5 (countedB flex (Fld.nul (Fld.mk k931 y932 y933 y934 y935 y936 y937 l938) v (Tree.mk n911 s912 b913 l914 u915)) ((things l914).length) 4 ++ ((things l914).take k).flatMap (valueB (partB d l938 v flex) y937 false flex) ++ (valueB (partB d l938 v flex) y937 false flex (Tree.mk n1071 s1072 b1073 l1074 u1075))), brow A1097 c1098 5 (valueB (partB d l938 v flex) y937 false flex (Tree.mk n1071 s1072 b1073 l1074 u1075))] 1
        have er1124 : (countedB flex (Fld.nul (Fld.mk k931 y932 y933 y934 y935 y936 y937 l938) v (Tree.mk n911 s912 b913 l914 u915)) ((things l914).length) 4 ++ ((things l914).take k).flatMap (valueB (partB d l938 v flex) y937 false flex) ++ (valueB (partB d l938 v flex) y937 false flex (Tree.mk n1071 s1072 b1073 l1074 u1075))) = (countedB flex (Fld.nul (Fld.mk k931 y932 y933 y934 y935 y936 y937 l938) v (Tree.mk n911 s912 b913 l914 u915)) ((things l914).length) 4 ++ ((things l914).take (k + 1)).flatMap (valueB (partB d l938 v flex) y937 false flex)) := by rw [flatMap_take_succ he1069, List.append_assoc]
        have hF1125 : Fr w1108 [⟨b946, 0, [.int .i64 k931, .int .i64 y932, .int .i64 y933, .int .i64 y934, .int .i64 y935, .int .i64 y936, .int .i64 y937, .slice A939 l938.length c940], true⟩, ⟨b954, 0, [.int .i64 n911, .slice A916 s912.length c917, .bool b913, .slice A918 l914.length c919, .slice A920 u915.length c921], true⟩] [brow A1105 c1106 5 (countedB flex (Fld.nul (Fld.mk k931 y932 y933 y934 y935 y936 y937 l938) v (Tree.mk n911 s912 b913 l914 u915)) ((things l914).length) 4 ++ ((things l914).take k).flatMap (valueB (partB d l938 v flex) y937 false flex) ++ (valueB (partB d l938 v flex) y937 false flex (Tree.mk n1071 s1072 b1073 l1074 u1075)))] w1108 [⟨b946, 0, [.int .i64 k931, .int .i64 y932, .int .i64 y933, .int .i64 y934, .int .i64 y935, .int .i64 y936, .int .i64 y937, .slice A939 l938.length c940], true⟩, ⟨b954, 0, [.int .i64 n911, .slice A916 s912.length c917, .bool b913, .slice A918 l914.length c919, .slice A920 u915.length c921], true⟩] [brow A1105 c1106 5 (countedB flex (Fld.nul (Fld.mk k931 y932 y933 y934 y935 y936 y937 l938) v (Tree.mk n911 s912 b913 l914 u915)) ((things l914).length) 4 ++ ((things l914).take (k + 1)).flatMap (valueB (partB d l938 v flex) y937 false flex))] := Fr.castR (Fr.refl _ _ _) (congrArg (fun z_ => List.set [brow A1105 c1106 5 (countedB flex (Fld.nul (Fld.mk k931 y932 y933 y934 y935 y936 y937 l938) v (Tree.mk n911 s912 b913 l914 u915)) ((things l914).length) 4 ++ ((things l914).take k).flatMap (valueB (partB d l938 v flex) y937 false flex) ++ (valueB (partB d l938 v flex) y937 false flex (Tree.mk n1071 s1072 b1073 l1074 u1075)))] 0 (brow A1105 c1106 5 z_)) er1124)
        rw [er1124] at hE1121 hW1122
        have hE1126 := EnvOk.pick hE1121 (ks := [1, 2, 4, 10, 11, 30, 31]) (env' := [(1, .v (.int .i64 v)), (2, .v (.bool flex)), (4, .p 0 0), (10, .v (.slice A918 ((things l914).length) c919)), (11, .v (.slice A1105 ((countedB flex (Fld.nul (Fld.mk k931 y932 y933 y934 y935 y936 y937 l938) v (Tree.mk n911 s912 b913 l914 u915)) ((things l914).length) 4 ++ ((things l914).take (k + 1)).flatMap (valueB (partB d l938 v flex) y937 false flex)).length) c1106)), (30, .v (.int .i64 (((things l914).length : Nat) : Int))), (31, .v (.int .i64 (IntKind.i64.wrap (((k : Nat) : Int) + 1))))]) (by kernel_rfl)
        have he1127 : IntKind.i64.wrap (((k : Nat) : Int) + 1) = ((k + 1 : Nat) : Int) := wrap_succ (by omega)
        rw [he1127] at hE1126
        exact ⟨(things l914).length - (k + 1), by omega, k + 1, A1105, c1106, rfl, by omega, hE1126, hW1122, (Fr.trans (Fr.trans (Fr.trans (Fr.trans (Fr.trans (Fr.trans hF1049 hF1058) hF1103) hF1109) hF1115) hF1123) hF1125)⟩
      ·
        have hf1128 := of_decide_eq_false hc1053
        refine wp_exit ?_
        refine then_exit ?_
        refine then_exit ?_
        refine block_exit ?_
        refine then_normal ?_
        refine go_seq_region [0, 1] (by kernel_rfl) ?_
        refine go_runs [0, 1] [] [8] hW1046 hE1052 (env' := [(8, .v (.slice A_ ((countedB flex (Fld.nul (Fld.mk k931 y932 y933 y934 y935 y936 y937 l938) v (Tree.mk n911 s912 b913 l914 u915)) ((things l914).length) 4 ++ ((things l914).take k).flatMap (valueB (partB d l938 v flex) y937 false flex)).length) c_))]) (by kernel_rfl) rfl fun a1129 hE1130 => ?_
        clear hE1052
        refine wpOps_nil ?_
        refine then_normal ?_
        refine wp_ret ?_
        refine then_ret ?_
        refine leave hE1130 hW1046.cells (v := .slice A_ ((countedB flex (Fld.nul (Fld.mk k931 y932 y933 y934 y935 y936 y937 l938) v (Tree.mk n911 s912 b913 l914 u915)) ((things l914).length) 4 ++ ((things l914).take k).flatMap (valueB (partB d l938 v flex) y937 false flex)).length) c_) (by kernel_rfl) ?_
        have hkk : (things l914).take k = things l914 := List.take_of_length_le (by omega)
        exact fresh_end hW1046 (k := 0) rfl (by rw [hkk, fieldD_11 (by assumption) (by assumption)]; rfl)
  ·
    have hf1131 : k931 ≠ 11 := by simpa using hc976
    refine wp_skip ?_
    refine then_normal ?_
    refine wp_seq ?_
    refine go_seq_region [0, 1, 2, 3, 4, 5, 6, 7] (by kernel_rfl) ?_
    refine go_runs [0, 1, 2, 3] [4, 5, 6, 7] [1, 2, 4, 7, 9, 52] hW970 hE975 (env' := [(1, .v (.int .i64 v)), (2, .v (.bool flex)), (4, .p 0 0), (7, .p 1 0), (9, .v (.bool (Fld.nul (Fld.mk k931 y932 y933 y934 y935 y936 y937 l938) v (Tree.mk n911 s912 b913 l914 u915)))), (52, .v (.bool (k931 == 10)))]) (by kernel_rfl) rfl fun a1132 hE1133 => ?_
    clear hE975
    refine (Bool.eq_false_or_eq_true (k931 == 10)).elim (fun hc1134 => ?_) (fun hc1134 => ?_)
    ·
      have hf1135 : k931 = 10 := by simpa using hc1134
      have hE1136 := hE1133.cast (env' := [(1, .v (.int .i64 v)), (2, .v (.bool flex)), (4, .p 0 0), (7, .p 1 0), (9, .v (.bool (Fld.nul (Fld.mk k931 y932 y933 y934 y935 y936 y937 l938) v (Tree.mk n911 s912 b913 l914 u915)))), (52, .v (.bool true))]) (by rw [hc1134])
      clear hE1133
      refine go_runs [4, 5, 6, 7] [] [1, 2, 4, 7, 9, 56] hW970 hE1136 (env' := [(1, .v (.int .i64 v)), (2, .v (.bool flex)), (4, .p 0 0), (7, .p 1 0), (9, .v (.bool (Fld.nul (Fld.mk k931 y932 y933 y934 y935 y936 y937 l938) v (Tree.mk n911 s912 b913 l914 u915)))), (56, .v (.bool (decide (y934 ≥ 0))))]) (by kernel_rfl) rfl fun a1137 hE1138 => ?_
      clear hE1136
      refine wpOps_nil ?_
      refine then_normal ?_
      refine cond_of hE1138 (b := decide (y934 ≥ 0)) (by kernel_rfl) (fun hc1139 => ?_) (fun hc1139 => ?_)
      ·
        have hf1140 := of_decide_eq_true hc1139
        refine wp_seq ?_
        refine go_seq_region [0] (by kernel_rfl) ?_
        refine go_runs [0] [] [1, 2, 4, 7, 57] hW970 hE1138 (env' := [(1, .v (.int .i64 v)), (2, .v (.bool flex)), (4, .p 0 0), (7, .p 1 0), (57, .v (.bool (Fld.nul (Fld.mk k931 y932 y933 y934 y935 y936 y937 l938) v (Tree.mk n911 s912 b913 l914 u915))))]) (by kernel_rfl) rfl fun a1141 hE1142 => ?_
        clear hE1138
        refine wpOps_nil ?_
        refine then_normal ?_
        refine cond_of hE1142 (b := Fld.nul (Fld.mk k931 y932 y933 y934 y935 y936 y937 l938) v (Tree.mk n911 s912 b913 l914 u915)) (by kernel_rfl) (fun hc1143 => ?_) (fun hc1143 => ?_)
        ·
          refine go_seq_region [0, 1] (by kernel_rfl) ?_
          refine of_op (wpOp_call hE1142 (f := 146) (vs := [.int .i64 (-1), .int .i64 1]) (d := 58) (by kernel_rfl) Try.call146 (sFixed (-1) 1 (by first | decide | exact widthI_le _ | omega) _) ?_)
          rintro e_ w1149 ⟨A1147, c1148, rfl, ho1146, hs1145⟩
          refine ⟨_, rfl, fun a1150 hE1151 => ?_⟩
          have hW1152 := hW970.fresh hs1145 (brow A1147 c1148 5 (be 1 (-1))) (Nat.le_refl _) ho1146
          have hF1153 := Fr.fresh [⟨b946, 0, [.int .i64 k931, .int .i64 y932, .int .i64 y933, .int .i64 y934, .int .i64 y935, .int .i64 y936, .int .i64 y937, .slice A939 l938.length c940], true⟩, ⟨b954, 0, [.int .i64 n911, .slice A916 s912.length c917, .bool b913, .slice A918 l914.length c919, .slice A920 u915.length c921], true⟩] [] hs1145 (brow A1147 c1148 5 (be 1 (-1))) (Nat.le_refl _) ho1146
          clear hE1142 hW970
          refine go_runs [1] [] [8] hW1152 hE1151 (env' := [(8, .v (.slice A1147 ((be 1 (-1)).length) c1148))]) (by kernel_rfl) rfl fun a1154 hE1155 => ?_
          clear hE1151
          refine wpOps_nil ?_
          refine then_normal ?_
          refine wp_ret ?_
          refine then_ret ?_
          refine then_ret ?_
          refine leave hE1155 hW1152.cells (v := .slice A1147 ((be 1 (-1)).length) c1148) (by kernel_rfl) ?_
          exact fresh_end hW1152 (k := 0) rfl (by first | rw [fieldD_0 (by assumption) (by assumption)] | rw [fieldD_1 (by assumption) (by assumption) (by assumption)] | rw [fieldD_10 (by assumption) (by assumption) (by assumption) (by assumption)] | rw [fieldD_10n (by assumption) (by assumption) (by assumption) (by assumption)])
        ·
          refine wp_skip ?_
          refine then_normal ?_
          refine go_seq_drawK 8 (by kernel_rfl) hW970 fun w1157 hF1158 hW1159 hT1160 => ?_
          clear hW970
          refine go_runsD [1, 2, 3, 4, 5] [61, 62, 63, 64] 4 (by kernel_rfl) (panicFree_then (panicFree_then panicFree_body)) (fun _ h => h.cells) hT1160 hE1142 (by kernel_rfl) (env' := [(61, .v (.slice A939 l938.length c940)), (62, .v (.int .i64 v)), (63, .v (.bool flex)), (64, .v (.agg #[.int .i64 n911, .slice A916 s912.length c917, .bool b913, .slice A918 l914.length c919, .slice A920 u915.length c921]))]) (by kernel_rfl) rfl fun a1161 hE1162 => ?_
          clear hE1142
          refine anyC_op (i := 0) (by kernel_rfl) (wpOp_call hE1162 (f := 146) (vs := [.int .i64 1, .int .i64 1]) (d := 59) (by kernel_rfl) Try.call146 (sFixed 1 1 (by first | decide | exact widthI_le _ | omega) _) ?_)
          rintro e_ w1167 ⟨A1165, c1166, rfl, ho1164, hs1163⟩
          refine ⟨_, rfl, fun a1168 hE1169 => ?_⟩
          have hW1170 := hW1159.fresh hs1163 (brow A1165 c1166 5 (be 1 1)) (Nat.le_refl _) ho1164
          have hF1171 := Fr.fresh [⟨b946, 0, [.int .i64 k931, .int .i64 y932, .int .i64 y933, .int .i64 y934, .int .i64 y935, .int .i64 y936, .int .i64 y937, .slice A939 l938.length c940], true⟩, ⟨b954, 0, [.int .i64 n911, .slice A916 s912.length c917, .bool b913, .slice A918 l914.length c919, .slice A920 u915.length c921], true⟩] [] hs1163 (brow A1165 c1166 5 (be 1 1)) (Nat.le_refl _) ho1164
          clear hE1162
          have hT1172 : TT w1157 [⟨b946, 0, [.int .i64 k931, .int .i64 y932, .int .i64 y933, .int .i64 y934, .int .i64 y935, .int .i64 y936, .int .i64 y937, .slice A939 l938.length c940], true⟩, ⟨b954, 0, [.int .i64 n911, .slice A916 s912.length c917, .bool b913, .slice A918 l914.length c919, .slice A920 u915.length c921], true⟩] [] w1167 := ⟨hW1170.cells, hF1171.step⟩
          refine ⟨fun _ => hT1172, ?_⟩
          refine anyC_op (i := 6) (by kernel_rfl) (wpOp_call hE1169 (f := 51) (vs := [.slice A939 l938.length c940, .int .i64 v, .bool flex, .agg #[.int .i64 n911, .slice A916 s912.length c917, .bool b913, .slice A918 l914.length c919, .slice A920 u915.length c921]]) (d := 65) (by kernel_rfl) Try.call51 (hp _ _ l938 v flex _ (Tree.mk n911 s912 b913 l914 u915) _ _ ⟨xs941, (h943.move hW1170.step nilM hW1170.imm), (fun i_ x_ h_ => ((h944 i_ x_ h_).move hW1170.step nilM hW1170.imm))⟩ hd (ht.move hW1170.step nilM hW1170.imm) (by have h9_ := hroom; rw [fieldD_10 (by assumption) (by assumption) (by assumption) (by assumption), List.length_append] at h9_; omega)) ?_)
          rintro e_ w1177 ⟨A1175, c1176, rfl, ho1174, hs1173⟩
          refine ⟨_, rfl, fun a1178 hE1179 => ?_⟩
          have hW1180 := hW1170.fresh hs1173 (brow A1175 c1176 5 (partB d l938 v flex (Tree.mk n911 s912 b913 l914 u915))) (Nat.le_refl _) ho1174
          have hF1181 := Fr.fresh [⟨b946, 0, [.int .i64 k931, .int .i64 y932, .int .i64 y933, .int .i64 y934, .int .i64 y935, .int .i64 y936, .int .i64 y937, .slice A939 l938.length c940], true⟩, ⟨b954, 0, [.int .i64 n911, .slice A916 s912.length c917, .bool b913, .slice A918 l914.length c919, .slice A920 u915.length c921], true⟩] [brow A1165 c1166 5 (be 1 1)] hs1173 (brow A1175 c1176 5 (partB d l938 v flex (Tree.mk n911 s912 b913 l914 u915))) (Nat.le_refl _) ho1174
          clear hE1169 hW1170
          have hT1182 : TT w1157 [⟨b946, 0, [.int .i64 k931, .int .i64 y932, .int .i64 y933, .int .i64 y934, .int .i64 y935, .int .i64 y936, .int .i64 y937, .slice A939 l938.length c940], true⟩, ⟨b954, 0, [.int .i64 n911, .slice A916 s912.length c917, .bool b913, .slice A918 l914.length c919, .slice A920 u915.length c921], true⟩] [] w1177 := ⟨hW1180.cells, (Fr.trans hF1171 hF1181).step⟩
          refine ⟨fun _ => hT1182, ?_⟩
          refine anyC_op (i := 7) (by kernel_rfl) (wpOp_append hW1180 hE1179 (k := 0) (d := 66) (t := 22) (e := 5) (size := 1) (bytes := 1) (A := A1165) (As := A1175) (m0 := ((be 1 1).length)) (c := c1166) (m := ((partB d l938 v flex (Tree.mk n911 s912 b913 l914 u915)).length)) (cs := c1176) (xs := (bc (be 1 1))) (news := bc (partB d l938 v flex (Tree.mk n911 s912 b913 l914 u915))) (by kernel_rfl) (by kernel_rfl) rfl (own_src (hW1180.own 1 _ rfl) (bc_one _)) (own_cap (hW1180.own 1 _ rfl)) (by have h9_ := hroom; rw [fieldD_10 (by assumption) (by assumption) (by assumption) (by assumption), List.length_append] at h9_; omega) fun A1183 c1184 a1185 w1186 hF1187 hW1188 hE1189 => ?_)
          clear hE1179 hW1180
          have er1190 : (⟨A1183, c1184, 5, 1, (be 1 1).length + (partB d l938 v flex (Tree.mk n911 s912 b913 l914 u915)).length, bc (be 1 1) ++ bc (partB d l938 v flex (Tree.mk n911 s912 b913 l914 u915))⟩ : Rw) = brow A1183 c1184 5 (be 1 1 ++ (partB d l938 v flex (Tree.mk n911 s912 b913 l914 u915))) := brow_eq (rfl) rfl
          have hW1191 : WOk _ _ _ _ [brow A1183 c1184 5 (be 1 1 ++ (partB d l938 v flex (Tree.mk n911 s912 b913 l914 u915))), brow A1175 c1176 5 (partB d l938 v flex (Tree.mk n911 s912 b913 l914 u915))] := hW1188.castR (congrArg (fun r_ => List.set [⟨A1183, c1184, 5, 1, (be 1 1).length + (partB d l938 v flex (Tree.mk n911 s912 b913 l914 u915)).length, bc (be 1 1) ++ bc (partB d l938 v flex (Tree.mk n911 s912 b913 l914 u915))⟩, brow A1175 c1176 5 (partB d l938 v flex (Tree.mk n911 s912 b913 l914 u915))] 0 r_) er1190)
          have hF1193 : Fr w1186 [⟨b946, 0, [.int .i64 k931, .int .i64 y932, .int .i64 y933, .int .i64 y934, .int .i64 y935, .int .i64 y936, .int .i64 y937, .slice A939 l938.length c940], true⟩, ⟨b954, 0, [.int .i64 n911, .slice A916 s912.length c917, .bool b913, .slice A918 l914.length c919, .slice A920 u915.length c921], true⟩] [⟨A1183, c1184, 5, 1, (be 1 1).length + (partB d l938 v flex (Tree.mk n911 s912 b913 l914 u915)).length, bc (be 1 1) ++ bc (partB d l938 v flex (Tree.mk n911 s912 b913 l914 u915))⟩, brow A1175 c1176 5 (partB d l938 v flex (Tree.mk n911 s912 b913 l914 u915))] w1186 [⟨b946, 0, [.int .i64 k931, .int .i64 y932, .int .i64 y933, .int .i64 y934, .int .i64 y935, .int .i64 y936, .int .i64 y937, .slice A939 l938.length c940], true⟩, ⟨b954, 0, [.int .i64 n911, .slice A916 s912.length c917, .bool b913, .slice A918 l914.length c919, .slice A920 u915.length c921], true⟩] [brow A1183 c1184 5 (be 1 1 ++ (partB d l938 v flex (Tree.mk n911 s912 b913 l914 u915))), brow A1175 c1176 5 (partB d l938 v flex (Tree.mk n911 s912 b913 l914 u915))] := Fr.castR (Fr.refl _ _ _) (congrArg (fun r_ => List.set [⟨A1183, c1184, 5, 1, (be 1 1).length + (partB d l938 v flex (Tree.mk n911 s912 b913 l914 u915)).length, bc (be 1 1) ++ bc (partB d l938 v flex (Tree.mk n911 s912 b913 l914 u915))⟩, brow A1175 c1176 5 (partB d l938 v flex (Tree.mk n911 s912 b913 l914 u915))] 0 r_) er1190)
          clear hW1188
          have hE1194 := EnvOk.pick hE1189 (ks := [61, 62, 63, 64, 59, 65, 66]) (env' := [(61, .v (.slice A939 l938.length c940)), (62, .v (.int .i64 v)), (63, .v (.bool flex)), (64, .v (.agg #[.int .i64 n911, .slice A916 s912.length c917, .bool b913, .slice A918 l914.length c919, .slice A920 u915.length c921])), (59, .v (.slice A1165 ((be 1 1).length) c1166)), (65, .v (.slice A1175 ((partB d l938 v flex (Tree.mk n911 s912 b913 l914 u915)).length) c1176)), (66, .v (.slice A1183 ((be 1 1).length + (partB d l938 v flex (Tree.mk n911 s912 b913 l914 u915)).length) c1184))]) (by kernel_rfl)
          have hE1192 := hE1194.cast (env' := [(61, .v (.slice A939 l938.length c940)), (62, .v (.int .i64 v)), (63, .v (.bool flex)), (64, .v (.agg #[.int .i64 n911, .slice A916 s912.length c917, .bool b913, .slice A918 l914.length c919, .slice A920 u915.length c921])), (59, .v (.slice A1165 ((be 1 1).length) c1166)), (65, .v (.slice A1175 ((partB d l938 v flex (Tree.mk n911 s912 b913 l914 u915)).length) c1176)), (66, .v (.slice A1183 ((be 1 1 ++ (partB d l938 v flex (Tree.mk n911 s912 b913 l914 u915))).length) c1184))]) (by simp only [List.length_append, List.length_cons, List.length_nil, Nat.zero_add])
          clear hE1189
          clear hE1194
          have hT1195 : TT w1157 [⟨b946, 0, [.int .i64 k931, .int .i64 y932, .int .i64 y933, .int .i64 y934, .int .i64 y935, .int .i64 y936, .int .i64 y937, .slice A939 l938.length c940], true⟩, ⟨b954, 0, [.int .i64 n911, .slice A916 s912.length c917, .bool b913, .slice A918 l914.length c919, .slice A920 u915.length c921], true⟩] [] w1186 := ⟨hW1191.cells, (Fr.trans (Fr.trans (Fr.trans hF1171 hF1181) hF1187) hF1193).step⟩
          refine ⟨fun _ => hT1195, ?_⟩
          refine anyC_op (i := 8) (by kernel_rfl) (wpOp_pure [8] hW1191.cells hE1192 (env' := [(8, .v (.slice A1183 ((be 1 1 ++ (partB d l938 v flex (Tree.mk n911 s912 b913 l914 u915))).length) c1184))]) (by kernel_rfl) fun a1196 hE1197 => ?_)
          clear hE1192
          refine ⟨fun h => absurd rfl h, ?_⟩
          refine anyC_done (by kernel_rfl) ?_ _
          refine then_normal ?_
          refine wp_ret ?_
          refine then_ret ?_
          refine leave hE1197 hW1191.cells (v := .slice A1183 ((be 1 1 ++ (partB d l938 v flex (Tree.mk n911 s912 b913 l914 u915))).length) c1184) (by kernel_rfl) ?_
          exact fresh_end hW1191 (k := 0) rfl (by first | rw [fieldD_0 (by assumption) (by assumption)] | rw [fieldD_1 (by assumption) (by assumption) (by assumption)] | rw [fieldD_10 (by assumption) (by assumption) (by assumption) (by assumption)] | rw [fieldD_10n (by assumption) (by assumption) (by assumption) (by assumption)])
      ·
        have hf1198 := of_decide_eq_false hc1139
        refine wp_skip ?_
        refine then_normal ?_
        refine go_seq_region [0, 1, 2, 3, 4, 5, 6, 7, 8, 9] (by kernel_rfl) ?_
        refine go_runs [0, 1, 2, 3, 4, 5, 6, 7] [8, 9] [68, 70, 71, 72, 73, 74] hW970 hE1138 (env' := [(68, .v (.int .i64 k931)), (70, .v (.slice A939 l938.length c940)), (71, .v (.bool (Fld.nul (Fld.mk k931 y932 y933 y934 y935 y936 y937 l938) v (Tree.mk n911 s912 b913 l914 u915)))), (72, .v (.int .i64 v)), (73, .v (.bool flex)), (74, .v (.agg #[.int .i64 n911, .slice A916 s912.length c917, .bool b913, .slice A918 l914.length c919, .slice A920 u915.length c921]))]) (by kernel_rfl) rfl fun a1199 hE1200 => ?_
        clear hE1138
        refine of_op (wpOp_call hE1200 (f := 145) (vs := [.int .i64 k931, .slice A939 l938.length c940, .bool (Fld.nul (Fld.mk k931 y932 y933 y934 y935 y936 y937 l938) v (Tree.mk n911 s912 b913 l914 u915)), .int .i64 v, .bool flex, .agg #[.int .i64 n911, .slice A916 s912.length c917, .bool b913, .slice A918 l914.length c919, .slice A920 u915.length c921]]) (d := 75) (by kernel_rfl) Try.call145 (sValue hp k931 _ _ l938 (Fld.nul (Fld.mk k931 y932 y933 y934 y935 y936 y937 l938) v (Tree.mk n911 s912 b913 l914 u915)) v flex _ (Tree.mk n911 s912 b913 l914 u915) _ _ ⟨xs941, (h943.move hW970.step nilM hW970.imm), (fun i_ x_ h_ => ((h944 i_ x_ h_).move hW970.step nilM hW970.imm))⟩ hd (ht.move hW970.step nilM hW970.imm) (by have h_ := hroom; (first | rw [fieldD_0 (by assumption) (by assumption)] at h_ | rw [fieldD_1 (by assumption) (by assumption) (by assumption)] at h_); exact h_)) ?_)
        rintro e_ w1205 ⟨A1203, c1204, rfl, ho1202, hs1201⟩
        refine ⟨_, rfl, fun a1206 hE1207 => ?_⟩
        have hW1208 := hW970.fresh hs1201 (brow A1203 c1204 5 (valueB (partB d l938 v flex) k931 (Fld.nul (Fld.mk k931 y932 y933 y934 y935 y936 y937 l938) v (Tree.mk n911 s912 b913 l914 u915)) flex (Tree.mk n911 s912 b913 l914 u915))) (Nat.le_refl _) ho1202
        have hF1209 := Fr.fresh [⟨b946, 0, [.int .i64 k931, .int .i64 y932, .int .i64 y933, .int .i64 y934, .int .i64 y935, .int .i64 y936, .int .i64 y937, .slice A939 l938.length c940], true⟩, ⟨b954, 0, [.int .i64 n911, .slice A916 s912.length c917, .bool b913, .slice A918 l914.length c919, .slice A920 u915.length c921], true⟩] [] hs1201 (brow A1203 c1204 5 (valueB (partB d l938 v flex) k931 (Fld.nul (Fld.mk k931 y932 y933 y934 y935 y936 y937 l938) v (Tree.mk n911 s912 b913 l914 u915)) flex (Tree.mk n911 s912 b913 l914 u915))) (Nat.le_refl _) ho1202
        clear hE1200 hW970
        refine go_runs [9] [] [8] hW1208 hE1207 (env' := [(8, .v (.slice A1203 ((valueB (partB d l938 v flex) k931 (Fld.nul (Fld.mk k931 y932 y933 y934 y935 y936 y937 l938) v (Tree.mk n911 s912 b913 l914 u915)) flex (Tree.mk n911 s912 b913 l914 u915)).length) c1204))]) (by kernel_rfl) rfl fun a1210 hE1211 => ?_
        clear hE1207
        refine wpOps_nil ?_
        refine then_normal ?_
        refine wp_ret ?_
        refine leave hE1211 hW1208.cells (v := .slice A1203 ((valueB (partB d l938 v flex) k931 (Fld.nul (Fld.mk k931 y932 y933 y934 y935 y936 y937 l938) v (Tree.mk n911 s912 b913 l914 u915)) flex (Tree.mk n911 s912 b913 l914 u915)).length) c1204) (by kernel_rfl) ?_
        exact fresh_end hW1208 (k := 0) rfl (by first | rw [fieldD_0 (by assumption) (by assumption)] | rw [fieldD_1 (by assumption) (by assumption) (by assumption)] | rw [fieldD_10 (by assumption) (by assumption) (by assumption) (by assumption)] | rw [fieldD_10n (by assumption) (by assumption) (by assumption) (by assumption)])
    ·
      have hf1212 : k931 ≠ 10 := by simpa using hc1134
      have hE1213 := hE1133.cast (env' := [(1, .v (.int .i64 v)), (2, .v (.bool flex)), (4, .p 0 0), (7, .p 1 0), (9, .v (.bool (Fld.nul (Fld.mk k931 y932 y933 y934 y935 y936 y937 l938) v (Tree.mk n911 s912 b913 l914 u915)))), (52, .v (.bool false))]) (by rw [hc1134])
      clear hE1133
      refine go_runs [4, 5, 6, 7] [] [1, 2, 4, 7, 9, 56] hW970 hE1213 (env' := [(1, .v (.int .i64 v)), (2, .v (.bool flex)), (4, .p 0 0), (7, .p 1 0), (9, .v (.bool (Fld.nul (Fld.mk k931 y932 y933 y934 y935 y936 y937 l938) v (Tree.mk n911 s912 b913 l914 u915)))), (56, .v (.bool false))]) (by kernel_rfl) rfl fun a1214 hE1215 => ?_
      clear hE1213
      refine wpOps_nil ?_
      refine then_normal ?_
      refine cond_false hE1215 (b := false) (by kernel_rfl) rfl ?_
      refine wp_skip ?_
      refine then_normal ?_
      refine go_seq_region [0, 1, 2, 3, 4, 5, 6, 7, 8, 9] (by kernel_rfl) ?_
      refine go_runs [0, 1, 2, 3, 4, 5, 6, 7] [8, 9] [68, 70, 71, 72, 73, 74] hW970 hE1215 (env' := [(68, .v (.int .i64 k931)), (70, .v (.slice A939 l938.length c940)), (71, .v (.bool (Fld.nul (Fld.mk k931 y932 y933 y934 y935 y936 y937 l938) v (Tree.mk n911 s912 b913 l914 u915)))), (72, .v (.int .i64 v)), (73, .v (.bool flex)), (74, .v (.agg #[.int .i64 n911, .slice A916 s912.length c917, .bool b913, .slice A918 l914.length c919, .slice A920 u915.length c921]))]) (by kernel_rfl) rfl fun a1216 hE1217 => ?_
      clear hE1215
      refine of_op (wpOp_call hE1217 (f := 145) (vs := [.int .i64 k931, .slice A939 l938.length c940, .bool (Fld.nul (Fld.mk k931 y932 y933 y934 y935 y936 y937 l938) v (Tree.mk n911 s912 b913 l914 u915)), .int .i64 v, .bool flex, .agg #[.int .i64 n911, .slice A916 s912.length c917, .bool b913, .slice A918 l914.length c919, .slice A920 u915.length c921]]) (d := 75) (by kernel_rfl) Try.call145 (sValue hp k931 _ _ l938 (Fld.nul (Fld.mk k931 y932 y933 y934 y935 y936 y937 l938) v (Tree.mk n911 s912 b913 l914 u915)) v flex _ (Tree.mk n911 s912 b913 l914 u915) _ _ ⟨xs941, (h943.move hW970.step nilM hW970.imm), (fun i_ x_ h_ => ((h944 i_ x_ h_).move hW970.step nilM hW970.imm))⟩ hd (ht.move hW970.step nilM hW970.imm) (by have h_ := hroom; (first | rw [fieldD_0 (by assumption) (by assumption)] at h_ | rw [fieldD_1 (by assumption) (by assumption) (by assumption)] at h_); exact h_)) ?_)
      rintro e_ w1222 ⟨A1220, c1221, rfl, ho1219, hs1218⟩
      refine ⟨_, rfl, fun a1223 hE1224 => ?_⟩
      have hW1225 := hW970.fresh hs1218 (brow A1220 c1221 5 (valueB (partB d l938 v flex) k931 (Fld.nul (Fld.mk k931 y932 y933 y934 y935 y936 y937 l938) v (Tree.mk n911 s912 b913 l914 u915)) flex (Tree.mk n911 s912 b913 l914 u915))) (Nat.le_refl _) ho1219
      have hF1226 := Fr.fresh [⟨b946, 0, [.int .i64 k931, .int .i64 y932, .int .i64 y933, .int .i64 y934, .int .i64 y935, .int .i64 y936, .int .i64 y937, .slice A939 l938.length c940], true⟩, ⟨b954, 0, [.int .i64 n911, .slice A916 s912.length c917, .bool b913, .slice A918 l914.length c919, .slice A920 u915.length c921], true⟩] [] hs1218 (brow A1220 c1221 5 (valueB (partB d l938 v flex) k931 (Fld.nul (Fld.mk k931 y932 y933 y934 y935 y936 y937 l938) v (Tree.mk n911 s912 b913 l914 u915)) flex (Tree.mk n911 s912 b913 l914 u915))) (Nat.le_refl _) ho1219
      clear hE1217 hW970
      refine go_runs [9] [] [8] hW1225 hE1224 (env' := [(8, .v (.slice A1220 ((valueB (partB d l938 v flex) k931 (Fld.nul (Fld.mk k931 y932 y933 y934 y935 y936 y937 l938) v (Tree.mk n911 s912 b913 l914 u915)) flex (Tree.mk n911 s912 b913 l914 u915)).length) c1221))]) (by kernel_rfl) rfl fun a1227 hE1228 => ?_
      clear hE1224
      refine wpOps_nil ?_
      refine then_normal ?_
      refine wp_ret ?_
      refine leave hE1228 hW1225.cells (v := .slice A1220 ((valueB (partB d l938 v flex) k931 (Fld.nul (Fld.mk k931 y932 y933 y934 y935 y936 y937 l938) v (Tree.mk n911 s912 b913 l914 u915)) flex (Tree.mk n911 s912 b913 l914 u915)).length) c1221) (by kernel_rfl) ?_
      exact fresh_end hW1225 (k := 0) rfl (by first | rw [fieldD_0 (by assumption) (by assumption)] | rw [fieldD_1 (by assumption) (by assumption) (by assumption)] | rw [fieldD_10 (by assumption) (by assumption) (by assumption) (by assumption)] | rw [fieldD_10n (by assumption) (by assumption) (by assumption) (by assumption)])

end Go.Proofs.Ytbjopfcbpobnpaa.ME
