/- Contracts: printed by tools/sp.py. Own work. -/
import Derived.Test.YtlkiilgbpliakaaSw
namespace Go.Proofs.Ytlkiilgbpliakaa.ME
open Go
set_option linter.unusedVariables false
set_option linter.unusedSimpArgs false
set_option maxRecDepth 20000

theorem sPartOK : ∀ d, PartOK d
  | 0 => fun A c l v flex ct t w F hl hd ht hr => sPart (fun _ _ => []) A c l v flex ct t w F (fun cf f ct t w F hm hf ht hr => by
      obtain ⟨i, hi⟩ := List.mem_iff_getElem?.1 hm
      have h := depths_get hi
      obtain ⟨k, x1, x2, x3, x4, x5, x6, l, A, c, xs, rfl, _⟩ := hf.open_
      rw [depth_mk] at h; omega) hl ht hr
  | d + 1 => fun A c l v flex ct t w F hl hd ht hr => sPart (fun f t => fieldD d f v flex t) A c l v flex ct t w F (fun cf f ct t w F hm hf ht hr => sField (sPartOK d) cf f v flex ct t w F hf (by
      obtain ⟨i, hi⟩ := List.mem_iff_getElem?.1 hm
      have h := depths_get hi
      obtain ⟨k, x1, x2, x3, x4, x5, x6, l, A, c, xs, rfl, _⟩ := hf.open_
      rw [depth_mk] at h
      show depths l ≤ d
      omega) ht hr) hl ht hr

theorem sWrite {d : Nat} (A : Option Addr) (c : Nat) (l : List Fld) (x v : Int) (ct : List Value) (t : Tree) (w : World) (F : Nat → Nat → Prop) (hl : FldsR w F A c l) (hd : depths l ≤ d) (ht : TreeR w F ct t) (hroom : (writeB d l x v t).length ≤ 1099511627776) :
    Calls Try.prog 19 #[.agg #[.slice A l.length c, .int .i64 x], .int .i64 v, .agg ct.toArray] w (FreshB w 5 (writeB d l x v t)) := by
  obtain ⟨xfs, h1, h2⟩ := hl.ex
  have hsm := h1.small
  obtain ⟨n2678, s2679, b2680, l2681, u2682, A2683, c2684, A2685, c2686, A2687, c2688, xs2689, rfl, rfl, h2691, h2692, h2693, h2694⟩ := ht.open_
  have hsm2696 := h2691.small
  have hsm2697 := h2692.small
  refine enter (n := 21) Try.func19 rfl Try.ntmps19 (by kernel_rfl) fun a hE => ?_
  have hW := WOk.start w Nil
  refine go_seq_region [0, 1, 2] (by kernel_rfl) ?_
  refine of_op (wpOp_box hW hE (d := 3) (cs := [.slice A l.length c, .int .i64 x]) (by kernel_rfl) fun b2698 a2699 w2700 hb2701 hz2702 hF2703 hW2704 hE2705 => ?_)
  clear hE hW
  refine of_op (wpOp_box hW2704 hE2705 (d := 5) (cs := [.int .i64 n2678, .slice A2683 s2679.length c2684, .bool b2680, .slice A2685 l2681.length c2686, .slice A2687 u2682.length c2688]) (by kernel_rfl) fun b2706 a2707 w2708 hb2709 hz2710 hF2711 hW2712 hE2713 => ?_)
  clear hE2705 hW2704
  refine go_runs [2] [] [1, 3, 5] hW2712 hE2713 (env' := [(1, .v (.int .i64 v)), (3, .p 0 0), (5, .p 1 0)]) (by kernel_rfl) rfl fun a2714 hE2715 => ?_
  clear hE2713
  refine wpOps_nil ?_
  refine then_normal ?_
  refine go_seq_region [0, 1, 2, 3, 4, 5, 6, 7, 8, 9, 10, 11, 12, 13, 14] (by kernel_rfl) ?_
  refine go_runs [0, 1, 2, 3, 4, 5, 6] [7, 8, 9, 10, 11, 12, 13, 14] [1, 3, 5, 8, 9, 13] hW2712 hE2715 (env' := [(1, .v (.int .i64 v)), (3, .p 0 0), (5, .p 1 0), (8, .v (.slice A l.length c)), (9, .v (.int .i64 v)), (13, .v (.bool (decide (x ≥ 0))))]) (by kernel_rfl) rfl fun a2716 hE2717 => ?_
  clear hE2715
  refine (Bool.eq_false_or_eq_true (decide (x ≥ 0))).elim (fun hc2718 => ?_) (fun hc2718 => ?_)
  ·
    have hf2719 := of_decide_eq_true hc2718
    have hE2720 := hE2717.cast (env' := [(1, .v (.int .i64 v)), (3, .p 0 0), (5, .p 1 0), (8, .v (.slice A l.length c)), (9, .v (.int .i64 v)), (13, .v (.bool true))]) (by rw [hc2718])
    clear hE2717
    refine go_runs [7, 8, 9, 10, 11, 12] [13, 14] [8, 9, 18, 19] hW2712 hE2720 (env' := [(8, .v (.slice A l.length c)), (9, .v (.int .i64 v)), (18, .v (.bool (decide (v ≥ x)))), (19, .v (.agg #[.int .i64 n2678, .slice A2683 s2679.length c2684, .bool b2680, .slice A2685 l2681.length c2686, .slice A2687 u2682.length c2688]))]) (by kernel_rfl) rfl fun a2721 hE2722 => ?_
    clear hE2720
    refine of_op (wpOp_call hE2722 (f := 42) (vs := [.slice A l.length c, .int .i64 v, .bool (decide (v ≥ x)), .agg #[.int .i64 n2678, .slice A2683 s2679.length c2684, .bool b2680, .slice A2685 l2681.length c2686, .slice A2687 u2682.length c2688]]) (d := 20) (by kernel_rfl) Try.call42 (sPartOK _ _ _ l v (decide (v ≥ x)) _ (Tree.mk n2678 s2679 b2680 l2681 u2682) _ _ ⟨xfs, (h1.move hW2712.step nilM hW2712.imm), (fun i_ x_ h_ => ((h2 i_ x_ h_).move hW2712.step nilM hW2712.imm))⟩ hd (ht.move hW2712.step nilM hW2712.imm) (by simpa [writeB, hc2718] using hroom)) ?_)
    rintro e_ w2727 ⟨A2725, c2726, rfl, ho2724, hs2723⟩
    refine ⟨_, rfl, fun a2728 hE2729 => ?_⟩
    have hW2730 := hW2712.fresh hs2723 (brow A2725 c2726 5 (partB d l v (decide (v ≥ x)) (Tree.mk n2678 s2679 b2680 l2681 u2682))) (Nat.le_refl _) ho2724
    have hF2731 := Fr.fresh [⟨b2698, 0, [.slice A l.length c, .int .i64 x], true⟩, ⟨b2706, 0, [.int .i64 n2678, .slice A2683 s2679.length c2684, .bool b2680, .slice A2685 l2681.length c2686, .slice A2687 u2682.length c2688], true⟩] [] hs2723 (brow A2725 c2726 5 (partB d l v (decide (v ≥ x)) (Tree.mk n2678 s2679 b2680 l2681 u2682))) (Nat.le_refl _) ho2724
    clear hE2722 hW2712
    refine go_runs [14] [] [6] hW2730 hE2729 (env' := [(6, .v (.slice A2725 ((partB d l v (decide (v ≥ x)) (Tree.mk n2678 s2679 b2680 l2681 u2682)).length) c2726))]) (by kernel_rfl) rfl fun a2732 hE2733 => ?_
    clear hE2729
    refine wpOps_nil ?_
    refine then_normal ?_
    refine wp_ret ?_
    refine leave hE2733 hW2730.cells (v := .slice A2725 ((partB d l v (decide (v ≥ x)) (Tree.mk n2678 s2679 b2680 l2681 u2682)).length) c2726) (by kernel_rfl) ?_
    exact fresh_end hW2730 (k := 0) rfl (by simp [writeB, hc2718])
  ·
    have hf2734 := of_decide_eq_false hc2718
    have hE2735 := hE2717.cast (env' := [(1, .v (.int .i64 v)), (3, .p 0 0), (5, .p 1 0), (8, .v (.slice A l.length c)), (9, .v (.int .i64 v)), (13, .v (.bool false))]) (by rw [hc2718])
    clear hE2717
    refine go_runs [7, 8, 9, 10, 11, 12] [13, 14] [8, 9, 18, 19] hW2712 hE2735 (env' := [(8, .v (.slice A l.length c)), (9, .v (.int .i64 v)), (18, .v (.bool false)), (19, .v (.agg #[.int .i64 n2678, .slice A2683 s2679.length c2684, .bool b2680, .slice A2685 l2681.length c2686, .slice A2687 u2682.length c2688]))]) (by kernel_rfl) rfl fun a2736 hE2737 => ?_
    clear hE2735
    refine of_op (wpOp_call hE2737 (f := 42) (vs := [.slice A l.length c, .int .i64 v, .bool false, .agg #[.int .i64 n2678, .slice A2683 s2679.length c2684, .bool b2680, .slice A2685 l2681.length c2686, .slice A2687 u2682.length c2688]]) (d := 20) (by kernel_rfl) Try.call42 (sPartOK _ _ _ l v false _ (Tree.mk n2678 s2679 b2680 l2681 u2682) _ _ ⟨xfs, (h1.move hW2712.step nilM hW2712.imm), (fun i_ x_ h_ => ((h2 i_ x_ h_).move hW2712.step nilM hW2712.imm))⟩ hd (ht.move hW2712.step nilM hW2712.imm) (by simpa [writeB, hc2718] using hroom)) ?_)
    rintro e_ w2742 ⟨A2740, c2741, rfl, ho2739, hs2738⟩
    refine ⟨_, rfl, fun a2743 hE2744 => ?_⟩
    have hW2745 := hW2712.fresh hs2738 (brow A2740 c2741 5 (partB d l v false (Tree.mk n2678 s2679 b2680 l2681 u2682))) (Nat.le_refl _) ho2739
    have hF2746 := Fr.fresh [⟨b2698, 0, [.slice A l.length c, .int .i64 x], true⟩, ⟨b2706, 0, [.int .i64 n2678, .slice A2683 s2679.length c2684, .bool b2680, .slice A2685 l2681.length c2686, .slice A2687 u2682.length c2688], true⟩] [] hs2738 (brow A2740 c2741 5 (partB d l v false (Tree.mk n2678 s2679 b2680 l2681 u2682))) (Nat.le_refl _) ho2739
    clear hE2737 hW2712
    refine go_runs [14] [] [6] hW2745 hE2744 (env' := [(6, .v (.slice A2740 ((partB d l v false (Tree.mk n2678 s2679 b2680 l2681 u2682)).length) c2741))]) (by kernel_rfl) rfl fun a2747 hE2748 => ?_
    clear hE2744
    refine wpOps_nil ?_
    refine then_normal ?_
    refine wp_ret ?_
    refine leave hE2748 hW2745.cells (v := .slice A2740 ((partB d l v false (Tree.mk n2678 s2679 b2680 l2681 u2682)).length) c2741) (by kernel_rfl) ?_
    exact fresh_end hW2745 (k := 0) rfl (by simp [writeB, hc2718])

theorem sKept {d : Nat} (A : Option Addr) (c : Nat) (l : List Fld) (x v : Int) (ct : List Value) (t : Tree) (w : World) (F : Nat → Nat → Prop) (hl : FldsR w F A c l) (hd : depths l ≤ d) (ht : TreeR w F ct t) (hroom : (keptB d l x v t).length ≤ 1099511627776) :
    Calls Try.prog 14 #[.agg #[.slice A l.length c, .int .i64 x], .int .i64 v, .agg ct.toArray] w (FreshB w 5 (keptB d l x v t)) := by
  obtain ⟨xfs, h1, h2⟩ := hl.ex
  have hsm := h1.small
  obtain ⟨n2749, s2750, b2751, l2752, u2753, A2754, c2755, A2756, c2757, A2758, c2759, xs2760, rfl, rfl, h2762, h2763, h2764, h2765⟩ := ht.open_
  have hsm2767 := h2762.small
  have hsm2768 := h2763.small
  refine enter (n := 14) Try.func14 rfl Try.ntmps14 (by kernel_rfl) fun a hE => ?_
  have hW := WOk.start w Nil
  refine go_seq_region [0, 1, 2] (by kernel_rfl) ?_
  refine of_op (wpOp_box hW hE (d := 3) (cs := [.slice A l.length c, .int .i64 x]) (by kernel_rfl) fun b2769 a2770 w2771 hb2772 hz2773 hF2774 hW2775 hE2776 => ?_)
  clear hE hW
  refine of_op (wpOp_box hW2775 hE2776 (d := 5) (cs := [.int .i64 n2749, .slice A2754 s2750.length c2755, .bool b2751, .slice A2756 l2752.length c2757, .slice A2758 u2753.length c2759]) (by kernel_rfl) fun b2777 a2778 w2779 hb2780 hz2781 hF2782 hW2783 hE2784 => ?_)
  clear hE2776 hW2775
  refine go_runs [2] [] [1, 3, 5] hW2783 hE2784 (env' := [(1, .v (.int .i64 v)), (3, .p 0 0), (5, .p 1 0)]) (by kernel_rfl) rfl fun a2785 hE2786 => ?_
  clear hE2784
  refine wpOps_nil ?_
  refine then_normal ?_
  refine go_seq_drawK 7 (by kernel_rfl) hW2783 fun w2787 hF2788 hW2789 hT2790 => ?_
  clear hW2783
  refine go_runsD [0, 2, 3, 4] [7, 9, 10, 11] 4 (by kernel_rfl) (panicFree_then panicFree_body) (fun _ h => h.cells) hT2790 hE2786 (by kernel_rfl) (env' := [(7, .v (.int .i64 v)), (9, .v (.agg #[.slice A l.length c, .int .i64 x])), (10, .v (.int .i64 v)), (11, .v (.agg #[.int .i64 n2749, .slice A2754 s2750.length c2755, .bool b2751, .slice A2756 l2752.length c2757, .slice A2758 u2753.length c2759]))]) (by kernel_rfl) rfl fun a2791 hE2792 => ?_
  clear hE2786
  refine anyC_op (i := 1) (by kernel_rfl) (wpOp_call hE2792 (f := 36) (vs := [.int .i64 v, .int .i64 2]) (d := 8) (by kernel_rfl) Try.call36 (sFixed v 2 (by first | decide | exact widthI_le _ | omega) _) ?_)
  rintro e_ w2797 ⟨A2795, c2796, rfl, ho2794, hs2793⟩
  refine ⟨_, rfl, fun a2798 hE2799 => ?_⟩
  have hW2800 := hW2789.fresh hs2793 (brow A2795 c2796 5 (be 2 v)) (Nat.le_refl _) ho2794
  have hF2801 := Fr.fresh [⟨b2769, 0, [.slice A l.length c, .int .i64 x], true⟩, ⟨b2777, 0, [.int .i64 n2749, .slice A2754 s2750.length c2755, .bool b2751, .slice A2756 l2752.length c2757, .slice A2758 u2753.length c2759], true⟩] [] hs2793 (brow A2795 c2796 5 (be 2 v)) (Nat.le_refl _) ho2794
  clear hE2792
  have hT2802 : TT w2787 [⟨b2769, 0, [.slice A l.length c, .int .i64 x], true⟩, ⟨b2777, 0, [.int .i64 n2749, .slice A2754 s2750.length c2755, .bool b2751, .slice A2756 l2752.length c2757, .slice A2758 u2753.length c2759], true⟩] [] w2797 := ⟨hW2800.cells, hF2801.step⟩
  refine ⟨fun _ => hT2802, ?_⟩
  refine anyC_op (i := 5) (by kernel_rfl) (wpOp_call hE2799 (f := 19) (vs := [.agg #[.slice A l.length c, .int .i64 x], .int .i64 v, .agg #[.int .i64 n2749, .slice A2754 s2750.length c2755, .bool b2751, .slice A2756 l2752.length c2757, .slice A2758 u2753.length c2759]]) (d := 12) (by kernel_rfl) Try.call19 (sWrite _ _ l x v _ (Tree.mk n2749 s2750 b2751 l2752 u2753) _ _ ⟨xfs, (h1.move hW2800.step nilM hW2800.imm), (fun i_ x_ h_ => ((h2 i_ x_ h_).move hW2800.step nilM hW2800.imm))⟩ hd (ht.move hW2800.step nilM hW2800.imm) (by have h_ := hroom; rw [keptB, List.length_append] at h_; omega)) ?_)
  rintro e_ w2807 ⟨A2805, c2806, rfl, ho2804, hs2803⟩
  refine ⟨_, rfl, fun a2808 hE2809 => ?_⟩
  have hW2810 := hW2800.fresh hs2803 (brow A2805 c2806 5 (writeB d l x v (Tree.mk n2749 s2750 b2751 l2752 u2753))) (Nat.le_refl _) ho2804
  have hF2811 := Fr.fresh [⟨b2769, 0, [.slice A l.length c, .int .i64 x], true⟩, ⟨b2777, 0, [.int .i64 n2749, .slice A2754 s2750.length c2755, .bool b2751, .slice A2756 l2752.length c2757, .slice A2758 u2753.length c2759], true⟩] [brow A2795 c2796 5 (be 2 v)] hs2803 (brow A2805 c2806 5 (writeB d l x v (Tree.mk n2749 s2750 b2751 l2752 u2753))) (Nat.le_refl _) ho2804
  clear hE2799 hW2800
  have hT2812 : TT w2787 [⟨b2769, 0, [.slice A l.length c, .int .i64 x], true⟩, ⟨b2777, 0, [.int .i64 n2749, .slice A2754 s2750.length c2755, .bool b2751, .slice A2756 l2752.length c2757, .slice A2758 u2753.length c2759], true⟩] [] w2807 := ⟨hW2810.cells, (Fr.trans hF2801 hF2811).step⟩
  refine ⟨fun _ => hT2812, ?_⟩
  refine anyC_op (i := 6) (by kernel_rfl) (wpOp_append hW2810 hE2809 (k := 0) (d := 13) (t := 22) (e := 5) (size := 1) (bytes := 1) (A := A2795) (As := A2805) (m0 := ((be 2 v).length)) (c := c2796) (m := ((writeB d l x v (Tree.mk n2749 s2750 b2751 l2752 u2753)).length)) (cs := c2806) (xs := (bc (be 2 v))) (news := bc (writeB d l x v (Tree.mk n2749 s2750 b2751 l2752 u2753))) (by kernel_rfl) (by kernel_rfl) rfl (own_src (hW2810.own 1 _ rfl) (bc_one _)) (own_cap (hW2810.own 1 _ rfl)) (by have h_ := hroom; rw [keptB, List.length_append] at h_; omega) fun A2813 c2814 a2815 w2816 hF2817 hW2818 hE2819 => ?_)
  clear hE2809 hW2810
  have er2820 : (⟨A2813, c2814, 5, 1, (be 2 v).length + (writeB d l x v (Tree.mk n2749 s2750 b2751 l2752 u2753)).length, bc (be 2 v) ++ bc (writeB d l x v (Tree.mk n2749 s2750 b2751 l2752 u2753))⟩ : Rw) = brow A2813 c2814 5 (be 2 v ++ (writeB d l x v (Tree.mk n2749 s2750 b2751 l2752 u2753))) := brow_eq (rfl) rfl
  have hW2821 : WOk _ _ _ _ [brow A2813 c2814 5 (be 2 v ++ (writeB d l x v (Tree.mk n2749 s2750 b2751 l2752 u2753))), brow A2805 c2806 5 (writeB d l x v (Tree.mk n2749 s2750 b2751 l2752 u2753))] := hW2818.castR (congrArg (fun r_ => List.set [⟨A2813, c2814, 5, 1, (be 2 v).length + (writeB d l x v (Tree.mk n2749 s2750 b2751 l2752 u2753)).length, bc (be 2 v) ++ bc (writeB d l x v (Tree.mk n2749 s2750 b2751 l2752 u2753))⟩, brow A2805 c2806 5 (writeB d l x v (Tree.mk n2749 s2750 b2751 l2752 u2753))] 0 r_) er2820)
  have hF2823 : Fr w2816 [⟨b2769, 0, [.slice A l.length c, .int .i64 x], true⟩, ⟨b2777, 0, [.int .i64 n2749, .slice A2754 s2750.length c2755, .bool b2751, .slice A2756 l2752.length c2757, .slice A2758 u2753.length c2759], true⟩] [⟨A2813, c2814, 5, 1, (be 2 v).length + (writeB d l x v (Tree.mk n2749 s2750 b2751 l2752 u2753)).length, bc (be 2 v) ++ bc (writeB d l x v (Tree.mk n2749 s2750 b2751 l2752 u2753))⟩, brow A2805 c2806 5 (writeB d l x v (Tree.mk n2749 s2750 b2751 l2752 u2753))] w2816 [⟨b2769, 0, [.slice A l.length c, .int .i64 x], true⟩, ⟨b2777, 0, [.int .i64 n2749, .slice A2754 s2750.length c2755, .bool b2751, .slice A2756 l2752.length c2757, .slice A2758 u2753.length c2759], true⟩] [brow A2813 c2814 5 (be 2 v ++ (writeB d l x v (Tree.mk n2749 s2750 b2751 l2752 u2753))), brow A2805 c2806 5 (writeB d l x v (Tree.mk n2749 s2750 b2751 l2752 u2753))] := Fr.castR (Fr.refl _ _ _) (congrArg (fun r_ => List.set [⟨A2813, c2814, 5, 1, (be 2 v).length + (writeB d l x v (Tree.mk n2749 s2750 b2751 l2752 u2753)).length, bc (be 2 v) ++ bc (writeB d l x v (Tree.mk n2749 s2750 b2751 l2752 u2753))⟩, brow A2805 c2806 5 (writeB d l x v (Tree.mk n2749 s2750 b2751 l2752 u2753))] 0 r_) er2820)
  clear hW2818
  have hE2824 := EnvOk.pick hE2819 (ks := [7, 9, 10, 11, 8, 12, 13]) (env' := [(7, .v (.int .i64 v)), (9, .v (.agg #[.slice A l.length c, .int .i64 x])), (10, .v (.int .i64 v)), (11, .v (.agg #[.int .i64 n2749, .slice A2754 s2750.length c2755, .bool b2751, .slice A2756 l2752.length c2757, .slice A2758 u2753.length c2759])), (8, .v (.slice A2795 ((be 2 v).length) c2796)), (12, .v (.slice A2805 ((writeB d l x v (Tree.mk n2749 s2750 b2751 l2752 u2753)).length) c2806)), (13, .v (.slice A2813 ((be 2 v).length + (writeB d l x v (Tree.mk n2749 s2750 b2751 l2752 u2753)).length) c2814))]) (by kernel_rfl)
  have hE2822 := hE2824.cast (env' := [(7, .v (.int .i64 v)), (9, .v (.agg #[.slice A l.length c, .int .i64 x])), (10, .v (.int .i64 v)), (11, .v (.agg #[.int .i64 n2749, .slice A2754 s2750.length c2755, .bool b2751, .slice A2756 l2752.length c2757, .slice A2758 u2753.length c2759])), (8, .v (.slice A2795 ((be 2 v).length) c2796)), (12, .v (.slice A2805 ((writeB d l x v (Tree.mk n2749 s2750 b2751 l2752 u2753)).length) c2806)), (13, .v (.slice A2813 ((be 2 v ++ (writeB d l x v (Tree.mk n2749 s2750 b2751 l2752 u2753))).length) c2814))]) (by simp only [List.length_append, List.length_cons, List.length_nil, Nat.zero_add])
  clear hE2819
  clear hE2824
  have hT2825 : TT w2787 [⟨b2769, 0, [.slice A l.length c, .int .i64 x], true⟩, ⟨b2777, 0, [.int .i64 n2749, .slice A2754 s2750.length c2755, .bool b2751, .slice A2756 l2752.length c2757, .slice A2758 u2753.length c2759], true⟩] [] w2816 := ⟨hW2821.cells, (Fr.trans (Fr.trans (Fr.trans hF2801 hF2811) hF2817) hF2823).step⟩
  refine ⟨fun _ => hT2825, ?_⟩
  refine anyC_op (i := 7) (by kernel_rfl) (wpOp_pure [6] hW2821.cells hE2822 (env' := [(6, .v (.slice A2813 ((be 2 v ++ (writeB d l x v (Tree.mk n2749 s2750 b2751 l2752 u2753))).length) c2814))]) (by kernel_rfl) fun a2826 hE2827 => ?_)
  clear hE2822
  refine ⟨fun h => absurd rfl h, ?_⟩
  refine anyC_done (by kernel_rfl) ?_ _
  refine then_normal ?_
  refine wp_ret ?_
  refine leave hE2827 hW2821.cells (v := .slice A2813 ((be 2 v ++ (writeB d l x v (Tree.mk n2749 s2750 b2751 l2752 u2753))).length) c2814) (by kernel_rfl) ?_
  exact fresh_end hW2821 (k := 0) rfl (rfl)

end Go.Proofs.Ytlkiilgbpliakaa.ME
