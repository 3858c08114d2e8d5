/- Contracts: printed by tools/sp.py. Own work. -/
import Derived.Test.YtbjopfcbpobnpaaSx
import Derived.Test.YtbjopfcbpobnpaaPz
namespace Go.Proofs.Ytbjopfcbpobnpaa.ME
open Go
set_option linter.unusedVariables false
set_option linter.unusedSimpArgs false
set_option maxRecDepth 20000

/-- a tree, given over: a tree at most m deep -/
def GivenOK (m : Nat) : Prop := ∀ (ct : List Value) (t : Tree) (w : World) (F : Nat → Nat → Prop), TreeR w F ct t → t.depth ≤ m →
    Calls Try.prog 17 #[.agg ct.toArray] w (GivesT w F t)

theorem lGiven_step {m : Nat} (hg : GivenOK m) (ct : List Value) (t : Tree) (w : World) (F : Nat → Nat → Prop) (ht : TreeR w F ct t) (hd : t.depth ≤ m + 1) :
    Calls Try.prog 17 #[.agg ct.toArray] w (GivesT w F t) := by
  obtain ⟨n2749, s2750, b2751, l2752, u2753, A2754, c2755, A2756, c2757, A2758, c2759, xs2760, rfl, rfl, h2762, h2763, h2764, h2765⟩ := ht.open_
  have hsm2767 := h2762.small
  have hsm2768 := h2763.small
  obtain ⟨cs2769, h2770, h2771⟩ := h2765.ex
  have hsm2772 := h2770.small
  refine enter (n := 49) Try.func17 rfl Try.ntmps17 (by kernel_rfl) fun a hE => ?_
  have hW := WOk.start w Nil
  refine go_seq_region [0, 1] (by kernel_rfl) ?_
  refine of_op (wpOp_box hW hE (d := 1) (cs := [.int .i64 n2749, .slice A2754 s2750.length c2755, .bool b2751, .slice A2756 l2752.length c2757, .slice A2758 u2753.length c2759]) (by kernel_rfl) fun b2773 a2774 w2775 hb2776 hz2777 hF2778 hW2779 hE2780 => ?_)
  clear hE hW
  refine of_op (wpOp_alloc hW2779 hE2780 (d := 2) (cs := [.int .i64 0, .slice none 0 0, .bool false, .slice none 0 0, .slice none 0 0]) (by kernel_rfl) fun b2781 a2782 w2783 hb2784 hz2785 hF2786 hW2787 hE2788 => ?_)
  clear hE2780 hW2779
  refine wpOps_nil ?_
  refine then_normal ?_
  refine go_seq_region [0, 1, 2, 3, 4, 5, 6, 7, 8] (by kernel_rfl) ?_
  refine go_runs [0, 1, 2, 3, 4, 5, 6] [7, 8] [1, 2, 14] hW2787 hE2788 (env' := [(1, .p 0 0), (2, .p 1 0), (14, .v (.agg #[.int .i64 n2749, .slice A2754 s2750.length c2755, .bool b2751, .slice none 0 0, .slice none 0 0]))]) (by kernel_rfl) rfl fun a2789 hE2790 => ?_
  clear hE2788
  refine of_op (wpOp_alloc hW2787 hE2790 (d := 3) (cs := [.int .i64 0, .slice none 0 0, .bool false, .slice none 0 0, .slice none 0 0]) (by kernel_rfl) fun b2791 a2792 w2793 hb2794 hz2795 hF2796 hW2797 hE2798 => ?_)
  clear hE2790 hW2787
  refine of_op (wpOp_store hW2797 hE2798 (oi := 2) (cs := [.int .i64 n2749, .slice A2754 s2750.length c2755, .bool b2751, .slice none 0 0, .slice none 0 0]) (by kernel_rfl) fun w2799 hF2800 hW2801 hE2802 => ?_)
  clear hE2798 hW2797
  refine wpOps_nil ?_
  refine then_normal ?_
  refine wp_seq ?_
  refine go_seq_region [0, 1, 2, 3] (by kernel_rfl) ?_
  refine go_runs [0, 1, 2, 3] [] [1, 2, 3, 16, 17, 18] hW2801 hE2802 (env' := [(1, .p 0 0), (2, .p 1 0), (3, .p 2 0), (16, .v (.slice A2756 l2752.length c2757)), (17, .v (.int .i64 ((l2752.length : Nat) : Int))), (18, .v (.int .i64 0))]) (by kernel_rfl) rfl fun a2803 hE2804 => ?_
  clear hE2802
  refine wpOps_nil ?_
  refine then_normal ?_
  refine wp_block ?_
  have hW2805 := hW2801.addNil 39 5
  have hF2806 := Fr.addNil w2799 [⟨b2773, 0, [.int .i64 n2749, .slice A2754 s2750.length c2755, .bool b2751, .slice A2756 l2752.length c2757, .slice A2758 u2753.length c2759], true⟩, ⟨b2781, 0, [.int .i64 0, .slice none 0 0, .bool false, .slice none 0 0, .slice none 0 0], true⟩, ⟨b2791, 0, [.int .i64 n2749, .slice A2754 s2750.length c2755, .bool b2751, .slice none 0 0, .slice none 0 0], true⟩] [] 39 5
  clear hW2801
  have hE2815 := EnvOk.pick hE2804 (ks := [1, 2, 3, 16, 17, 18]) (env' := [(1, .p 0 0), (2, .p 1 0), (3, .p 2 0), (16, .v (.slice A2756 l2752.length c2757)), (17, .v (.int .i64 ((l2752.length : Nat) : Int))), (18, .v (.int .i64 0))]) (by kernel_rfl)
  refine wp_loop_ghost (fun n_ a_ w_ => ∃ (k : Nat) (A_ : Option Addr) (c_ : Nat) (xs : List Value) (css : List (List Value)), n_ = l2752.length - k ∧ k ≤ l2752.length ∧ (Trees w_ (Imm F w w_ [⟨b2773, 0, [.int .i64 n2749, .slice A2754 s2750.length c2755, .bool b2751, .slice A2756 l2752.length c2757, .slice A2758 u2753.length c2759], true⟩, ⟨b2781, 0, [.int .i64 0, .slice none 0 0, .bool false, .slice none 0 0, .slice none 0 0], true⟩, ⟨b2791, 0, [.int .i64 n2749, .slice A2754 s2750.length c2755, .bool b2751, .slice A_ k c_, .slice none 0 0], true⟩] [⟨A_, c_, 39, 5, k, xs⟩]) xs (l2752.take k) css) ∧ EnvOk 49 [⟨b2773, 0, [.int .i64 n2749, .slice A2754 s2750.length c2755, .bool b2751, .slice A2756 l2752.length c2757, .slice A2758 u2753.length c2759], true⟩, ⟨b2781, 0, [.int .i64 0, .slice none 0 0, .bool false, .slice none 0 0, .slice none 0 0], true⟩, ⟨b2791, 0, [.int .i64 n2749, .slice A2754 s2750.length c2755, .bool b2751, .slice A_ k c_, .slice none 0 0], true⟩] [(1, .p 0 0), (2, .p 1 0), (3, .p 2 0), (16, .v (.slice A2756 l2752.length c2757)), (17, .v (.int .i64 ((l2752.length : Nat) : Int))), (18, .v (.int .i64 ((k : Nat) : Int)))] a_ ∧ WOk w Nil w_ [⟨b2773, 0, [.int .i64 n2749, .slice A2754 s2750.length c2755, .bool b2751, .slice A2756 l2752.length c2757, .slice A2758 u2753.length c2759], true⟩, ⟨b2781, 0, [.int .i64 0, .slice none 0 0, .bool false, .slice none 0 0, .slice none 0 0], true⟩, ⟨b2791, 0, [.int .i64 n2749, .slice A2754 s2750.length c2755, .bool b2751, .slice A_ k c_, .slice none 0 0], true⟩] [⟨A_, c_, 39, 5, k, xs⟩] ∧ Fr w2799 [⟨b2773, 0, [.int .i64 n2749, .slice A2754 s2750.length c2755, .bool b2751, .slice A2756 l2752.length c2757, .slice A2758 u2753.length c2759], true⟩, ⟨b2781, 0, [.int .i64 0, .slice none 0 0, .bool false, .slice none 0 0, .slice none 0 0], true⟩, ⟨b2791, 0, [.int .i64 n2749, .slice A2754 s2750.length c2755, .bool b2751, .slice none 0 0, .slice none 0 0], true⟩] [⟨none, 0, 39, 5, 0, []⟩] w_ [⟨b2773, 0, [.int .i64 n2749, .slice A2754 s2750.length c2755, .bool b2751, .slice A2756 l2752.length c2757, .slice A2758 u2753.length c2759], true⟩, ⟨b2781, 0, [.int .i64 0, .slice none 0 0, .bool false, .slice none 0 0, .slice none 0 0], true⟩, ⟨b2791, 0, [.int .i64 n2749, .slice A2754 s2750.length c2755, .bool b2751, .slice A_ k c_, .slice none 0 0], true⟩] [⟨A_, c_, 39, 5, k, xs⟩]) (l2752.length) ⟨0, none, 0, [], [], by omega, by omega, Trees.nil _ _, hE2815, hW2805, Fr.refl _ _ _⟩ ?_
  clear hE2815 hE2804 hW2805
  rintro n2807 a2808 w2809 ⟨k, A_, c_, xs, css, hn2812, hk2813, hT, hE2810, hW2811, hF2814⟩
  refine go_seq_region [0] (by kernel_rfl) ?_
  refine go_runs [0] [] [1, 2, 3, 16, 17, 18, 19] hW2811 hE2810 (env' := [(1, .p 0 0), (2, .p 1 0), (3, .p 2 0), (16, .v (.slice A2756 l2752.length c2757)), (17, .v (.int .i64 ((l2752.length : Nat) : Int))), (18, .v (.int .i64 ((k : Nat) : Int))), (19, .v (.bool (decide (((k : Nat) : Int) < ((l2752.length : Nat) : Int)))))]) (by kernel_rfl) rfl fun a2816 hE2817 => ?_
  clear hE2810
  refine wpOps_nil ?_
  refine then_normal ?_
  refine wp_seq ?_
  refine cond_of hE2817 (b := decide (((k : Nat) : Int) < ((l2752.length : Nat) : Int))) (by kernel_rfl) (fun hc2818 => ?_) (fun hc2818 => ?_)
  ·
    have hf2819 := of_decide_eq_true hc2818
    refine wp_skip ?_
    refine then_normal ?_
    refine wp_seq ?_
    refine wp_block ?_
    refine go_seq_region [0, 1, 2, 3] (by kernel_rfl) ?_
    obtain ⟨b2820, o2821, hA2822, hl2823, hat2824⟩ := Slots.get h2763 (i := k) (by omega)
    obtain ⟨x2825, he2826⟩ : ∃ x, l2752[k]? = some x := ⟨_, List.getElem?_eq_getElem (by omega)⟩
    have hr2827 := h2764 k x2825 he2826
    obtain ⟨n2828, s2829, b2830, l2831, u2832, A2833, c2834, A2835, c2836, A2837, c2838, xs2839, rfl, hcs2840, h2841, h2842, h2843, h2844⟩ := hr2827.open_
    rw [hcs2840] at hr2827
    have hsm2846 := h2841.small
    have hsm2847 := h2842.small
    rw [hcs2840] at hat2824
    refine of_op (wpOp_index hE2817 (t := 23) (A := A2756) (m := l2752.length) (q := ((k : Nat) : Int)) (d := 20) (by kernel_rfl) (e := 26) (size := 5) (bytes := 88) (by kernel_rfl) hA2822 rfl (by omega) fun a2848 hE2849 => ?_)
    clear hE2817
    refine of_op (wpOp_load hE2849 (t := 26) (b := b2820) (o := o2821 + k * 5) (d := 21) (by kernel_rfl) (cs := [.int .i64 n2828, .slice A2833 s2829.length c2834, .bool b2830, .slice A2835 l2831.length c2836, .slice A2837 u2832.length c2838]) (v := .agg #[.int .i64 n2828, .slice A2833 s2829.length c2834, .bool b2830, .slice A2835 l2831.length c2836, .slice A2837 u2832.length c2838]) (by kernel_rfl) (AtF.move hat2824 hW2811.step nilM keepF).at_ fun a2850 hE2851 => ?_)
    clear hE2849
    refine of_op (wpOp_alloc hW2811 hE2851 (d := 5) (cs := [.int .i64 0, .slice none 0 0, .bool false, .slice none 0 0, .slice none 0 0]) (by kernel_rfl) fun b2852 a2853 w2854 hb2855 hz2856 hF2857 hW2858 hE2859 => ?_)
    clear hE2851 hW2811
    refine of_op (wpOp_store hW2858 hE2859 (oi := 3) (cs := [.int .i64 n2828, .slice A2833 s2829.length c2834, .bool b2830, .slice A2835 l2831.length c2836, .slice A2837 u2832.length c2838]) (by kernel_rfl) fun w2860 hF2861 hW2862 hE2863 => ?_)
    clear hE2859 hW2858
    refine wpOps_nil ?_
    refine then_normal ?_
    refine go_drawK 7 (by kernel_rfl) hW2862 fun w2864 hF2865 hW2866 hT2867 => ?_
    clear hW2862
    refine go_runsD [0, 1, 2] [1, 2, 3, 16, 17, 18, 23, 24] 5 (by kernel_rfl) (panicFree_block (panicFree_then (panicFree_then (panicFree_block (panicFree_then panicFree_body))))) (fun _ h => h.cells) hT2867 hE2863 (by kernel_rfl) (env' := [(1, .p 0 0), (2, .p 1 0), (3, .p 2 0), (16, .v (.slice A2756 l2752.length c2757)), (17, .v (.int .i64 ((l2752.length : Nat) : Int))), (18, .v (.int .i64 ((k : Nat) : Int))), (23, .v (.slice A_ k c_)), (24, .v (.agg #[.int .i64 n2828, .slice A2833 s2829.length c2834, .bool b2830, .slice A2835 l2831.length c2836, .slice A2837 u2832.length c2838]))]) (by kernel_rfl) rfl fun a2868 hE2869 => ?_
    clear hE2863
    refine anyC_op (i := 3) (by kernel_rfl) (wpOp_call hE2869 (f := 17) (vs := [.agg #[.int .i64 n2828, .slice A2833 s2829.length c2834, .bool b2830, .slice A2835 l2831.length c2836, .slice A2837 u2832.length c2838]]) (d := 25) (by kernel_rfl) Try.call17 ( hg _ _ _ _ (hr2827.move hW2866.step nilM hW2866.imm) (by have h_ := deep_get he2826; rw [tdepth_mk] at hd; omega)) ?_)
    rintro e_ w2873 ⟨cs2872, rfl, hr2871, hs2870⟩
    have hr2874 := hr2871.move (Step.refl _ Nil) nilM (hW2866.laid (G := F) hs2870)
    obtain ⟨n2875, s2876, b2877, l2878, u2879, A2880, c2881, A2882, c2883, A2884, c2885, xs2886, ht2892, hcs2887, h2888, h2889, h2890, h2891⟩ := hr2874.open_
    rw [hcs2887] at hr2874
    have hsm2893 := h2888.small
    have hsm2894 := h2889.small
    rw [hcs2887]
    refine ⟨_, rfl, fun a2895 hE2896 => ?_⟩
    have hW2897 := hW2866.next_nil hs2870
    have hF2898 := Fr.nil [⟨b2773, 0, [.int .i64 n2749, .slice A2754 s2750.length c2755, .bool b2751, .slice A2756 l2752.length c2757, .slice A2758 u2753.length c2759], true⟩, ⟨b2781, 0, [.int .i64 0, .slice none 0 0, .bool false, .slice none 0 0, .slice none 0 0], true⟩, ⟨b2791, 0, [.int .i64 n2749, .slice A2754 s2750.length c2755, .bool b2751, .slice A_ k c_, .slice none 0 0], true⟩, ⟨b2852, 0, [.int .i64 n2828, .slice A2833 s2829.length c2834, .bool b2830, .slice A2835 l2831.length c2836, .slice A2837 u2832.length c2838], true⟩] [⟨A_, c_, 39, 5, k, xs⟩] hs2870
    clear hE2869
    have hT2899 : TT w2864 [⟨b2773, 0, [.int .i64 n2749, .slice A2754 s2750.length c2755, .bool b2751, .slice A2756 l2752.length c2757, .slice A2758 u2753.length c2759], true⟩, ⟨b2781, 0, [.int .i64 0, .slice none 0 0, .bool false, .slice none 0 0, .slice none 0 0], true⟩, ⟨b2791, 0, [.int .i64 n2749, .slice A2754 s2750.length c2755, .bool b2751, .slice A_ k c_, .slice none 0 0], true⟩, ⟨b2852, 0, [.int .i64 n2828, .slice A2833 s2829.length c2834, .bool b2830, .slice A2835 l2831.length c2836, .slice A2837 u2832.length c2838], true⟩] [⟨A_, c_, 39, 5, k, xs⟩] w2873 := ⟨hW2897.cells, hF2898.step⟩
    refine ⟨fun _ => hT2899, ?_⟩
    refine anyC_op (i := 4) (by kernel_rfl) (wpOp_lit hW2897 hE2896 (e := 39) (size := 5) (len := 1) (cs := [.int .i64 n2875, .slice A2880 s2876.length c2881, .bool b2877, .slice A2882 l2878.length c2883, .slice A2884 u2879.length c2885]) (d := 26) (by kernel_rfl) (by kernel_rfl) fun b2900 a2901 w2902 hb2903 hz2904 hF2905 hW2906 hE2907 => ?_)
    clear hE2896 hW2897
    have hT2908 : TT w2864 [⟨b2773, 0, [.int .i64 n2749, .slice A2754 s2750.length c2755, .bool b2751, .slice A2756 l2752.length c2757, .slice A2758 u2753.length c2759], true⟩, ⟨b2781, 0, [.int .i64 0, .slice none 0 0, .bool false, .slice none 0 0, .slice none 0 0], true⟩, ⟨b2791, 0, [.int .i64 n2749, .slice A2754 s2750.length c2755, .bool b2751, .slice A_ k c_, .slice none 0 0], true⟩, ⟨b2852, 0, [.int .i64 n2828, .slice A2833 s2829.length c2834, .bool b2830, .slice A2835 l2831.length c2836, .slice A2837 u2832.length c2838], true⟩] [⟨A_, c_, 39, 5, k, xs⟩] w2902 := ⟨hW2906.cells, (Fr.trans hF2898 hF2905).step⟩
    refine ⟨fun _ => hT2908, ?_⟩
    refine anyC_op (i := 5) (by kernel_rfl) (wpOp_append hW2906 hE2907 (k := 0) (d := 27) (t := 36) (e := 39) (size := 5) (bytes := 88) (A := A_) (As := (some ⟨b2900, 0, none⟩)) (m0 := k) (c := c_) (m := 1) (cs := 1) (xs := xs) (news := [.int .i64 n2875, .slice A2880 s2876.length c2881, .bool b2877, .slice A2882 l2878.length c2883, .slice A2884 u2879.length c2885]) (by kernel_rfl) (by kernel_rfl) rfl (own_src (hW2906.own 1 _ rfl) (allOne_ok (by kernel_rfl))) (own_cap (hW2906.own 1 _ rfl)) (by omega) fun A2909 c2910 a2911 w2912 hF2913 hW2914 hE2915 => ?_)
    clear hE2907 hW2906
    have hT2916 : TT w2864 [⟨b2773, 0, [.int .i64 n2749, .slice A2754 s2750.length c2755, .bool b2751, .slice A2756 l2752.length c2757, .slice A2758 u2753.length c2759], true⟩, ⟨b2781, 0, [.int .i64 0, .slice none 0 0, .bool false, .slice none 0 0, .slice none 0 0], true⟩, ⟨b2791, 0, [.int .i64 n2749, .slice A2754 s2750.length c2755, .bool b2751, .slice A_ k c_, .slice none 0 0], true⟩, ⟨b2852, 0, [.int .i64 n2828, .slice A2833 s2829.length c2834, .bool b2830, .slice A2835 l2831.length c2836, .slice A2837 u2832.length c2838], true⟩] [⟨A_, c_, 39, 5, k, xs⟩] w2912 := ⟨hW2914.cells, (Fr.trans (Fr.trans hF2898 hF2905) hF2913).step⟩
    refine ⟨fun _ => hT2916, ?_⟩
    refine go_runsD [6] [1, 2, 3, 16, 17, 18, 27, 28] 1 (by kernel_rfl) (panicFree_block (panicFree_then (panicFree_then (panicFree_block (panicFree_then panicFree_body))))) (fun _ h => h.cells) hT2916 hE2915 (by kernel_rfl) (env' := [(1, .p 0 0), (2, .p 1 0), (3, .p 2 0), (16, .v (.slice A2756 l2752.length c2757)), (17, .v (.int .i64 ((l2752.length : Nat) : Int))), (18, .v (.int .i64 ((k : Nat) : Int))), (27, .v (.slice A2909 (k + 1) c2910)), (28, .p 2 3)]) (by kernel_rfl) rfl fun a2917 hE2918 => ?_
    clear hE2915
    refine anyC_op (i := 7) (by kernel_rfl) (wpOp_store hW2914 hE2918 (oi := 2) (cs := [.int .i64 n2749, .slice A2754 s2750.length c2755, .bool b2751, .slice A2909 (k + 1) c2910, .slice none 0 0]) (by kernel_rfl) fun w2919 hF2920 hW2921 hE2922 => ?_)
    clear hE2918 hW2914
    refine ⟨fun h => absurd rfl h, ?_⟩
    refine anyC_done (by kernel_rfl) ?_ _
    refine block_normal ?_
    refine then_normal ?_
    refine go_region [0, 1] (by kernel_rfl) ?_
    refine go_runs [0, 1] [] [1, 2, 3, 16, 17, 18] hW2921 hE2922 (env' := [(1, .p 0 0), (2, .p 1 0), (3, .p 2 0), (16, .v (.slice A2756 l2752.length c2757)), (17, .v (.int .i64 ((l2752.length : Nat) : Int))), (18, .v (.int .i64 (IntKind.i64.wrap (((k : Nat) : Int) + 1))))]) (by kernel_rfl) rfl fun a2923 hE2924 => ?_
    clear hE2922
    refine wpOps_nil ?_
    refine then_normal ?_
    have hE2925 := EnvOk.pick hE2924 (ks := [1, 2, 3, 16, 17, 18]) (env' := [(1, .p 0 0), (2, .p 1 0), (3, .p 2 0), (16, .v (.slice A2756 l2752.length c2757)), (17, .v (.int .i64 ((l2752.length : Nat) : Int))), (18, .v (.int .i64 (IntKind.i64.wrap (((k : Nat) : Int) + 1))))]) (by kernel_rfl)
    have hE2926 : EnvOk 49 [⟨b2773, 0, [.int .i64 n2749, .slice A2754 s2750.length c2755, .bool b2751, .slice A2756 l2752.length c2757, .slice A2758 u2753.length c2759], true⟩, ⟨b2781, 0, [.int .i64 0, .slice none 0 0, .bool false, .slice none 0 0, .slice none 0 0], true⟩, ⟨b2791, 0, [.int .i64 n2749, .slice A2754 s2750.length c2755, .bool b2751, .slice A2909 (k + 1) c2910, .slice none 0 0], true⟩] _ _ := hE2925.cutTb 3 (by kernel_rfl)
    have hW2927 : WOk _ _ _ [⟨b2773, 0, [.int .i64 n2749, .slice A2754 s2750.length c2755, .bool b2751, .slice A2756 l2752.length c2757, .slice A2758 u2753.length c2759], true⟩, ⟨b2781, 0, [.int .i64 0, .slice none 0 0, .bool false, .slice none 0 0, .slice none 0 0], true⟩, ⟨b2791, 0, [.int .i64 n2749, .slice A2754 s2750.length c2755, .bool b2751, .slice A2909 (k + 1) c2910, .slice none 0 0], true⟩] _ := hW2921.cutTb 3
    have hF2928 : Fr _ _ _ _ [⟨b2773, 0, [.int .i64 n2749, .slice A2754 s2750.length c2755, .bool b2751, .slice A2756 l2752.length c2757, .slice A2758 u2753.length c2759], true⟩, ⟨b2781, 0, [.int .i64 0, .slice none 0 0, .bool false, .slice none 0 0, .slice none 0 0], true⟩, ⟨b2791, 0, [.int .i64 n2749, .slice A2754 s2750.length c2755, .bool b2751, .slice A2909 (k + 1) c2910, .slice none 0 0], true⟩] _ := Fr.cutTb w2919 [⟨b2773, 0, [.int .i64 n2749, .slice A2754 s2750.length c2755, .bool b2751, .slice A2756 l2752.length c2757, .slice A2758 u2753.length c2759], true⟩, ⟨b2781, 0, [.int .i64 0, .slice none 0 0, .bool false, .slice none 0 0, .slice none 0 0], true⟩, ⟨b2791, 0, [.int .i64 n2749, .slice A2754 s2750.length c2755, .bool b2751, .slice A2909 (k + 1) c2910, .slice none 0 0], true⟩, ⟨b2852, 0, [.int .i64 n2828, .slice A2833 s2829.length c2834, .bool b2830, .slice A2835 l2831.length c2836, .slice A2837 u2832.length c2838], true⟩] [⟨A2909, c2910, 39, 5, k + 1, xs ++ [.int .i64 n2875, .slice A2880 s2876.length c2881, .bool b2877, .slice A2882 l2878.length c2883, .slice A2884 u2879.length c2885]⟩, ⟨some ⟨b2900, 0, none⟩, 1, 39, 5, 1, [.int .i64 n2875, .slice A2880 s2876.length c2881, .bool b2877, .slice A2882 l2878.length c2883, .slice A2884 u2879.length c2885]⟩] 3
    have hW2929 : WOk _ _ _ _ [⟨A2909, c2910, 39, 5, k + 1, xs ++ [.int .i64 n2875, .slice A2880 s2876.length c2881, .bool b2877, .slice A2882 l2878.length c2883, .slice A2884 u2879.length c2885]⟩] := hW2927.rows 1
    have hF2930 : Fr _ _ _ _ _ [⟨A2909, c2910, 39, 5, k + 1, xs ++ [.int .i64 n2875, .slice A2880 s2876.length c2881, .bool b2877, .slice A2882 l2878.length c2883, .slice A2884 u2879.length c2885]⟩] := Fr.rows w2919 [⟨b2773, 0, [.int .i64 n2749, .slice A2754 s2750.length c2755, .bool b2751, .slice A2756 l2752.length c2757, .slice A2758 u2753.length c2759], true⟩, ⟨b2781, 0, [.int .i64 0, .slice none 0 0, .bool false, .slice none 0 0, .slice none 0 0], true⟩, ⟨b2791, 0, [.int .i64 n2749, .slice A2754 s2750.length c2755, .bool b2751, .slice A2909 (k + 1) c2910, .slice none 0 0], true⟩] [⟨A2909, c2910, 39, 5, k + 1, xs ++ [.int .i64 n2875, .slice A2880 s2876.length c2881, .bool b2877, .slice A2882 l2878.length c2883, .slice A2884 u2879.length c2885]⟩, ⟨some ⟨b2900, 0, none⟩, 1, 39, 5, 1, [.int .i64 n2875, .slice A2880 s2876.length c2881, .bool b2877, .slice A2882 l2878.length c2883, .slice A2884 u2879.length c2885]⟩] 1
    have hE2931 := EnvOk.pick hE2926 (ks := [1, 2, 3, 16, 17, 18]) (env' := [(1, .p 0 0), (2, .p 1 0), (3, .p 2 0), (16, .v (.slice A2756 l2752.length c2757)), (17, .v (.int .i64 ((l2752.length : Nat) : Int))), (18, .v (.int .i64 (IntKind.i64.wrap (((k : Nat) : Int) + 1))))]) (by kernel_rfl)
    have he2932 : IntKind.i64.wrap (((k : Nat) : Int) + 1) = ((k + 1 : Nat) : Int) := wrap_succ (by omega)
    rw [he2932] at hE2931
    exact ⟨l2752.length - (k + 1), by omega, k + 1, A2909, c2910, xs ++ [Value.int .i64 n2875, .slice A2880 s2876.length c2881, .bool b2877, .slice A2882 l2878.length c2883, .slice A2884 u2879.length c2885], (css ++ [[Value.int .i64 n2875, .slice A2880 s2876.length c2881, .bool b2877, .slice A2882 l2878.length c2883, .slice A2884 u2879.length c2885]]), rfl, by omega, by rw [take_succ_of he2826]; exact (hT.move (Fr.trans (Fr.trans (Fr.trans (Fr.trans (Fr.trans (Fr.trans (Fr.trans (Fr.trans hF2857 hF2861) hF2865) hF2898) hF2905) hF2913) hF2920) hF2928) hF2930).step immM (Fr.trans (Fr.trans (Fr.trans (Fr.trans (Fr.trans (Fr.trans (Fr.trans (Fr.trans hF2857 hF2861) hF2865) hF2898) hF2905) hF2913) hF2920) hF2928) hF2930).to').snoc (hr2874.move (Fr.trans (Fr.trans (Fr.trans (Fr.trans hF2905 hF2913) hF2920) hF2928) hF2930).step immM (Fr.trans (Fr.trans (Fr.trans (Fr.trans hF2905 hF2913) hF2920) hF2928) hF2930).to'), hE2931, hW2929, (Fr.trans (Fr.trans (Fr.trans (Fr.trans (Fr.trans (Fr.trans (Fr.trans (Fr.trans (Fr.trans hF2814 hF2857) hF2861) hF2865) hF2898) hF2905) hF2913) hF2920) hF2928) hF2930)⟩
  ·
    have hf2933 := of_decide_eq_false hc2818
    refine wp_exit ?_
    refine then_exit ?_
    refine then_exit ?_
    refine block_exit ?_
    refine then_normal ?_
    refine wp_seq ?_
    refine go_seq_region [0, 1, 2, 3] (by kernel_rfl) ?_
    refine go_runs [0, 1, 2, 3] [] [2, 3, 31, 32, 33] hW2811 hE2817 (env' := [(2, .p 1 0), (3, .p 2 0), (31, .v (.slice A2758 u2753.length c2759)), (32, .v (.int .i64 ((u2753.length : Nat) : Int))), (33, .v (.int .i64 0))]) (by kernel_rfl) rfl fun a2934 hE2935 => ?_
    clear hE2817
    refine wpOps_nil ?_
    refine then_normal ?_
    refine wp_block ?_
    have hk0 : k = l2752.length := by omega
    have hW2936 := hW2811.addNil 62 2
    have hF2937 := Fr.addNil w2809 [⟨b2773, 0, [.int .i64 n2749, .slice A2754 s2750.length c2755, .bool b2751, .slice A2756 l2752.length c2757, .slice A2758 u2753.length c2759], true⟩, ⟨b2781, 0, [.int .i64 0, .slice none 0 0, .bool false, .slice none 0 0, .slice none 0 0], true⟩, ⟨b2791, 0, [.int .i64 n2749, .slice A2754 s2750.length c2755, .bool b2751, .slice A_ k c_, .slice none 0 0], true⟩] [⟨A_, c_, 39, 5, k, xs⟩] 62 2
    clear hW2811
    have hE2946 := EnvOk.pick hE2935 (ks := [2, 3, 31, 32, 33]) (env' := [(2, .p 1 0), (3, .p 2 0), (31, .v (.slice A2758 u2753.length c2759)), (32, .v (.int .i64 ((u2753.length : Nat) : Int))), (33, .v (.int .i64 0))]) (by kernel_rfl)
    refine wp_loop_ghost (fun n_ a_ w_ => ∃ (q : Nat) (A5_ : Option Addr) (c5_ : Nat) (ys : List Value) (dss : List (List Value)), n_ = u2753.length - q ∧ q ≤ u2753.length ∧ (Tags w_ (Imm F w w_ [⟨b2773, 0, [.int .i64 n2749, .slice A2754 s2750.length c2755, .bool b2751, .slice A2756 l2752.length c2757, .slice A2758 u2753.length c2759], true⟩, ⟨b2781, 0, [.int .i64 0, .slice none 0 0, .bool false, .slice none 0 0, .slice none 0 0], true⟩, ⟨b2791, 0, [.int .i64 n2749, .slice A2754 s2750.length c2755, .bool b2751, .slice A_ k c_, .slice A5_ q c5_], true⟩] [⟨A_, c_, 39, 5, k, xs⟩, ⟨A5_, c5_, 62, 2, q, ys⟩]) ys (u2753.take q) dss) ∧ EnvOk 49 [⟨b2773, 0, [.int .i64 n2749, .slice A2754 s2750.length c2755, .bool b2751, .slice A2756 l2752.length c2757, .slice A2758 u2753.length c2759], true⟩, ⟨b2781, 0, [.int .i64 0, .slice none 0 0, .bool false, .slice none 0 0, .slice none 0 0], true⟩, ⟨b2791, 0, [.int .i64 n2749, .slice A2754 s2750.length c2755, .bool b2751, .slice A_ k c_, .slice A5_ q c5_], true⟩] [(2, .p 1 0), (3, .p 2 0), (31, .v (.slice A2758 u2753.length c2759)), (32, .v (.int .i64 ((u2753.length : Nat) : Int))), (33, .v (.int .i64 ((q : Nat) : Int)))] a_ ∧ WOk w Nil w_ [⟨b2773, 0, [.int .i64 n2749, .slice A2754 s2750.length c2755, .bool b2751, .slice A2756 l2752.length c2757, .slice A2758 u2753.length c2759], true⟩, ⟨b2781, 0, [.int .i64 0, .slice none 0 0, .bool false, .slice none 0 0, .slice none 0 0], true⟩, ⟨b2791, 0, [.int .i64 n2749, .slice A2754 s2750.length c2755, .bool b2751, .slice A_ k c_, .slice A5_ q c5_], true⟩] [⟨A_, c_, 39, 5, k, xs⟩, ⟨A5_, c5_, 62, 2, q, ys⟩] ∧ Fr w2809 [⟨b2773, 0, [.int .i64 n2749, .slice A2754 s2750.length c2755, .bool b2751, .slice A2756 l2752.length c2757, .slice A2758 u2753.length c2759], true⟩, ⟨b2781, 0, [.int .i64 0, .slice none 0 0, .bool false, .slice none 0 0, .slice none 0 0], true⟩, ⟨b2791, 0, [.int .i64 n2749, .slice A2754 s2750.length c2755, .bool b2751, .slice A_ k c_, .slice none 0 0], true⟩] [⟨A_, c_, 39, 5, k, xs⟩, ⟨none, 0, 62, 2, 0, []⟩] w_ [⟨b2773, 0, [.int .i64 n2749, .slice A2754 s2750.length c2755, .bool b2751, .slice A2756 l2752.length c2757, .slice A2758 u2753.length c2759], true⟩, ⟨b2781, 0, [.int .i64 0, .slice none 0 0, .bool false, .slice none 0 0, .slice none 0 0], true⟩, ⟨b2791, 0, [.int .i64 n2749, .slice A2754 s2750.length c2755, .bool b2751, .slice A_ k c_, .slice A5_ q c5_], true⟩] [⟨A_, c_, 39, 5, k, xs⟩, ⟨A5_, c5_, 62, 2, q, ys⟩]) (u2753.length) ⟨0, none, 0, [], [], by omega, by omega, Tags.nil _ _, hE2946, hW2936, Fr.refl _ _ _⟩ ?_
    clear hE2946 hE2935 hW2936
    rintro n2938 a2939 w2940 ⟨q, A5_, c5_, ys, dss, hn2943, hk2944, hU, hE2941, hW2942, hF2945⟩
    refine go_seq_region [0] (by kernel_rfl) ?_
    refine go_runs [0] [] [2, 3, 31, 32, 33, 34] hW2942 hE2941 (env' := [(2, .p 1 0), (3, .p 2 0), (31, .v (.slice A2758 u2753.length c2759)), (32, .v (.int .i64 ((u2753.length : Nat) : Int))), (33, .v (.int .i64 ((q : Nat) : Int))), (34, .v (.bool (decide (((q : Nat) : Int) < ((u2753.length : Nat) : Int)))))]) (by kernel_rfl) rfl fun a2947 hE2948 => ?_
    clear hE2941
    refine wpOps_nil ?_
    refine then_normal ?_
    refine wp_seq ?_
    refine cond_of hE2948 (b := decide (((q : Nat) : Int) < ((u2753.length : Nat) : Int))) (by kernel_rfl) (fun hc2949 => ?_) (fun hc2949 => ?_)
    ·
      have hf2950 := of_decide_eq_true hc2949
      refine wp_skip ?_
      refine then_normal ?_
      refine wp_seq ?_
      refine wp_block ?_
      refine go_seq_region [0, 1, 2, 3] (by kernel_rfl) ?_
      obtain ⟨b2951, o2952, hA2953, hl2954, hat2955⟩ := Slots.get h2770 (i := q) (by omega)
      obtain ⟨⟨k2956, s2957⟩, he2958⟩ : ∃ x, u2753[q]? = some x := ⟨_, List.getElem?_eq_getElem (by omega)⟩
      obtain ⟨⟨A2959, c2960, hcs2961, hb2962⟩, h2963, h2964⟩ := h2771 q k2956 s2957 he2958
      rw [hcs2961] at hat2955
      refine of_op (wpOp_index hE2948 (t := 24) (A := A2758) (m := u2753.length) (q := ((q : Nat) : Int)) (d := 35) (by kernel_rfl) (e := 61) (size := 2) (bytes := 32) (by kernel_rfl) hA2953 rfl (by omega) fun a2965 hE2966 => ?_)
      clear hE2948
      refine of_op (wpOp_load hE2966 (t := 61) (b := b2951) (o := o2952 + q * 2) (d := 36) (by kernel_rfl) (cs := [.int .u32 k2956, .slice A2959 s2957.length c2960]) (v := .agg #[.int .u32 k2956, .slice A2959 s2957.length c2960]) (by kernel_rfl) (AtF.move hat2955 hW2942.step nilM keepF).at_ fun a2967 hE2968 => ?_)
      clear hE2966
      refine of_op (wpOp_alloc hW2942 hE2968 (d := 7) (cs := [.int .u32 0, .slice none 0 0]) (by kernel_rfl) fun b2969 a2970 w2971 hb2972 hz2973 hF2974 hW2975 hE2976 => ?_)
      clear hE2968 hW2942
      refine of_op (wpOp_store hW2975 hE2976 (oi := 3) (cs := [.int .u32 k2956, .slice A2959 s2957.length c2960]) (by kernel_rfl) fun w2977 hF2978 hW2979 hE2980 => ?_)
      clear hE2976 hW2975
      refine wpOps_nil ?_
      refine then_normal ?_
      refine go_region [0, 1, 2, 3, 4, 5, 6, 7, 8, 9, 10] (by kernel_rfl) ?_
      refine go_runs [0, 1, 2, 3, 4, 5, 6] [7, 8, 9, 10] [2, 3, 31, 32, 33, 38, 43] hW2979 hE2980 (env' := [(2, .p 1 0), (3, .p 2 0), (31, .v (.slice A2758 u2753.length c2759)), (32, .v (.int .i64 ((u2753.length : Nat) : Int))), (33, .v (.int .i64 ((q : Nat) : Int))), (38, .v (.slice A5_ q c5_)), (43, .v (.agg #[.int .u32 k2956, .slice A2959 s2957.length c2960]))]) (by kernel_rfl) rfl fun a2981 hE2982 => ?_
      clear hE2980
      refine wpOps_push hW2979 hE2982 (k := 1) (e := 62) (size := 2) (len := 1) (cs := [.int .u32 k2956, .slice A2959 s2957.length c2960]) (d1 := 44) (d := 45) (by kernel_rfl) (t := 37) (bytes := 32) (by kernel_rfl) (fun _ => by kernel_rfl) rfl (by kernel_rfl) (by omega) fun A2983 c2984 a2985 w2986 hF2987 hW2988 ⟨_, hE2989⟩ => ?_
      clear hE2982 hW2979
      refine go_runs [9] [10] [2, 3, 31, 32, 33, 45, 46] hW2988 hE2989 (env' := [(2, .p 1 0), (3, .p 2 0), (31, .v (.slice A2758 u2753.length c2759)), (32, .v (.int .i64 ((u2753.length : Nat) : Int))), (33, .v (.int .i64 ((q : Nat) : Int))), (45, .v (.slice A2983 (q + 1) c2984)), (46, .p 2 4)]) (by kernel_rfl) rfl fun a2990 hE2991 => ?_
      clear hE2989
      refine of_op (wpOp_store hW2988 hE2991 (oi := 2) (cs := [.int .i64 n2749, .slice A2754 s2750.length c2755, .bool b2751, .slice A_ k c_, .slice A2983 (q + 1) c2984]) (by kernel_rfl) fun w2992 hF2993 hW2994 hE2995 => ?_)
      clear hE2991 hW2988
      refine wpOps_nil ?_
      refine block_normal ?_
      refine then_normal ?_
      refine go_region [0, 1] (by kernel_rfl) ?_
      refine go_runs [0, 1] [] [2, 3, 31, 32, 33] hW2994 hE2995 (env' := [(2, .p 1 0), (3, .p 2 0), (31, .v (.slice A2758 u2753.length c2759)), (32, .v (.int .i64 ((u2753.length : Nat) : Int))), (33, .v (.int .i64 (IntKind.i64.wrap (((q : Nat) : Int) + 1))))]) (by kernel_rfl) rfl fun a2996 hE2997 => ?_
      clear hE2995
      refine wpOps_nil ?_
      refine then_normal ?_
      have hE2998 := EnvOk.pick hE2997 (ks := [2, 3, 31, 32, 33]) (env' := [(2, .p 1 0), (3, .p 2 0), (31, .v (.slice A2758 u2753.length c2759)), (32, .v (.int .i64 ((u2753.length : Nat) : Int))), (33, .v (.int .i64 (IntKind.i64.wrap (((q : Nat) : Int) + 1))))]) (by kernel_rfl)
      have hE2999 : EnvOk 49 [⟨b2773, 0, [.int .i64 n2749, .slice A2754 s2750.length c2755, .bool b2751, .slice A2756 l2752.length c2757, .slice A2758 u2753.length c2759], true⟩, ⟨b2781, 0, [.int .i64 0, .slice none 0 0, .bool false, .slice none 0 0, .slice none 0 0], true⟩, ⟨b2791, 0, [.int .i64 n2749, .slice A2754 s2750.length c2755, .bool b2751, .slice A_ k c_, .slice A2983 (q + 1) c2984], true⟩] _ _ := hE2998.cutTb 3 (by kernel_rfl)
      have hW3000 : WOk _ _ _ [⟨b2773, 0, [.int .i64 n2749, .slice A2754 s2750.length c2755, .bool b2751, .slice A2756 l2752.length c2757, .slice A2758 u2753.length c2759], true⟩, ⟨b2781, 0, [.int .i64 0, .slice none 0 0, .bool false, .slice none 0 0, .slice none 0 0], true⟩, ⟨b2791, 0, [.int .i64 n2749, .slice A2754 s2750.length c2755, .bool b2751, .slice A_ k c_, .slice A2983 (q + 1) c2984], true⟩] _ := hW2994.cutTb 3
      have hF3001 : Fr _ _ _ _ [⟨b2773, 0, [.int .i64 n2749, .slice A2754 s2750.length c2755, .bool b2751, .slice A2756 l2752.length c2757, .slice A2758 u2753.length c2759], true⟩, ⟨b2781, 0, [.int .i64 0, .slice none 0 0, .bool false, .slice none 0 0, .slice none 0 0], true⟩, ⟨b2791, 0, [.int .i64 n2749, .slice A2754 s2750.length c2755, .bool b2751, .slice A_ k c_, .slice A2983 (q + 1) c2984], true⟩] _ := Fr.cutTb w2992 [⟨b2773, 0, [.int .i64 n2749, .slice A2754 s2750.length c2755, .bool b2751, .slice A2756 l2752.length c2757, .slice A2758 u2753.length c2759], true⟩, ⟨b2781, 0, [.int .i64 0, .slice none 0 0, .bool false, .slice none 0 0, .slice none 0 0], true⟩, ⟨b2791, 0, [.int .i64 n2749, .slice A2754 s2750.length c2755, .bool b2751, .slice A_ k c_, .slice A2983 (q + 1) c2984], true⟩, ⟨b2969, 0, [.int .u32 k2956, .slice A2959 s2957.length c2960], true⟩] [⟨A_, c_, 39, 5, k, xs⟩, ⟨A2983, c2984, 62, 2, q + 1, ys ++ [.int .u32 k2956, .slice A2959 s2957.length c2960]⟩] 3
      have hE3002 := EnvOk.pick hE2999 (ks := [2, 3, 31, 32, 33]) (env' := [(2, .p 1 0), (3, .p 2 0), (31, .v (.slice A2758 u2753.length c2759)), (32, .v (.int .i64 ((u2753.length : Nat) : Int))), (33, .v (.int .i64 (IntKind.i64.wrap (((q : Nat) : Int) + 1))))]) (by kernel_rfl)
      have he3003 : IntKind.i64.wrap (((q : Nat) : Int) + 1) = ((q + 1 : Nat) : Int) := wrap_succ (by omega)
      rw [he3003] at hE3002
      exact ⟨u2753.length - (q + 1), by omega, q + 1, A2983, c2984, ys ++ [Value.int .u32 k2956, .slice A2959 s2957.length c2960], (dss ++ [[Value.int .u32 k2956, .slice A2959 s2957.length c2960]]), rfl, by omega, by rw [take_succ_of he2958]; exact (hU.move (Fr.trans (Fr.trans (Fr.trans (Fr.trans hF2974 hF2978) hF2987) hF2993) hF3001).step immM (Fr.trans (Fr.trans (Fr.trans (Fr.trans hF2974 hF2978) hF2987) hF2993) hF3001).to').snoc (c := [.int .u32 k2956, .slice A2959 s2957.length c2960]) (x := (k2956, s2957)) ⟨⟨_, _, rfl, (hb2962.move hW3000.step nilM hW3000.imm)⟩, h2963, h2964⟩, hE3002, hW3000, (Fr.trans (Fr.trans (Fr.trans (Fr.trans (Fr.trans hF2945 hF2974) hF2978) hF2987) hF2993) hF3001)⟩
    ·
      have hf3004 := of_decide_eq_false hc2949
      refine wp_exit ?_
      refine then_exit ?_
      refine then_exit ?_
      refine block_exit ?_
      refine then_normal ?_
      refine go_seq_region [0, 1] (by kernel_rfl) ?_
      refine go_runs [0] [1] [2, 48] hW2942 hE2948 (env' := [(2, .p 1 0), (48, .v (.agg #[.int .i64 n2749, .slice A2754 s2750.length c2755, .bool b2751, .slice A_ k c_, .slice A5_ q c5_]))]) (by kernel_rfl) rfl fun a3005 hE3006 => ?_
      clear hE2948
      refine of_op (wpOp_store hW2942 hE3006 (oi := 1) (cs := [.int .i64 n2749, .slice A2754 s2750.length c2755, .bool b2751, .slice A_ k c_, .slice A5_ q c5_]) (by kernel_rfl) fun w3007 hF3008 hW3009 hE3010 => ?_)
      clear hE3006 hW2942
      refine wpOps_nil ?_
      refine then_normal ?_
      refine wp_ret ?_
      refine leave hE3010 hW3009.cells (v := .agg #[.int .i64 n2749, .slice A2754 s2750.length c2755, .bool b2751, .slice A_ k c_, .slice A5_ q c5_]) (by kernel_rfl) ?_
      have hq0 : q = u2753.length := by omega
      have hT' := (hT.move (Fr.trans (Fr.trans hF2937 hF2945) hF3008).step immM (Fr.trans (Fr.trans hF2937 hF2945) hF3008).to')
      have hU' := (hU.move hF3008.step immM hF3008.to')
      rw [show l2752.take k = l2752 by rw [hk0, List.take_length]] at hT'
      rw [show u2753.take q = u2753 by rw [hq0, List.take_length]] at hU'
      exact tree_end hW3009 rfl (h2762.move hW3009.step nilM startFp) hk0 (trees_fp hW3009 (k := 0) rfl hT' hk0 (by omega)) hq0 (tags_fp hW3009 (k := 1) rfl hU' hq0 (by omega)) rfl

theorem lGiven : ∀ m, GivenOK m
  | 0 => fun ct t w F ht hd => by
    obtain ⟨n, s, b, l, u, A1, c1, A2, c2, A3, c3, xs, rfl, _⟩ := ht.open_
    rw [tdepth_mk] at hd; omega
  | m + 1 => lGiven_step (lGiven m)

end Go.Proofs.Ytbjopfcbpobnpaa.ME
