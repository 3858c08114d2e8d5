/- Contracts: printed by tools/sp.py. Own work. -/
import Derived.Test.YtlkiilgbpliakaaSx
import Derived.Test.YtlkiilgbpliakaaPz
namespace Go.Proofs.Ytlkiilgbpliakaa.ME
open Go
set_option linter.unusedVariables false
set_option linter.unusedSimpArgs false
set_option maxRecDepth 20000

/-- a tree, given over: a tree at most m deep -/
def GivenOK (m : Nat) : Prop := ∀ (ct : List Value) (t : Tree) (w : World) (F : Nat → Nat → Prop), TreeR w F ct t → t.depth ≤ m →
    Calls Try.prog 12 #[.agg ct.toArray] w (GivesT w F t)

theorem lGiven_step {m : Nat} (hg : GivenOK m) (ct : List Value) (t : Tree) (w : World) (F : Nat → Nat → Prop) (ht : TreeR w F ct t) (hd : t.depth ≤ m + 1) :
    Calls Try.prog 12 #[.agg ct.toArray] w (GivesT w F t) := by
  obtain ⟨n2828, s2829, b2830, l2831, u2832, A2833, c2834, A2835, c2836, A2837, c2838, xs2839, rfl, rfl, h2841, h2842, h2843, h2844⟩ := ht.open_
  have hsm2846 := h2841.small
  have hsm2847 := h2842.small
  obtain ⟨cs2848, h2849, h2850⟩ := h2844.ex
  have hsm2851 := h2849.small
  refine enter (n := 49) Try.func12 rfl Try.ntmps12 (by kernel_rfl) fun a hE => ?_
  have hW := WOk.start w Nil
  refine go_seq_region [0, 1] (by kernel_rfl) ?_
  refine of_op (wpOp_box hW hE (d := 1) (cs := [.int .i64 n2828, .slice A2833 s2829.length c2834, .bool b2830, .slice A2835 l2831.length c2836, .slice A2837 u2832.length c2838]) (by kernel_rfl) fun b2852 a2853 w2854 hb2855 hz2856 hF2857 hW2858 hE2859 => ?_)
  clear hE hW
  refine of_op (wpOp_alloc hW2858 hE2859 (d := 2) (cs := [.int .i64 0, .slice none 0 0, .bool false, .slice none 0 0, .slice none 0 0]) (by kernel_rfl) fun b2860 a2861 w2862 hb2863 hz2864 hF2865 hW2866 hE2867 => ?_)
  clear hE2859 hW2858
  refine wpOps_nil ?_
  refine then_normal ?_
  refine go_seq_region [0, 1, 2, 3, 4, 5, 6, 7, 8] (by kernel_rfl) ?_
  refine go_runs [0, 1, 2, 3, 4, 5, 6] [7, 8] [1, 2, 14] hW2866 hE2867 (env' := [(1, .p 0 0), (2, .p 1 0), (14, .v (.agg #[.int .i64 n2828, .slice A2833 s2829.length c2834, .bool b2830, .slice none 0 0, .slice none 0 0]))]) (by kernel_rfl) rfl fun a2868 hE2869 => ?_
  clear hE2867
  refine of_op (wpOp_alloc hW2866 hE2869 (d := 3) (cs := [.int .i64 0, .slice none 0 0, .bool false, .slice none 0 0, .slice none 0 0]) (by kernel_rfl) fun b2870 a2871 w2872 hb2873 hz2874 hF2875 hW2876 hE2877 => ?_)
  clear hE2869 hW2866
  refine of_op (wpOp_store hW2876 hE2877 (oi := 2) (cs := [.int .i64 n2828, .slice A2833 s2829.length c2834, .bool b2830, .slice none 0 0, .slice none 0 0]) (by kernel_rfl) fun w2878 hF2879 hW2880 hE2881 => ?_)
  clear hE2877 hW2876
  refine wpOps_nil ?_
  refine then_normal ?_
  refine wp_seq ?_
  refine go_seq_region [0, 1, 2, 3] (by kernel_rfl) ?_
  refine go_runs [0, 1, 2, 3] [] [1, 2, 3, 16, 17, 18] hW2880 hE2881 (env' := [(1, .p 0 0), (2, .p 1 0), (3, .p 2 0), (16, .v (.slice A2835 l2831.length c2836)), (17, .v (.int .i64 ((l2831.length : Nat) : Int))), (18, .v (.int .i64 0))]) (by kernel_rfl) rfl fun a2882 hE2883 => ?_
  clear hE2881
  refine wpOps_nil ?_
  refine then_normal ?_
  refine wp_block ?_
  have hW2884 := hW2880.addNil 37 5
  have hF2885 := Fr.addNil w2878 [⟨b2852, 0, [.int .i64 n2828, .slice A2833 s2829.length c2834, .bool b2830, .slice A2835 l2831.length c2836, .slice A2837 u2832.length c2838], true⟩, ⟨b2860, 0, [.int .i64 0, .slice none 0 0, .bool false, .slice none 0 0, .slice none 0 0], true⟩, ⟨b2870, 0, [.int .i64 n2828, .slice A2833 s2829.length c2834, .bool b2830, .slice none 0 0, .slice none 0 0], true⟩] [] 37 5
  clear hW2880
  have hE2894 := EnvOk.pick hE2883 (ks := [1, 2, 3, 16, 17, 18]) (env' := [(1, .p 0 0), (2, .p 1 0), (3, .p 2 0), (16, .v (.slice A2835 l2831.length c2836)), (17, .v (.int .i64 ((l2831.length : Nat) : Int))), (18, .v (.int .i64 0))]) (by kernel_rfl)
  refine wp_loop_ghost (fun n_ a_ w_ => ∃ (k : Nat) (A_ : Option Addr) (c_ : Nat) (xs : List Value) (css : List (List Value)), n_ = l2831.length - k ∧ k ≤ l2831.length ∧ (Trees w_ (Imm F w w_ [⟨b2852, 0, [.int .i64 n2828, .slice A2833 s2829.length c2834, .bool b2830, .slice A2835 l2831.length c2836, .slice A2837 u2832.length c2838], true⟩, ⟨b2860, 0, [.int .i64 0, .slice none 0 0, .bool false, .slice none 0 0, .slice none 0 0], true⟩, ⟨b2870, 0, [.int .i64 n2828, .slice A2833 s2829.length c2834, .bool b2830, .slice A_ k c_, .slice none 0 0], true⟩] [⟨A_, c_, 37, 5, k, xs⟩]) xs (l2831.take k) css) ∧ EnvOk 49 [⟨b2852, 0, [.int .i64 n2828, .slice A2833 s2829.length c2834, .bool b2830, .slice A2835 l2831.length c2836, .slice A2837 u2832.length c2838], true⟩, ⟨b2860, 0, [.int .i64 0, .slice none 0 0, .bool false, .slice none 0 0, .slice none 0 0], true⟩, ⟨b2870, 0, [.int .i64 n2828, .slice A2833 s2829.length c2834, .bool b2830, .slice A_ k c_, .slice none 0 0], true⟩] [(1, .p 0 0), (2, .p 1 0), (3, .p 2 0), (16, .v (.slice A2835 l2831.length c2836)), (17, .v (.int .i64 ((l2831.length : Nat) : Int))), (18, .v (.int .i64 ((k : Nat) : Int)))] a_ ∧ WOk w Nil w_ [⟨b2852, 0, [.int .i64 n2828, .slice A2833 s2829.length c2834, .bool b2830, .slice A2835 l2831.length c2836, .slice A2837 u2832.length c2838], true⟩, ⟨b2860, 0, [.int .i64 0, .slice none 0 0, .bool false, .slice none 0 0, .slice none 0 0], true⟩, ⟨b2870, 0, [.int .i64 n2828, .slice A2833 s2829.length c2834, .bool b2830, .slice A_ k c_, .slice none 0 0], true⟩] [⟨A_, c_, 37, 5, k, xs⟩] ∧ Fr w2878 [⟨b2852, 0, [.int .i64 n2828, .slice A2833 s2829.length c2834, .bool b2830, .slice A2835 l2831.length c2836, .slice A2837 u2832.length c2838], true⟩, ⟨b2860, 0, [.int .i64 0, .slice none 0 0, .bool false, .slice none 0 0, .slice none 0 0], true⟩, ⟨b2870, 0, [.int .i64 n2828, .slice A2833 s2829.length c2834, .bool b2830, .slice none 0 0, .slice none 0 0], true⟩] [⟨none, 0, 37, 5, 0, []⟩] w_ [⟨b2852, 0, [.int .i64 n2828, .slice A2833 s2829.length c2834, .bool b2830, .slice A2835 l2831.length c2836, .slice A2837 u2832.length c2838], true⟩, ⟨b2860, 0, [.int .i64 0, .slice none 0 0, .bool false, .slice none 0 0, .slice none 0 0], true⟩, ⟨b2870, 0, [.int .i64 n2828, .slice A2833 s2829.length c2834, .bool b2830, .slice A_ k c_, .slice none 0 0], true⟩] [⟨A_, c_, 37, 5, k, xs⟩]) (l2831.length) ⟨0, none, 0, [], [], by omega, by omega, Trees.nil _ _, hE2894, hW2884, Fr.refl _ _ _⟩ ?_
  clear hE2894 hE2883 hW2884
  rintro n2886 a2887 w2888 ⟨k, A_, c_, xs, css, hn2891, hk2892, hT, hE2889, hW2890, hF2893⟩
  refine go_seq_region [0] (by kernel_rfl) ?_
  refine go_runs [0] [] [1, 2, 3, 16, 17, 18, 19] hW2890 hE2889 (env' := [(1, .p 0 0), (2, .p 1 0), (3, .p 2 0), (16, .v (.slice A2835 l2831.length c2836)), (17, .v (.int .i64 ((l2831.length : Nat) : Int))), (18, .v (.int .i64 ((k : Nat) : Int))), (19, .v (.bool (decide (((k : Nat) : Int) < ((l2831.length : Nat) : Int)))))]) (by kernel_rfl) rfl fun a2895 hE2896 => ?_
  clear hE2889
  refine wpOps_nil ?_
  refine then_normal ?_
  refine wp_seq ?_
  refine cond_of hE2896 (b := decide (((k : Nat) : Int) < ((l2831.length : Nat) : Int))) (by kernel_rfl) (fun hc2897 => ?_) (fun hc2897 => ?_)
  ·
    have hf2898 := of_decide_eq_true hc2897
    refine wp_skip ?_
    refine then_normal ?_
    refine wp_seq ?_
    refine wp_block ?_
    refine go_seq_region [0, 1, 2, 3] (by kernel_rfl) ?_
    obtain ⟨b2899, o2900, hA2901, hl2902, hat2903⟩ := Slots.get h2842 (i := k) (by omega)
    obtain ⟨x2904, he2905⟩ : ∃ x, l2831[k]? = some x := ⟨_, List.getElem?_eq_getElem (by omega)⟩
    have hr2906 := h2843 k x2904 he2905
    obtain ⟨n2907, s2908, b2909, l2910, u2911, A2912, c2913, A2914, c2915, A2916, c2917, xs2918, rfl, hcs2919, h2920, h2921, h2922, h2923⟩ := hr2906.open_
    rw [hcs2919] at hr2906
    have hsm2925 := h2920.small
    have hsm2926 := h2921.small
    rw [hcs2919] at hat2903
    refine of_op (wpOp_index hE2896 (t := 23) (A := A2835) (m := l2831.length) (q := ((k : Nat) : Int)) (d := 20) (by kernel_rfl) (e := 26) (size := 5) (bytes := 88) (by kernel_rfl) hA2901 rfl (by omega) fun a2927 hE2928 => ?_)
    clear hE2896
    refine of_op (wpOp_load hE2928 (t := 26) (b := b2899) (o := o2900 + k * 5) (d := 21) (by kernel_rfl) (cs := [.int .i64 n2907, .slice A2912 s2908.length c2913, .bool b2909, .slice A2914 l2910.length c2915, .slice A2916 u2911.length c2917]) (v := .agg #[.int .i64 n2907, .slice A2912 s2908.length c2913, .bool b2909, .slice A2914 l2910.length c2915, .slice A2916 u2911.length c2917]) (by kernel_rfl) (AtF.move hat2903 hW2890.step nilM keepF).at_ fun a2929 hE2930 => ?_)
    clear hE2928
    refine of_op (wpOp_alloc hW2890 hE2930 (d := 5) (cs := [.int .i64 0, .slice none 0 0, .bool false, .slice none 0 0, .slice none 0 0]) (by kernel_rfl) fun b2931 a2932 w2933 hb2934 hz2935 hF2936 hW2937 hE2938 => ?_)
    clear hE2930 hW2890
    refine of_op (wpOp_store hW2937 hE2938 (oi := 3) (cs := [.int .i64 n2907, .slice A2912 s2908.length c2913, .bool b2909, .slice A2914 l2910.length c2915, .slice A2916 u2911.length c2917]) (by kernel_rfl) fun w2939 hF2940 hW2941 hE2942 => ?_)
    clear hE2938 hW2937
    refine wpOps_nil ?_
    refine then_normal ?_
    refine go_drawK 7 (by kernel_rfl) hW2941 fun w2943 hF2944 hW2945 hT2946 => ?_
    clear hW2941
    refine go_runsD [0, 1, 2] [1, 2, 3, 16, 17, 18, 23, 24] 5 (by kernel_rfl) (panicFree_block (panicFree_then (panicFree_then (panicFree_block (panicFree_then panicFree_body))))) (fun _ h => h.cells) hT2946 hE2942 (by kernel_rfl) (env' := [(1, .p 0 0), (2, .p 1 0), (3, .p 2 0), (16, .v (.slice A2835 l2831.length c2836)), (17, .v (.int .i64 ((l2831.length : Nat) : Int))), (18, .v (.int .i64 ((k : Nat) : Int))), (23, .v (.slice A_ k c_)), (24, .v (.agg #[.int .i64 n2907, .slice A2912 s2908.length c2913, .bool b2909, .slice A2914 l2910.length c2915, .slice A2916 u2911.length c2917]))]) (by kernel_rfl) rfl fun a2947 hE2948 => ?_
    clear hE2942
    refine anyC_op (i := 3) (by kernel_rfl) (wpOp_call hE2948 (f := 12) (vs := [.agg #[.int .i64 n2907, .slice A2912 s2908.length c2913, .bool b2909, .slice A2914 l2910.length c2915, .slice A2916 u2911.length c2917]]) (d := 25) (by kernel_rfl) Try.call12 ( hg _ _ _ _ (hr2906.move hW2945.step nilM hW2945.imm) (by have h_ := deep_get he2905; rw [tdepth_mk] at hd; omega)) ?_)
    rintro e_ w2952 ⟨cs2951, rfl, hr2950, hs2949⟩
    have hr2953 := hr2950.move (Step.refl _ Nil) nilM (hW2945.laid (G := F) hs2949)
    obtain ⟨n2954, s2955, b2956, l2957, u2958, A2959, c2960, A2961, c2962, A2963, c2964, xs2965, ht2971, hcs2966, h2967, h2968, h2969, h2970⟩ := hr2953.open_
    rw [hcs2966] at hr2953
    have hsm2972 := h2967.small
    have hsm2973 := h2968.small
    rw [hcs2966]
    refine ⟨_, rfl, fun a2974 hE2975 => ?_⟩
    have hW2976 := hW2945.next_nil hs2949
    have hF2977 := Fr.nil [⟨b2852, 0, [.int .i64 n2828, .slice A2833 s2829.length c2834, .bool b2830, .slice A2835 l2831.length c2836, .slice A2837 u2832.length c2838], true⟩, ⟨b2860, 0, [.int .i64 0, .slice none 0 0, .bool false, .slice none 0 0, .slice none 0 0], true⟩, ⟨b2870, 0, [.int .i64 n2828, .slice A2833 s2829.length c2834, .bool b2830, .slice A_ k c_, .slice none 0 0], true⟩, ⟨b2931, 0, [.int .i64 n2907, .slice A2912 s2908.length c2913, .bool b2909, .slice A2914 l2910.length c2915, .slice A2916 u2911.length c2917], true⟩] [⟨A_, c_, 37, 5, k, xs⟩] hs2949
    clear hE2948
    have hT2978 : TT w2943 [⟨b2852, 0, [.int .i64 n2828, .slice A2833 s2829.length c2834, .bool b2830, .slice A2835 l2831.length c2836, .slice A2837 u2832.length c2838], true⟩, ⟨b2860, 0, [.int .i64 0, .slice none 0 0, .bool false, .slice none 0 0, .slice none 0 0], true⟩, ⟨b2870, 0, [.int .i64 n2828, .slice A2833 s2829.length c2834, .bool b2830, .slice A_ k c_, .slice none 0 0], true⟩, ⟨b2931, 0, [.int .i64 n2907, .slice A2912 s2908.length c2913, .bool b2909, .slice A2914 l2910.length c2915, .slice A2916 u2911.length c2917], true⟩] [⟨A_, c_, 37, 5, k, xs⟩] w2952 := ⟨hW2976.cells, hF2977.step⟩
    refine ⟨fun _ => hT2978, ?_⟩
    refine anyC_op (i := 4) (by kernel_rfl) (wpOp_lit hW2976 hE2975 (e := 37) (size := 5) (len := 1) (cs := [.int .i64 n2954, .slice A2959 s2955.length c2960, .bool b2956, .slice A2961 l2957.length c2962, .slice A2963 u2958.length c2964]) (d := 26) (by kernel_rfl) (by kernel_rfl) fun b2979 a2980 w2981 hb2982 hz2983 hF2984 hW2985 hE2986 => ?_)
    clear hE2975 hW2976
    have hT2987 : TT w2943 [⟨b2852, 0, [.int .i64 n2828, .slice A2833 s2829.length c2834, .bool b2830, .slice A2835 l2831.length c2836, .slice A2837 u2832.length c2838], true⟩, ⟨b2860, 0, [.int .i64 0, .slice none 0 0, .bool false, .slice none 0 0, .slice none 0 0], true⟩, ⟨b2870, 0, [.int .i64 n2828, .slice A2833 s2829.length c2834, .bool b2830, .slice A_ k c_, .slice none 0 0], true⟩, ⟨b2931, 0, [.int .i64 n2907, .slice A2912 s2908.length c2913, .bool b2909, .slice A2914 l2910.length c2915, .slice A2916 u2911.length c2917], true⟩] [⟨A_, c_, 37, 5, k, xs⟩] w2981 := ⟨hW2985.cells, (Fr.trans hF2977 hF2984).step⟩
    refine ⟨fun _ => hT2987, ?_⟩
    refine anyC_op (i := 5) (by kernel_rfl) (wpOp_append hW2985 hE2986 (k := 0) (d := 27) (t := 34) (e := 37) (size := 5) (bytes := 88) (A := A_) (As := (some ⟨b2979, 0, none⟩)) (m0 := k) (c := c_) (m := 1) (cs := 1) (xs := xs) (news := [.int .i64 n2954, .slice A2959 s2955.length c2960, .bool b2956, .slice A2961 l2957.length c2962, .slice A2963 u2958.length c2964]) (by kernel_rfl) (by kernel_rfl) rfl (own_src (hW2985.own 1 _ rfl) (allOne_ok (by kernel_rfl))) (own_cap (hW2985.own 1 _ rfl)) (by omega) fun A2988 c2989 a2990 w2991 hF2992 hW2993 hE2994 => ?_)
    clear hE2986 hW2985
    have hT2995 : TT w2943 [⟨b2852, 0, [.int .i64 n2828, .slice A2833 s2829.length c2834, .bool b2830, .slice A2835 l2831.length c2836, .slice A2837 u2832.length c2838], true⟩, ⟨b2860, 0, [.int .i64 0, .slice none 0 0, .bool false, .slice none 0 0, .slice none 0 0], true⟩, ⟨b2870, 0, [.int .i64 n2828, .slice A2833 s2829.length c2834, .bool b2830, .slice A_ k c_, .slice none 0 0], true⟩, ⟨b2931, 0, [.int .i64 n2907, .slice A2912 s2908.length c2913, .bool b2909, .slice A2914 l2910.length c2915, .slice A2916 u2911.length c2917], true⟩] [⟨A_, c_, 37, 5, k, xs⟩] w2991 := ⟨hW2993.cells, (Fr.trans (Fr.trans hF2977 hF2984) hF2992).step⟩
    refine ⟨fun _ => hT2995, ?_⟩
    refine go_runsD [6] [1, 2, 3, 16, 17, 18, 27, 28] 1 (by kernel_rfl) (panicFree_block (panicFree_then (panicFree_then (panicFree_block (panicFree_then panicFree_body))))) (fun _ h => h.cells) hT2995 hE2994 (by kernel_rfl) (env' := [(1, .p 0 0), (2, .p 1 0), (3, .p 2 0), (16, .v (.slice A2835 l2831.length c2836)), (17, .v (.int .i64 ((l2831.length : Nat) : Int))), (18, .v (.int .i64 ((k : Nat) : Int))), (27, .v (.slice A2988 (k + 1) c2989)), (28, .p 2 3)]) (by kernel_rfl) rfl fun a2996 hE2997 => ?_
    clear hE2994
    refine anyC_op (i := 7) (by kernel_rfl) (wpOp_store hW2993 hE2997 (oi := 2) (cs := [.int .i64 n2828, .slice A2833 s2829.length c2834, .bool b2830, .slice A2988 (k + 1) c2989, .slice none 0 0]) (by kernel_rfl) fun w2998 hF2999 hW3000 hE3001 => ?_)
    clear hE2997 hW2993
    refine ⟨fun h => absurd rfl h, ?_⟩
    refine anyC_done (by kernel_rfl) ?_ _
    refine block_normal ?_
    refine then_normal ?_
    refine go_region [0, 1] (by kernel_rfl) ?_
    refine go_runs [0, 1] [] [1, 2, 3, 16, 17, 18] hW3000 hE3001 (env' := [(1, .p 0 0), (2, .p 1 0), (3, .p 2 0), (16, .v (.slice A2835 l2831.length c2836)), (17, .v (.int .i64 ((l2831.length : Nat) : Int))), (18, .v (.int .i64 (IntKind.i64.wrap (((k : Nat) : Int) + 1))))]) (by kernel_rfl) rfl fun a3002 hE3003 => ?_
    clear hE3001
    refine wpOps_nil ?_
    refine then_normal ?_
    have hE3004 := EnvOk.pick hE3003 (ks := [1, 2, 3, 16, 17, 18]) (env' := [(1, .p 0 0), (2, .p 1 0), (3, .p 2 0), (16, .v (.slice A2835 l2831.length c2836)), (17, .v (.int .i64 ((l2831.length : Nat) : Int))), (18, .v (.int .i64 (IntKind.i64.wrap (((k : Nat) : Int) + 1))))]) (by kernel_rfl)
    have hE3005 : EnvOk 49 [⟨b2852, 0, [.int .i64 n2828, .slice A2833 s2829.length c2834, .bool b2830, .slice A2835 l2831.length c2836, .slice A2837 u2832.length c2838], true⟩, ⟨b2860, 0, [.int .i64 0, .slice none 0 0, .bool false, .slice none 0 0, .slice none 0 0], true⟩, ⟨b2870, 0, [.int .i64 n2828, .slice A2833 s2829.length c2834, .bool b2830, .slice A2988 (k + 1) c2989, .slice none 0 0], true⟩] _ _ := hE3004.cutTb 3 (by kernel_rfl)
    have hW3006 : WOk _ _ _ [⟨b2852, 0, [.int .i64 n2828, .slice A2833 s2829.length c2834, .bool b2830, .slice A2835 l2831.length c2836, .slice A2837 u2832.length c2838], true⟩, ⟨b2860, 0, [.int .i64 0, .slice none 0 0, .bool false, .slice none 0 0, .slice none 0 0], true⟩, ⟨b2870, 0, [.int .i64 n2828, .slice A2833 s2829.length c2834, .bool b2830, .slice A2988 (k + 1) c2989, .slice none 0 0], true⟩] _ := hW3000.cutTb 3
    have hF3007 : Fr _ _ _ _ [⟨b2852, 0, [.int .i64 n2828, .slice A2833 s2829.length c2834, .bool b2830, .slice A2835 l2831.length c2836, .slice A2837 u2832.length c2838], true⟩, ⟨b2860, 0, [.int .i64 0, .slice none 0 0, .bool false, .slice none 0 0, .slice none 0 0], true⟩, ⟨b2870, 0, [.int .i64 n2828, .slice A2833 s2829.length c2834, .bool b2830, .slice A2988 (k + 1) c2989, .slice none 0 0], true⟩] _ := Fr.cutTb w2998 [⟨b2852, 0, [.int .i64 n2828, .slice A2833 s2829.length c2834, .bool b2830, .slice A2835 l2831.length c2836, .slice A2837 u2832.length c2838], true⟩, ⟨b2860, 0, [.int .i64 0, .slice none 0 0, .bool false, .slice none 0 0, .slice none 0 0], true⟩, ⟨b2870, 0, [.int .i64 n2828, .slice A2833 s2829.length c2834, .bool b2830, .slice A2988 (k + 1) c2989, .slice none 0 0], true⟩, ⟨b2931, 0, [.int .i64 n2907, .slice A2912 s2908.length c2913, .bool b2909, .slice A2914 l2910.length c2915, .slice A2916 u2911.length c2917], true⟩] [⟨A2988, c2989, 37, 5, k + 1, xs ++ [.int .i64 n2954, .slice A2959 s2955.length c2960, .bool b2956, .slice A2961 l2957.length c2962, .slice A2963 u2958.length c2964]⟩, ⟨some ⟨b2979, 0, none⟩, 1, 37, 5, 1, [.int .i64 n2954, .slice A2959 s2955.length c2960, .bool b2956, .slice A2961 l2957.length c2962, .slice A2963 u2958.length c2964]⟩] 3
    have hW3008 : WOk _ _ _ _ [⟨A2988, c2989, 37, 5, k + 1, xs ++ [.int .i64 n2954, .slice A2959 s2955.length c2960, .bool b2956, .slice A2961 l2957.length c2962, .slice A2963 u2958.length c2964]⟩] := hW3006.rows 1
    have hF3009 : Fr _ _ _ _ _ [⟨A2988, c2989, 37, 5, k + 1, xs ++ [.int .i64 n2954, .slice A2959 s2955.length c2960, .bool b2956, .slice A2961 l2957.length c2962, .slice A2963 u2958.length c2964]⟩] := Fr.rows w2998 [⟨b2852, 0, [.int .i64 n2828, .slice A2833 s2829.length c2834, .bool b2830, .slice A2835 l2831.length c2836, .slice A2837 u2832.length c2838], true⟩, ⟨b2860, 0, [.int .i64 0, .slice none 0 0, .bool false, .slice none 0 0, .slice none 0 0], true⟩, ⟨b2870, 0, [.int .i64 n2828, .slice A2833 s2829.length c2834, .bool b2830, .slice A2988 (k + 1) c2989, .slice none 0 0], true⟩] [⟨A2988, c2989, 37, 5, k + 1, xs ++ [.int .i64 n2954, .slice A2959 s2955.length c2960, .bool b2956, .slice A2961 l2957.length c2962, .slice A2963 u2958.length c2964]⟩, ⟨some ⟨b2979, 0, none⟩, 1, 37, 5, 1, [.int .i64 n2954, .slice A2959 s2955.length c2960, .bool b2956, .slice A2961 l2957.length c2962, .slice A2963 u2958.length c2964]⟩] 1
    have hE3010 := EnvOk.pick hE3005 (ks := [1, 2, 3, 16, 17, 18]) (env' := [(1, .p 0 0), (2, .p 1 0), (3, .p 2 0), (16, .v (.slice A2835 l2831.length c2836)), (17, .v (.int .i64 ((l2831.length : Nat) : Int))), (18, .v (.int .i64 (IntKind.i64.wrap (((k : Nat) : Int) + 1))))]) (by kernel_rfl)
    have he3011 : IntKind.i64.wrap (((k : Nat) : Int) + 1) = ((k + 1 : Nat) : Int) := wrap_succ (by omega)
    rw [he3011] at hE3010
    exact ⟨l2831.length - (k + 1), by omega, k + 1, A2988, c2989, xs ++ [Value.int .i64 n2954, .slice A2959 s2955.length c2960, .bool b2956, .slice A2961 l2957.length c2962, .slice A2963 u2958.length c2964], (css ++ [[Value.int .i64 n2954, .slice A2959 s2955.length c2960, .bool b2956, .slice A2961 l2957.length c2962, .slice A2963 u2958.length c2964]]), rfl, by omega, by rw [take_succ_of he2905]; exact (hT.move (Fr.trans (Fr.trans (Fr.trans (Fr.trans (Fr.trans (Fr.trans (Fr.trans (Fr.trans hF2936 hF2940) hF2944) hF2977) hF2984) hF2992) hF2999) hF3007) hF3009).step immM (Fr.trans (Fr.trans (Fr.trans (Fr.trans (Fr.trans (Fr.trans (Fr.trans (Fr.trans hF2936 hF2940) hF2944) hF2977) hF2984) hF2992) hF2999) hF3007) hF3009).to').snoc (hr2953.move (Fr.trans (Fr.trans (Fr.trans (Fr.trans hF2984 hF2992) hF2999) hF3007) hF3009).step immM (Fr.trans (Fr.trans (Fr.trans (Fr.trans hF2984 hF2992) hF2999) hF3007) hF3009).to'), hE3010, hW3008, (Fr.trans (Fr.trans (Fr.trans (Fr.trans (Fr.trans (Fr.trans (Fr.trans (Fr.trans (Fr.trans hF2893 hF2936) hF2940) hF2944) hF2977) hF2984) hF2992) hF2999) hF3007) hF3009)⟩
  ·
    have hf3012 := of_decide_eq_false hc2897
    refine wp_exit ?_
    refine then_exit ?_
    refine then_exit ?_
    refine block_exit ?_
    refine then_normal ?_
    refine wp_seq ?_
    refine go_seq_region [0, 1, 2, 3] (by kernel_rfl) ?_
    refine go_runs [0, 1, 2, 3] [] [2, 3, 31, 32, 33] hW2890 hE2896 (env' := [(2, .p 1 0), (3, .p 2 0), (31, .v (.slice A2837 u2832.length c2838)), (32, .v (.int .i64 ((u2832.length : Nat) : Int))), (33, .v (.int .i64 0))]) (by kernel_rfl) rfl fun a3013 hE3014 => ?_
    clear hE2896
    refine wpOps_nil ?_
    refine then_normal ?_
    refine wp_block ?_
    have hk0 : k = l2831.length := by omega
    have hW3015 := hW2890.addNil 56 2
    have hF3016 := Fr.addNil w2888 [⟨b2852, 0, [.int .i64 n2828, .slice A2833 s2829.length c2834, .bool b2830, .slice A2835 l2831.length c2836, .slice A2837 u2832.length c2838], true⟩, ⟨b2860, 0, [.int .i64 0, .slice none 0 0, .bool false, .slice none 0 0, .slice none 0 0], true⟩, ⟨b2870, 0, [.int .i64 n2828, .slice A2833 s2829.length c2834, .bool b2830, .slice A_ k c_, .slice none 0 0], true⟩] [⟨A_, c_, 37, 5, k, xs⟩] 56 2
    clear hW2890
    have hE3025 := EnvOk.pick hE3014 (ks := [2, 3, 31, 32, 33]) (env' := [(2, .p 1 0), (3, .p 2 0), (31, .v (.slice A2837 u2832.length c2838)), (32, .v (.int .i64 ((u2832.length : Nat) : Int))), (33, .v (.int .i64 0))]) (by kernel_rfl)
    refine wp_loop_ghost (fun n_ a_ w_ => ∃ (q : Nat) (A5_ : Option Addr) (c5_ : Nat) (ys : List Value) (dss : List (List Value)), n_ = u2832.length - q ∧ q ≤ u2832.length ∧ (Tags w_ (Imm F w w_ [⟨b2852, 0, [.int .i64 n2828, .slice A2833 s2829.length c2834, .bool b2830, .slice A2835 l2831.length c2836, .slice A2837 u2832.length c2838], true⟩, ⟨b2860, 0, [.int .i64 0, .slice none 0 0, .bool false, .slice none 0 0, .slice none 0 0], true⟩, ⟨b2870, 0, [.int .i64 n2828, .slice A2833 s2829.length c2834, .bool b2830, .slice A_ k c_, .slice A5_ q c5_], true⟩] [⟨A_, c_, 37, 5, k, xs⟩, ⟨A5_, c5_, 56, 2, q, ys⟩]) ys (u2832.take q) dss) ∧ EnvOk 49 [⟨b2852, 0, [.int .i64 n2828, .slice A2833 s2829.length c2834, .bool b2830, .slice A2835 l2831.length c2836, .slice A2837 u2832.length c2838], true⟩, ⟨b2860, 0, [.int .i64 0, .slice none 0 0, .bool false, .slice none 0 0, .slice none 0 0], true⟩, ⟨b2870, 0, [.int .i64 n2828, .slice A2833 s2829.length c2834, .bool b2830, .slice A_ k c_, .slice A5_ q c5_], true⟩] [(2, .p 1 0), (3, .p 2 0), (31, .v (.slice A2837 u2832.length c2838)), (32, .v (.int .i64 ((u2832.length : Nat) : Int))), (33, .v (.int .i64 ((q : Nat) : Int)))] a_ ∧ WOk w Nil w_ [⟨b2852, 0, [.int .i64 n2828, .slice A2833 s2829.length c2834, .bool b2830, .slice A2835 l2831.length c2836, .slice A2837 u2832.length c2838], true⟩, ⟨b2860, 0, [.int .i64 0, .slice none 0 0, .bool false, .slice none 0 0, .slice none 0 0], true⟩, ⟨b2870, 0, [.int .i64 n2828, .slice A2833 s2829.length c2834, .bool b2830, .slice A_ k c_, .slice A5_ q c5_], true⟩] [⟨A_, c_, 37, 5, k, xs⟩, ⟨A5_, c5_, 56, 2, q, ys⟩] ∧ Fr w2888 [⟨b2852, 0, [.int .i64 n2828, .slice A2833 s2829.length c2834, .bool b2830, .slice A2835 l2831.length c2836, .slice A2837 u2832.length c2838], true⟩, ⟨b2860, 0, [.int .i64 0, .slice none 0 0, .bool false, .slice none 0 0, .slice none 0 0], true⟩, ⟨b2870, 0, [.int .i64 n2828, .slice A2833 s2829.length c2834, .bool b2830, .slice A_ k c_, .slice none 0 0], true⟩] [⟨A_, c_, 37, 5, k, xs⟩, ⟨none, 0, 56, 2, 0, []⟩] w_ [⟨b2852, 0, [.int .i64 n2828, .slice A2833 s2829.length c2834, .bool b2830, .slice A2835 l2831.length c2836, .slice A2837 u2832.length c2838], true⟩, ⟨b2860, 0, [.int .i64 0, .slice none 0 0, .bool false, .slice none 0 0, .slice none 0 0], true⟩, ⟨b2870, 0, [.int .i64 n2828, .slice A2833 s2829.length c2834, .bool b2830, .slice A_ k c_, .slice A5_ q c5_], true⟩] [⟨A_, c_, 37, 5, k, xs⟩, ⟨A5_, c5_, 56, 2, q, ys⟩]) (u2832.length) ⟨0, none, 0, [], [], by omega, by omega, Tags.nil _ _, hE3025, hW3015, Fr.refl _ _ _⟩ ?_
    clear hE3025 hE3014 hW3015
    rintro n3017 a3018 w3019 ⟨q, A5_, c5_, ys, dss, hn3022, hk3023, hU, hE3020, hW3021, hF3024⟩
    refine go_seq_region [0] (by kernel_rfl) ?_
    refine go_runs [0] [] [2, 3, 31, 32, 33, 34] hW3021 hE3020 (env' := [(2, .p 1 0), (3, .p 2 0), (31, .v (.slice A2837 u2832.length c2838)), (32, .v (.int .i64 ((u2832.length : Nat) : Int))), (33, .v (.int .i64 ((q : Nat) : Int))), (34, .v (.bool (decide (((q : Nat) : Int) < ((u2832.length : Nat) : Int)))))]) (by kernel_rfl) rfl fun a3026 hE3027 => ?_
    clear hE3020
    refine wpOps_nil ?_
    refine then_normal ?_
    refine wp_seq ?_
    refine cond_of hE3027 (b := decide (((q : Nat) : Int) < ((u2832.length : Nat) : Int))) (by kernel_rfl) (fun hc3028 => ?_) (fun hc3028 => ?_)
    ·
      have hf3029 := of_decide_eq_true hc3028
      refine wp_skip ?_
      refine then_normal ?_
      refine wp_seq ?_
      refine wp_block ?_
      refine go_seq_region [0, 1, 2, 3] (by kernel_rfl) ?_
      obtain ⟨b3030, o3031, hA3032, hl3033, hat3034⟩ := Slots.get h2849 (i := q) (by omega)
      obtain ⟨⟨k3035, s3036⟩, he3037⟩ : ∃ x, u2832[q]? = some x := ⟨_, List.getElem?_eq_getElem (by omega)⟩
      obtain ⟨⟨A3038, c3039, hcs3040, hb3041⟩, h3042, h3043⟩ := h2850 q k3035 s3036 he3037
      rw [hcs3040] at hat3034
      refine of_op (wpOp_index hE3027 (t := 24) (A := A2837) (m := u2832.length) (q := ((q : Nat) : Int)) (d := 35) (by kernel_rfl) (e := 55) (size := 2) (bytes := 32) (by kernel_rfl) hA3032 rfl (by omega) fun a3044 hE3045 => ?_)
      clear hE3027
      refine of_op (wpOp_load hE3045 (t := 55) (b := b3030) (o := o3031 + q * 2) (d := 36) (by kernel_rfl) (cs := [.int .u32 k3035, .slice A3038 s3036.length c3039]) (v := .agg #[.int .u32 k3035, .slice A3038 s3036.length c3039]) (by kernel_rfl) (AtF.move hat3034 hW3021.step nilM keepF).at_ fun a3046 hE3047 => ?_)
      clear hE3045
      refine of_op (wpOp_alloc hW3021 hE3047 (d := 7) (cs := [.int .u32 0, .slice none 0 0]) (by kernel_rfl) fun b3048 a3049 w3050 hb3051 hz3052 hF3053 hW3054 hE3055 => ?_)
      clear hE3047 hW3021
      refine of_op (wpOp_store hW3054 hE3055 (oi := 3) (cs := [.int .u32 k3035, .slice A3038 s3036.length c3039]) (by kernel_rfl) fun w3056 hF3057 hW3058 hE3059 => ?_)
      clear hE3055 hW3054
      refine wpOps_nil ?_
      refine then_normal ?_
      refine go_region [0, 1, 2, 3, 4, 5, 6, 7, 8, 9, 10] (by kernel_rfl) ?_
      refine go_runs [0, 1, 2, 3, 4, 5, 6] [7, 8, 9, 10] [2, 3, 31, 32, 33, 38, 43] hW3058 hE3059 (env' := [(2, .p 1 0), (3, .p 2 0), (31, .v (.slice A2837 u2832.length c2838)), (32, .v (.int .i64 ((u2832.length : Nat) : Int))), (33, .v (.int .i64 ((q : Nat) : Int))), (38, .v (.slice A5_ q c5_)), (43, .v (.agg #[.int .u32 k3035, .slice A3038 s3036.length c3039]))]) (by kernel_rfl) rfl fun a3060 hE3061 => ?_
      clear hE3059
      refine wpOps_push hW3058 hE3061 (k := 1) (e := 56) (size := 2) (len := 1) (cs := [.int .u32 k3035, .slice A3038 s3036.length c3039]) (d1 := 44) (d := 45) (by kernel_rfl) (t := 35) (bytes := 32) (by kernel_rfl) (fun _ => by kernel_rfl) rfl (by kernel_rfl) (by omega) fun A3062 c3063 a3064 w3065 hF3066 hW3067 ⟨_, hE3068⟩ => ?_
      clear hE3061 hW3058
      refine go_runs [9] [10] [2, 3, 31, 32, 33, 45, 46] hW3067 hE3068 (env' := [(2, .p 1 0), (3, .p 2 0), (31, .v (.slice A2837 u2832.length c2838)), (32, .v (.int .i64 ((u2832.length : Nat) : Int))), (33, .v (.int .i64 ((q : Nat) : Int))), (45, .v (.slice A3062 (q + 1) c3063)), (46, .p 2 4)]) (by kernel_rfl) rfl fun a3069 hE3070 => ?_
      clear hE3068
      refine of_op (wpOp_store hW3067 hE3070 (oi := 2) (cs := [.int .i64 n2828, .slice A2833 s2829.length c2834, .bool b2830, .slice A_ k c_, .slice A3062 (q + 1) c3063]) (by kernel_rfl) fun w3071 hF3072 hW3073 hE3074 => ?_)
      clear hE3070 hW3067
      refine wpOps_nil ?_
      refine block_normal ?_
      refine then_normal ?_
      refine go_region [0, 1] (by kernel_rfl) ?_
      refine go_runs [0, 1] [] [2, 3, 31, 32, 33] hW3073 hE3074 (env' := [(2, .p 1 0), (3, .p 2 0), (31, .v (.slice A2837 u2832.length c2838)), (32, .v (.int .i64 ((u2832.length : Nat) : Int))), (33, .v (.int .i64 (IntKind.i64.wrap (((q : Nat) : Int) + 1))))]) (by kernel_rfl) rfl fun a3075 hE3076 => ?_
      clear hE3074
      refine wpOps_nil ?_
      refine then_normal ?_
      have hE3077 := EnvOk.pick hE3076 (ks := [2, 3, 31, 32, 33]) (env' := [(2, .p 1 0), (3, .p 2 0), (31, .v (.slice A2837 u2832.length c2838)), (32, .v (.int .i64 ((u2832.length : Nat) : Int))), (33, .v (.int .i64 (IntKind.i64.wrap (((q : Nat) : Int) + 1))))]) (by kernel_rfl)
      have hE3078 : EnvOk 49 [⟨b2852, 0, [.int .i64 n2828, .slice A2833 s2829.length c2834, .bool b2830, .slice A2835 l2831.length c2836, .slice A2837 u2832.length c2838], true⟩, ⟨b2860, 0, [.int .i64 0, .slice none 0 0, .bool false, .slice none 0 0, .slice none 0 0], true⟩, ⟨b2870, 0, [.int .i64 n2828, .slice A2833 s2829.length c2834, .bool b2830, .slice A_ k c_, .slice A3062 (q + 1) c3063], true⟩] _ _ := hE3077.cutTb 3 (by kernel_rfl)
      have hW3079 : WOk _ _ _ [⟨b2852, 0, [.int .i64 n2828, .slice A2833 s2829.length c2834, .bool b2830, .slice A2835 l2831.length c2836, .slice A2837 u2832.length c2838], true⟩, ⟨b2860, 0, [.int .i64 0, .slice none 0 0, .bool false, .slice none 0 0, .slice none 0 0], true⟩, ⟨b2870, 0, [.int .i64 n2828, .slice A2833 s2829.length c2834, .bool b2830, .slice A_ k c_, .slice A3062 (q + 1) c3063], true⟩] _ := hW3073.cutTb 3
      have hF3080 : Fr _ _ _ _ [⟨b2852, 0, [.int .i64 n2828, .slice A2833 s2829.length c2834, .bool b2830, .slice A2835 l2831.length c2836, .slice A2837 u2832.length c2838], true⟩, ⟨b2860, 0, [.int .i64 0, .slice none 0 0, .bool false, .slice none 0 0, .slice none 0 0], true⟩, ⟨b2870, 0, [.int .i64 n2828, .slice A2833 s2829.length c2834, .bool b2830, .slice A_ k c_, .slice A3062 (q + 1) c3063], true⟩] _ := Fr.cutTb w3071 [⟨b2852, 0, [.int .i64 n2828, .slice A2833 s2829.length c2834, .bool b2830, .slice A2835 l2831.length c2836, .slice A2837 u2832.length c2838], true⟩, ⟨b2860, 0, [.int .i64 0, .slice none 0 0, .bool false, .slice none 0 0, .slice none 0 0], true⟩, ⟨b2870, 0, [.int .i64 n2828, .slice A2833 s2829.length c2834, .bool b2830, .slice A_ k c_, .slice A3062 (q + 1) c3063], true⟩, ⟨b3048, 0, [.int .u32 k3035, .slice A3038 s3036.length c3039], true⟩] [⟨A_, c_, 37, 5, k, xs⟩, ⟨A3062, c3063, 56, 2, q + 1, ys ++ [.int .u32 k3035, .slice A3038 s3036.length c3039]⟩] 3
      have hE3081 := EnvOk.pick hE3078 (ks := [2, 3, 31, 32, 33]) (env' := [(2, .p 1 0), (3, .p 2 0), (31, .v (.slice A2837 u2832.length c2838)), (32, .v (.int .i64 ((u2832.length : Nat) : Int))), (33, .v (.int .i64 (IntKind.i64.wrap (((q : Nat) : Int) + 1))))]) (by kernel_rfl)
      have he3082 : IntKind.i64.wrap (((q : Nat) : Int) + 1) = ((q + 1 : Nat) : Int) := wrap_succ (by omega)
      rw [he3082] at hE3081
      exact ⟨u2832.length - (q + 1), by omega, q + 1, A3062, c3063, ys ++ [Value.int .u32 k3035, .slice A3038 s3036.length c3039], (dss ++ [[Value.int .u32 k3035, .slice A3038 s3036.length c3039]]), rfl, by omega, by rw [take_succ_of he3037]; exact (hU.move (Fr.trans (Fr.trans (Fr.trans (Fr.trans hF3053 hF3057) hF3066) hF3072) hF3080).step immM (Fr.trans (Fr.trans (Fr.trans (Fr.trans hF3053 hF3057) hF3066) hF3072) hF3080).to').snoc (c := [.int .u32 k3035, .slice A3038 s3036.length c3039]) (x := (k3035, s3036)) ⟨⟨_, _, rfl, (hb3041.move hW3079.step nilM hW3079.imm)⟩, h3042, h3043⟩, hE3081, hW3079, (Fr.trans (Fr.trans (Fr.trans (Fr.trans (Fr.trans hF3024 hF3053) hF3057) hF3066) hF3072) hF3080)⟩
    ·
      have hf3083 := of_decide_eq_false hc3028
      refine wp_exit ?_
      refine then_exit ?_
      refine then_exit ?_
      refine block_exit ?_
      refine then_normal ?_
      refine go_seq_region [0, 1] (by kernel_rfl) ?_
      refine go_runs [0] [1] [2, 48] hW3021 hE3027 (env' := [(2, .p 1 0), (48, .v (.agg #[.int .i64 n2828, .slice A2833 s2829.length c2834, .bool b2830, .slice A_ k c_, .slice A5_ q c5_]))]) (by kernel_rfl) rfl fun a3084 hE3085 => ?_
      clear hE3027
      refine of_op (wpOp_store hW3021 hE3085 (oi := 1) (cs := [.int .i64 n2828, .slice A2833 s2829.length c2834, .bool b2830, .slice A_ k c_, .slice A5_ q c5_]) (by kernel_rfl) fun w3086 hF3087 hW3088 hE3089 => ?_)
      clear hE3085 hW3021
      refine wpOps_nil ?_
      refine then_normal ?_
      refine wp_ret ?_
      refine leave hE3089 hW3088.cells (v := .agg #[.int .i64 n2828, .slice A2833 s2829.length c2834, .bool b2830, .slice A_ k c_, .slice A5_ q c5_]) (by kernel_rfl) ?_
      have hq0 : q = u2832.length := by omega
      have hT' := (hT.move (Fr.trans (Fr.trans hF3016 hF3024) hF3087).step immM (Fr.trans (Fr.trans hF3016 hF3024) hF3087).to')
      have hU' := (hU.move hF3087.step immM hF3087.to')
      rw [show l2831.take k = l2831 by rw [hk0, List.take_length]] at hT'
      rw [show u2832.take q = u2832 by rw [hq0, List.take_length]] at hU'
      exact tree_end hW3088 rfl (h2841.move hW3088.step nilM startFp) hk0 (trees_fp hW3088 (k := 0) rfl hT' hk0 (by omega)) hq0 (tags_fp hW3088 (k := 1) rfl hU' hq0 (by omega)) rfl

theorem lGiven : ∀ m, GivenOK m
  | 0 => fun ct t w F ht hd => by
    obtain ⟨n, s, b, l, u, A1, c1, A2, c2, A3, c3, xs, rfl, _⟩ := ht.open_
    rw [tdepth_mk] at hd; omega
  | m + 1 => lGiven_step (lGiven m)

end Go.Proofs.Ytlkiilgbpliakaa.ME
