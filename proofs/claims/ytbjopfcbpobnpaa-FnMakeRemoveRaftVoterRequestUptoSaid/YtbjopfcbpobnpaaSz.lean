/- Contracts: printed by tools/sp.py. Own work. -/
import Derived.Test.YtbjopfcbpobnpaaSy
namespace Go.Proofs.Ytbjopfcbpobnpaa.ME
open Go
set_option linter.unusedVariables false
set_option linter.unusedSimpArgs false
set_option maxRecDepth 20000

/-- the fitting of a part whose fields are at most d deep -/
def FitOK (d : Nat) : Prop := ∀ (A : Option Addr) (c : Nat) (l : List Fld) (v : Int) (ct : List Value) (t : Tree) (w : World) (F : Nat → Nat → Prop), FldsR w F A c l → plains l → depths l ≤ d → TreeR w F ct t →
    Calls Try.prog 18 #[.slice A l.length c, .int .i64 v, .agg ct.toArray] w (GivesT w F (fitT v d l t))

theorem sFitted0 {d : Nat} (hfit : FitOK d) (cf : List Value) (f : Fld) (v : Int) (ct : List Value) (t : Tree) (w : World) (F : Nat → Nat → Prop) (hf : FldR w F cf f) (hpl : plains f.sub) (hd : depths f.sub ≤ d) (hk11 : f.kind ≠ 11) (ht : TreeR w F ct t) :
    Calls Try.prog 47 #[.agg cf.toArray, .int .i64 v, .agg ct.toArray] w (GivesT w F (fitted0 (fitT v d) f (f.nul v t) t)) := by
  obtain ⟨n3011, s3012, b3013, l3014, u3015, A3016, c3017, A3018, c3019, A3020, c3021, xs3022, rfl, rfl, h3024, h3025, h3026, h3027⟩ := ht.open_
  have hsm3029 := h3024.small
  have hsm3030 := h3025.small
  obtain ⟨k3031, y3032, y3033, y3034, y3035, y3036, y3037, l3038, A3039, c3040, xs3041, rfl, rfl, h3043, h3044⟩ := hf.open_
  have hsm3045 := h3043.small
  have hk11 : k3031 ≠ 11 := hk11
  refine enter (n := 82) Try.func47 rfl Try.ntmps47 (by kernel_rfl) fun a hE => ?_
  have hW := WOk.start w Nil
  refine go_seq_region [0, 1, 2] (by kernel_rfl) ?_
  refine of_op (wpOp_box hW hE (d := 3) (cs := [.int .i64 k3031, .int .i64 y3032, .int .i64 y3033, .int .i64 y3034, .int .i64 y3035, .int .i64 y3036, .int .i64 y3037, .slice A3039 l3038.length c3040]) (by kernel_rfl) fun b3046 a3047 w3048 hb3049 hz3050 hF3051 hW3052 hE3053 => ?_)
  clear hE hW
  refine of_op (wpOp_box hW3052 hE3053 (d := 5) (cs := [.int .i64 n3011, .slice A3016 s3012.length c3017, .bool b3013, .slice A3018 l3014.length c3019, .slice A3020 u3015.length c3021]) (by kernel_rfl) fun b3054 a3055 w3056 hb3057 hz3058 hF3059 hW3060 hE3061 => ?_)
  clear hE3053 hW3052
  refine of_op (wpOp_alloc hW3060 hE3061 (d := 6) (cs := [.int .i64 0, .slice none 0 0, .bool false, .slice none 0 0, .slice none 0 0]) (by kernel_rfl) fun b3062 a3063 w3064 hb3065 hz3066 hF3067 hW3068 hE3069 => ?_)
  clear hE3061 hW3060
  refine wpOps_nil ?_
  refine then_normal ?_
  refine go_seq_region [0, 1, 2, 3, 4] (by kernel_rfl) ?_
  refine go_runs [0, 1, 2] [3, 4] [1, 3, 5, 6, 13, 14, 15] hW3068 hE3069 (env' := [(1, .v (.int .i64 v)), (3, .p 0 0), (5, .p 1 0), (6, .p 2 0), (13, .v (.agg #[.int .i64 k3031, .int .i64 y3032, .int .i64 y3033, .int .i64 y3034, .int .i64 y3035, .int .i64 y3036, .int .i64 y3037, .slice A3039 l3038.length c3040])), (14, .v (.int .i64 v)), (15, .v (.agg #[.int .i64 n3011, .slice A3016 s3012.length c3017, .bool b3013, .slice A3018 l3014.length c3019, .slice A3020 u3015.length c3021]))]) (by kernel_rfl) rfl fun a3070 hE3071 => ?_
  clear hE3069
  refine of_op (wpOp_call hE3071 (f := 103) (vs := [.agg #[.int .i64 k3031, .int .i64 y3032, .int .i64 y3033, .int .i64 y3034, .int .i64 y3035, .int .i64 y3036, .int .i64 y3037, .slice A3039 l3038.length c3040], .int .i64 v, .agg #[.int .i64 n3011, .slice A3016 s3012.length c3017, .bool b3013, .slice A3018 l3014.length c3019, .slice A3020 u3015.length c3021]]) (d := 16) (by kernel_rfl) Try.call103 (sNull k3031 y3032 y3033 y3034 y3035 y3036 y3037 l3038 _ _ v n3011 s3012 b3013 l3014 u3015 _ _ _ _ _ _ _) ?_)
  rintro e_ w3073 ⟨rfl, hs3072⟩
  refine ⟨_, rfl, fun a3074 hE3075 => ?_⟩
  have hW3076 := hW3068.next_nil hs3072
  have hF3077 := Fr.nil [⟨b3046, 0, [.int .i64 k3031, .int .i64 y3032, .int .i64 y3033, .int .i64 y3034, .int .i64 y3035, .int .i64 y3036, .int .i64 y3037, .slice A3039 l3038.length c3040], true⟩, ⟨b3054, 0, [.int .i64 n3011, .slice A3016 s3012.length c3017, .bool b3013, .slice A3018 l3014.length c3019, .slice A3020 u3015.length c3021], true⟩, ⟨b3062, 0, [.int .i64 0, .slice none 0 0, .bool false, .slice none 0 0, .slice none 0 0], true⟩] [] hs3072
  clear hE3071 hW3068
  refine go_runs [4] [] [1, 3, 5, 6, 7] hW3076 hE3075 (env' := [(1, .v (.int .i64 v)), (3, .p 0 0), (5, .p 1 0), (6, .p 2 0), (7, .v (.bool (Fld.nul (Fld.mk k3031 y3032 y3033 y3034 y3035 y3036 y3037 l3038) v (Tree.mk n3011 s3012 b3013 l3014 u3015))))]) (by kernel_rfl) rfl fun a3078 hE3079 => ?_
  clear hE3075
  refine wpOps_nil ?_
  refine then_normal ?_
  refine wp_seq ?_
  refine go_seq_region [0, 1] (by kernel_rfl) ?_
  refine go_runs [0, 1] [] [1, 3, 5, 6, 7, 18] hW3076 hE3079 (env' := [(1, .v (.int .i64 v)), (3, .p 0 0), (5, .p 1 0), (6, .p 2 0), (7, .v (.bool (Fld.nul (Fld.mk k3031 y3032 y3033 y3034 y3035 y3036 y3037 l3038) v (Tree.mk n3011 s3012 b3013 l3014 u3015)))), (18, .v (.int .i64 k3031))]) (by kernel_rfl) rfl fun a3080 hE3081 => ?_
  clear hE3079
  refine wpOps_nil ?_
  refine then_normal ?_
  refine wp_block ?_
  refine wp_seq ?_
  refine go_seq_region [0, 1] (by kernel_rfl) ?_
  refine go_runs [0, 1] [] [1, 3, 5, 6, 7, 18, 19] hW3076 hE3081 (env' := [(1, .v (.int .i64 v)), (3, .p 0 0), (5, .p 1 0), (6, .p 2 0), (7, .v (.bool (Fld.nul (Fld.mk k3031 y3032 y3033 y3034 y3035 y3036 y3037 l3038) v (Tree.mk n3011 s3012 b3013 l3014 u3015)))), (18, .v (.int .i64 k3031)), (19, .v (.bool (k3031 == 8)))]) (by kernel_rfl) rfl fun a3082 hE3083 => ?_
  clear hE3081
  refine wpOps_nil ?_
  refine then_normal ?_
  refine cond_of hE3083 (b := k3031 == 8) (by kernel_rfl) (fun hc3084 => ?_) (fun hc3084 => ?_)
  ·
    have hf3085 : k3031 = 8 := by simpa using hc3084
    refine wp_skip ?_
    refine then_normal ?_
    refine cond_true hE3083 (b := k3031 == 8) (by kernel_rfl) (hc3084) ?_
    refine go_seq_region [0, 1, 2, 3, 4, 5] (by kernel_rfl) ?_
    refine go_runs [0, 1] [2, 3, 4, 5] [6, 7, 23] hW3076 hE3083 (env' := [(6, .p 2 0), (7, .v (.bool (Fld.nul (Fld.mk k3031 y3032 y3033 y3034 y3035 y3036 y3037 l3038) v (Tree.mk n3011 s3012 b3013 l3014 u3015)))), (23, .v (.slice A3016 s3012.length c3017))]) (by kernel_rfl) rfl fun a3086 hE3087 => ?_
    clear hE3083
    have hwl3089 := whole_le s3012
    refine of_op (wpOp_call hE3087 (f := 50) (vs := [.slice A3016 s3012.length c3017]) (d := 24) (by kernel_rfl) Try.call50 (sWhole _ _ s3012 (h3024.move hW3076.step nilM hW3076.imm).le _) ?_)
    rintro e_ w3090 ⟨rfl, hs3088⟩
    refine ⟨_, rfl, fun a3091 hE3092 => ?_⟩
    have hW3093 := hW3076.next_nil hs3088
    have hF3094 := Fr.nil [⟨b3046, 0, [.int .i64 k3031, .int .i64 y3032, .int .i64 y3033, .int .i64 y3034, .int .i64 y3035, .int .i64 y3036, .int .i64 y3037, .slice A3039 l3038.length c3040], true⟩, ⟨b3054, 0, [.int .i64 n3011, .slice A3016 s3012.length c3017, .bool b3013, .slice A3018 l3014.length c3019, .slice A3020 u3015.length c3021], true⟩, ⟨b3062, 0, [.int .i64 0, .slice none 0 0, .bool false, .slice none 0 0, .slice none 0 0], true⟩] [] hs3088
    clear hE3087 hW3076
    refine go_runs [3, 4] [5] [6, 26] hW3093 hE3092 (env' := [(6, .p 2 0), (26, .v (.agg #[.int .i64 0, .slice A3016 ((whole s3012).length) c3017, .bool (Fld.nul (Fld.mk k3031 y3032 y3033 y3034 y3035 y3036 y3037 l3038) v (Tree.mk n3011 s3012 b3013 l3014 u3015)), .slice none 0 0, .slice none 0 0]))]) (by kernel_rfl) rfl fun a3095 hE3096 => ?_
    clear hE3092
    refine of_op (wpOp_store hW3093 hE3096 (oi := 2) (cs := [.int .i64 0, .slice A3016 ((whole s3012).length) c3017, .bool (Fld.nul (Fld.mk k3031 y3032 y3033 y3034 y3035 y3036 y3037 l3038) v (Tree.mk n3011 s3012 b3013 l3014 u3015)), .slice none 0 0, .slice none 0 0]) (by kernel_rfl) fun w3097 hF3098 hW3099 hE3100 => ?_)
    clear hE3096 hW3093
    refine wpOps_nil ?_
    refine then_normal ?_
    refine wp_ret ?_
    refine block_ret ?_
    refine then_ret ?_
    refine leave hE3100 hW3099.cells (v := .agg #[.int .i64 0, .slice A3016 ((whole s3012).length) c3017, .bool (Fld.nul (Fld.mk k3031 y3032 y3033 y3034 y3035 y3036 y3037 l3038) v (Tree.mk n3011 s3012 b3013 l3014 u3015)), .slice none 0 0, .slice none 0 0]) (by kernel_rfl) ?_
    exact tree_end hW3099 rfl (((h3024.take 32767).move hW3099.step nilM hW3099.imm).move (Step.refl _ Nil) nilM immOut) rfl (noTrees _ _) rfl (TagsR.nil _ _) (fitted_8 (by omega))
  ·
    have hf3101 : k3031 ≠ 8 := by simpa using hc3084
    refine go_region [0, 1] (by kernel_rfl) ?_
    refine go_runs [0, 1] [] [1, 3, 5, 6, 7, 18, 19] hW3076 hE3083 (env' := [(1, .v (.int .i64 v)), (3, .p 0 0), (5, .p 1 0), (6, .p 2 0), (7, .v (.bool (Fld.nul (Fld.mk k3031 y3032 y3033 y3034 y3035 y3036 y3037 l3038) v (Tree.mk n3011 s3012 b3013 l3014 u3015)))), (18, .v (.int .i64 k3031)), (19, .v (.bool (k3031 == 9)))]) (by kernel_rfl) rfl fun a3102 hE3103 => ?_
    clear hE3083
    refine wpOps_nil ?_
    refine then_normal ?_
    refine cond_of hE3103 (b := k3031 == 9) (by kernel_rfl) (fun hc3104 => ?_) (fun hc3104 => ?_)
    ·
      have hf3105 : k3031 = 9 := by simpa using hc3104
      refine go_seq_region [0, 1, 2, 3, 4, 5] (by kernel_rfl) ?_
      refine go_runs [0, 1] [2, 3, 4, 5] [6, 7, 23] hW3076 hE3103 (env' := [(6, .p 2 0), (7, .v (.bool (Fld.nul (Fld.mk k3031 y3032 y3033 y3034 y3035 y3036 y3037 l3038) v (Tree.mk n3011 s3012 b3013 l3014 u3015)))), (23, .v (.slice A3016 s3012.length c3017))]) (by kernel_rfl) rfl fun a3106 hE3107 => ?_
      clear hE3103
      have hwl3109 := whole_le s3012
      refine of_op (wpOp_call hE3107 (f := 50) (vs := [.slice A3016 s3012.length c3017]) (d := 24) (by kernel_rfl) Try.call50 (sWhole _ _ s3012 (h3024.move hW3076.step nilM hW3076.imm).le _) ?_)
      rintro e_ w3110 ⟨rfl, hs3108⟩
      refine ⟨_, rfl, fun a3111 hE3112 => ?_⟩
      have hW3113 := hW3076.next_nil hs3108
      have hF3114 := Fr.nil [⟨b3046, 0, [.int .i64 k3031, .int .i64 y3032, .int .i64 y3033, .int .i64 y3034, .int .i64 y3035, .int .i64 y3036, .int .i64 y3037, .slice A3039 l3038.length c3040], true⟩, ⟨b3054, 0, [.int .i64 n3011, .slice A3016 s3012.length c3017, .bool b3013, .slice A3018 l3014.length c3019, .slice A3020 u3015.length c3021], true⟩, ⟨b3062, 0, [.int .i64 0, .slice none 0 0, .bool false, .slice none 0 0, .slice none 0 0], true⟩] [] hs3108
      clear hE3107 hW3076
      refine go_runs [3, 4] [5] [6, 26] hW3113 hE3112 (env' := [(6, .p 2 0), (26, .v (.agg #[.int .i64 0, .slice A3016 ((whole s3012).length) c3017, .bool (Fld.nul (Fld.mk k3031 y3032 y3033 y3034 y3035 y3036 y3037 l3038) v (Tree.mk n3011 s3012 b3013 l3014 u3015)), .slice none 0 0, .slice none 0 0]))]) (by kernel_rfl) rfl fun a3115 hE3116 => ?_
      clear hE3112
      refine of_op (wpOp_store hW3113 hE3116 (oi := 2) (cs := [.int .i64 0, .slice A3016 ((whole s3012).length) c3017, .bool (Fld.nul (Fld.mk k3031 y3032 y3033 y3034 y3035 y3036 y3037 l3038) v (Tree.mk n3011 s3012 b3013 l3014 u3015)), .slice none 0 0, .slice none 0 0]) (by kernel_rfl) fun w3117 hF3118 hW3119 hE3120 => ?_)
      clear hE3116 hW3113
      refine wpOps_nil ?_
      refine then_normal ?_
      refine wp_ret ?_
      refine block_ret ?_
      refine then_ret ?_
      refine leave hE3120 hW3119.cells (v := .agg #[.int .i64 0, .slice A3016 ((whole s3012).length) c3017, .bool (Fld.nul (Fld.mk k3031 y3032 y3033 y3034 y3035 y3036 y3037 l3038) v (Tree.mk n3011 s3012 b3013 l3014 u3015)), .slice none 0 0, .slice none 0 0]) (by kernel_rfl) ?_
      exact tree_end hW3119 rfl (((h3024.take 32767).move hW3119.step nilM hW3119.imm).move (Step.refl _ Nil) nilM immOut) rfl (noTrees _ _) rfl (TagsR.nil _ _) (fitted_8 (by omega))
    ·
      have hf3121 : k3031 ≠ 9 := by simpa using hc3104
      refine go_seq_region [0, 1] (by kernel_rfl) ?_
      refine go_runs [0, 1] [] [1, 3, 5, 6, 7, 18, 27] hW3076 hE3103 (env' := [(1, .v (.int .i64 v)), (3, .p 0 0), (5, .p 1 0), (6, .p 2 0), (7, .v (.bool (Fld.nul (Fld.mk k3031 y3032 y3033 y3034 y3035 y3036 y3037 l3038) v (Tree.mk n3011 s3012 b3013 l3014 u3015)))), (18, .v (.int .i64 k3031)), (27, .v (.bool (k3031 == 10)))]) (by kernel_rfl) rfl fun a3122 hE3123 => ?_
      clear hE3103
      refine wpOps_nil ?_
      refine then_normal ?_
      refine cond_of hE3123 (b := k3031 == 10) (by kernel_rfl) (fun hc3124 => ?_) (fun hc3124 => ?_)
      ·
        have hf3125 : k3031 = 10 := by simpa using hc3124
        refine go_seq_region [0, 1, 2, 3, 4, 5, 6] (by kernel_rfl) ?_
        refine go_runs [0, 1, 2, 3] [4, 5, 6] [6, 7, 30, 31, 32] hW3076 hE3123 (env' := [(6, .p 2 0), (7, .v (.bool (Fld.nul (Fld.mk k3031 y3032 y3033 y3034 y3035 y3036 y3037 l3038) v (Tree.mk n3011 s3012 b3013 l3014 u3015)))), (30, .v (.slice A3039 l3038.length c3040)), (31, .v (.int .i64 v)), (32, .v (.agg #[.int .i64 n3011, .slice A3016 s3012.length c3017, .bool b3013, .slice A3018 l3014.length c3019, .slice A3020 u3015.length c3021]))]) (by kernel_rfl) rfl fun a3126 hE3127 => ?_
        clear hE3123
        refine of_op (wpOp_call hE3127 (f := 18) (vs := [.slice A3039 l3038.length c3040, .int .i64 v, .agg #[.int .i64 n3011, .slice A3016 s3012.length c3017, .bool b3013, .slice A3018 l3014.length c3019, .slice A3020 u3015.length c3021]]) (d := 33) (by kernel_rfl) Try.call18 ( hfit _ _ l3038 v _ (Tree.mk n3011 s3012 b3013 l3014 u3015) _ _ ⟨xs3041, (h3043.move hW3076.step nilM hW3076.imm), (fun i_ x_ h_ => ((h3044 i_ x_ h_).move hW3076.step nilM hW3076.imm))⟩ hpl hd (ht.move hW3076.step nilM hW3076.imm)) ?_)
        rintro e_ w3131 ⟨cs3130, rfl, hr3129, hs3128⟩
        have hr3132 := hr3129.move (Step.refl _ Nil) nilM (hW3076.laid (G := F) hs3128)
        obtain ⟨n3133, s3134, b3135, l3136, u3137, A3138, c3139, A3140, c3141, A3142, c3143, xs3144, ht3150, hcs3145, h3146, h3147, h3148, h3149⟩ := hr3132.open_
        rw [hcs3145] at hr3132
        have hsm3151 := h3146.small
        have hsm3152 := h3147.small
        rw [hcs3145]
        refine ⟨_, rfl, fun a3153 hE3154 => ?_⟩
        have hW3155 := hW3076.next_nil hs3128
        have hF3156 := Fr.nil [⟨b3046, 0, [.int .i64 k3031, .int .i64 y3032, .int .i64 y3033, .int .i64 y3034, .int .i64 y3035, .int .i64 y3036, .int .i64 y3037, .slice A3039 l3038.length c3040], true⟩, ⟨b3054, 0, [.int .i64 n3011, .slice A3016 s3012.length c3017, .bool b3013, .slice A3018 l3014.length c3019, .slice A3020 u3015.length c3021], true⟩, ⟨b3062, 0, [.int .i64 0, .slice none 0 0, .bool false, .slice none 0 0, .slice none 0 0], true⟩] [] hs3128
        clear hE3127
        refine of_op (wpOp_alloc hW3155 hE3154 (d := 8) (cs := [.int .i64 0, .slice none 0 0, .bool false, .slice none 0 0, .slice none 0 0]) (by kernel_rfl) fun b3157 a3158 w3159 hb3160 hz3161 hF3162 hW3163 hE3164 => ?_)
        clear hE3154 hW3155
        refine of_op (wpOp_store hW3163 hE3164 (oi := 3) (cs := [.int .i64 n3133, .slice A3138 s3134.length c3139, .bool b3135, .slice A3140 l3136.length c3141, .slice A3142 u3137.length c3143]) (by kernel_rfl) fun w3165 hF3166 hW3167 hE3168 => ?_)
        clear hE3164 hW3163
        refine wpOps_nil ?_
        refine then_normal ?_
        refine go_seq_region [0, 1, 2] (by kernel_rfl) ?_
        refine go_runs [0, 1] [2] [6, 8, 34, 35] hW3167 hE3168 (env' := [(6, .p 2 0), (8, .p 3 0), (34, .v (.bool (Fld.nul (Fld.mk k3031 y3032 y3033 y3034 y3035 y3036 y3037 l3038) v (Tree.mk n3011 s3012 b3013 l3014 u3015)))), (35, .p 3 2)]) (by kernel_rfl) rfl fun a3169 hE3170 => ?_
        clear hE3168
        refine of_op (wpOp_store hW3167 hE3170 (oi := 3) (cs := [.int .i64 n3133, .slice A3138 s3134.length c3139, .bool (Fld.nul (Fld.mk k3031 y3032 y3033 y3034 y3035 y3036 y3037 l3038) v (Tree.mk n3011 s3012 b3013 l3014 u3015)), .slice A3140 l3136.length c3141, .slice A3142 u3137.length c3143]) (by kernel_rfl) fun w3171 hF3172 hW3173 hE3174 => ?_)
        clear hE3170 hW3167
        refine wpOps_nil ?_
        refine then_normal ?_
        refine go_seq_region [0, 1] (by kernel_rfl) ?_
        refine go_runs [0] [1] [6, 36] hW3173 hE3174 (env' := [(6, .p 2 0), (36, .v (.agg #[.int .i64 n3133, .slice A3138 s3134.length c3139, .bool (Fld.nul (Fld.mk k3031 y3032 y3033 y3034 y3035 y3036 y3037 l3038) v (Tree.mk n3011 s3012 b3013 l3014 u3015)), .slice A3140 l3136.length c3141, .slice A3142 u3137.length c3143]))]) (by kernel_rfl) rfl fun a3175 hE3176 => ?_
        clear hE3174
        refine of_op (wpOp_store hW3173 hE3176 (oi := 2) (cs := [.int .i64 n3133, .slice A3138 s3134.length c3139, .bool (Fld.nul (Fld.mk k3031 y3032 y3033 y3034 y3035 y3036 y3037 l3038) v (Tree.mk n3011 s3012 b3013 l3014 u3015)), .slice A3140 l3136.length c3141, .slice A3142 u3137.length c3143]) (by kernel_rfl) fun w3177 hF3178 hW3179 hE3180 => ?_)
        clear hE3176 hW3173
        refine wpOps_nil ?_
        refine then_normal ?_
        refine wp_ret ?_
        refine block_ret ?_
        refine then_ret ?_
        refine leave hE3180 hW3179.cells (v := .agg #[.int .i64 n3133, .slice A3138 s3134.length c3139, .bool (Fld.nul (Fld.mk k3031 y3032 y3033 y3034 y3035 y3036 y3037 l3038) v (Tree.mk n3011 s3012 b3013 l3014 u3015)), .slice A3140 l3136.length c3141, .slice A3142 u3137.length c3143]) (by kernel_rfl) ?_
        exact tree_end hW3179 rfl ((h3146.move (Fr.trans (Fr.trans (Fr.trans hF3162 hF3166) hF3172) hF3178).step immM (Fr.trans (Fr.trans (Fr.trans hF3162 hF3166) hF3172) hF3178).to').move (Step.refl _ Nil) nilM immOut) rfl ⟨(h3147.move (Fr.trans (Fr.trans (Fr.trans hF3162 hF3166) hF3172) hF3178).step immM (Fr.trans (Fr.trans (Fr.trans hF3162 hF3166) hF3172) hF3178).to').move (Step.refl _ Nil) nilM immOut, fun i_ x_ h_ => ((fun i_ x_ h_ => ((h3148 i_ x_ h_).move (Fr.trans (Fr.trans (Fr.trans hF3162 hF3166) hF3172) hF3178).step immM (Fr.trans (Fr.trans (Fr.trans hF3162 hF3166) hF3172) hF3178).to')) i_ x_ h_).move (Step.refl _ Nil) nilM immOut⟩ rfl ((h3149.move (Fr.trans (Fr.trans (Fr.trans hF3162 hF3166) hF3172) hF3178).step immM (Fr.trans (Fr.trans (Fr.trans hF3162 hF3166) hF3172) hF3178).to').move (Step.refl _ Nil) nilM immOut) (fitted_10 (by assumption) (by assumption) (by assumption) ht3150)
      ·
        have hf3181 : k3031 ≠ 10 := by simpa using hc3124
        refine go_seq_region [0, 1] (by kernel_rfl) ?_
        refine go_runs [0, 1] [] [1, 3, 5, 6, 7, 37] hW3076 hE3123 (env' := [(1, .v (.int .i64 v)), (3, .p 0 0), (5, .p 1 0), (6, .p 2 0), (7, .v (.bool (Fld.nul (Fld.mk k3031 y3032 y3033 y3034 y3035 y3036 y3037 l3038) v (Tree.mk n3011 s3012 b3013 l3014 u3015)))), (37, .v (.bool (k3031 == 11)))]) (by kernel_rfl) rfl fun a3182 hE3183 => ?_
        clear hE3123
        refine wpOps_nil ?_
        refine then_normal ?_
        refine cond_false hE3183 (b := k3031 == 11) (by kernel_rfl) (by simpa using hk11) ?_
        refine wp_skip ?_
        refine block_normal ?_
        refine then_normal ?_
        refine go_seq_region [0, 1, 2, 3, 4, 5] (by kernel_rfl) ?_
        refine go_runs [0, 1, 2, 3, 4] [5] [6, 81] hW3076 hE3183 (env' := [(6, .p 2 0), (81, .v (.agg #[.int .i64 n3011, .slice A3016 s3012.length c3017, .bool false, .slice none 0 0, .slice none 0 0]))]) (by kernel_rfl) rfl fun a3184 hE3185 => ?_
        clear hE3183
        refine of_op (wpOp_store hW3076 hE3185 (oi := 2) (cs := [.int .i64 n3011, .slice A3016 s3012.length c3017, .bool false, .slice none 0 0, .slice none 0 0]) (by kernel_rfl) fun w3186 hF3187 hW3188 hE3189 => ?_)
        clear hE3185
        refine wpOps_nil ?_
        refine then_normal ?_
        refine wp_ret ?_
        refine leave hE3189 hW3188.cells (v := .agg #[.int .i64 n3011, .slice A3016 s3012.length c3017, .bool false, .slice none 0 0, .slice none 0 0]) (by kernel_rfl) ?_
        exact tree_end hW3188 rfl ((h3024.move hW3188.step nilM hW3188.imm).move (Step.refl _ Nil) nilM immOut) rfl (noTrees _ _) rfl (TagsR.nil _ _) (fitted_else (by assumption) (by assumption) (by assumption))

theorem sFitted11 {d : Nat} (hfit : FitOK d) (cf : List Value) (f : Fld) (v : Int) (ct : List Value) (t : Tree) (w : World) (F : Nat → Nat → Prop) (hf : FldR w F cf f) (hpl : f.plain) (hd : depths f.sub ≤ d) (hk11 : f.kind = 11) (ht : TreeR w F ct t) :
    Calls Try.prog 47 #[.agg cf.toArray, .int .i64 v, .agg ct.toArray] w (GivesT w F (fittedW (fitT v d) v f t)) := by
  obtain ⟨n3190, s3191, b3192, l3193, u3194, A3195, c3196, A3197, c3198, A3199, c3200, xs3201, rfl, rfl, h3203, h3204, h3205, h3206⟩ := ht.open_
  have hsm3208 := h3203.small
  have hsm3209 := h3204.small
  obtain ⟨k3210, y3211, y3212, y3213, y3214, y3215, y3216, l3217, A3218, c3219, xs3220, rfl, rfl, h3222, h3223⟩ := hf.open_
  have hsm3224 := h3222.small
  have hk11 : k3210 = 11 := hk11
  have hof : y3216 ≠ 11 := hpl.1
  refine enter (n := 82) Try.func47 rfl Try.ntmps47 (by kernel_rfl) fun a hE => ?_
  have hW := WOk.start w Nil
  refine go_seq_region [0, 1, 2] (by kernel_rfl) ?_
  refine of_op (wpOp_box hW hE (d := 3) (cs := [.int .i64 k3210, .int .i64 y3211, .int .i64 y3212, .int .i64 y3213, .int .i64 y3214, .int .i64 y3215, .int .i64 y3216, .slice A3218 l3217.length c3219]) (by kernel_rfl) fun b3225 a3226 w3227 hb3228 hz3229 hF3230 hW3231 hE3232 => ?_)
  clear hE hW
  refine of_op (wpOp_box hW3231 hE3232 (d := 5) (cs := [.int .i64 n3190, .slice A3195 s3191.length c3196, .bool b3192, .slice A3197 l3193.length c3198, .slice A3199 u3194.length c3200]) (by kernel_rfl) fun b3233 a3234 w3235 hb3236 hz3237 hF3238 hW3239 hE3240 => ?_)
  clear hE3232 hW3231
  refine of_op (wpOp_alloc hW3239 hE3240 (d := 6) (cs := [.int .i64 0, .slice none 0 0, .bool false, .slice none 0 0, .slice none 0 0]) (by kernel_rfl) fun b3241 a3242 w3243 hb3244 hz3245 hF3246 hW3247 hE3248 => ?_)
  clear hE3240 hW3239
  refine wpOps_nil ?_
  refine then_normal ?_
  refine go_seq_region [0, 1, 2, 3, 4] (by kernel_rfl) ?_
  refine go_runs [0, 1, 2] [3, 4] [1, 3, 5, 6, 13, 14, 15] hW3247 hE3248 (env' := [(1, .v (.int .i64 v)), (3, .p 0 0), (5, .p 1 0), (6, .p 2 0), (13, .v (.agg #[.int .i64 k3210, .int .i64 y3211, .int .i64 y3212, .int .i64 y3213, .int .i64 y3214, .int .i64 y3215, .int .i64 y3216, .slice A3218 l3217.length c3219])), (14, .v (.int .i64 v)), (15, .v (.agg #[.int .i64 n3190, .slice A3195 s3191.length c3196, .bool b3192, .slice A3197 l3193.length c3198, .slice A3199 u3194.length c3200]))]) (by kernel_rfl) rfl fun a3249 hE3250 => ?_
  clear hE3248
  refine of_op (wpOp_call hE3250 (f := 103) (vs := [.agg #[.int .i64 k3210, .int .i64 y3211, .int .i64 y3212, .int .i64 y3213, .int .i64 y3214, .int .i64 y3215, .int .i64 y3216, .slice A3218 l3217.length c3219], .int .i64 v, .agg #[.int .i64 n3190, .slice A3195 s3191.length c3196, .bool b3192, .slice A3197 l3193.length c3198, .slice A3199 u3194.length c3200]]) (d := 16) (by kernel_rfl) Try.call103 (sNull k3210 y3211 y3212 y3213 y3214 y3215 y3216 l3217 _ _ v n3190 s3191 b3192 l3193 u3194 _ _ _ _ _ _ _) ?_)
  rintro e_ w3252 ⟨rfl, hs3251⟩
  refine ⟨_, rfl, fun a3253 hE3254 => ?_⟩
  have hW3255 := hW3247.next_nil hs3251
  have hF3256 := Fr.nil [⟨b3225, 0, [.int .i64 k3210, .int .i64 y3211, .int .i64 y3212, .int .i64 y3213, .int .i64 y3214, .int .i64 y3215, .int .i64 y3216, .slice A3218 l3217.length c3219], true⟩, ⟨b3233, 0, [.int .i64 n3190, .slice A3195 s3191.length c3196, .bool b3192, .slice A3197 l3193.length c3198, .slice A3199 u3194.length c3200], true⟩, ⟨b3241, 0, [.int .i64 0, .slice none 0 0, .bool false, .slice none 0 0, .slice none 0 0], true⟩] [] hs3251
  clear hE3250 hW3247
  refine go_runs [4] [] [1, 3, 5, 6, 7] hW3255 hE3254 (env' := [(1, .v (.int .i64 v)), (3, .p 0 0), (5, .p 1 0), (6, .p 2 0), (7, .v (.bool (Fld.nul (Fld.mk k3210 y3211 y3212 y3213 y3214 y3215 y3216 l3217) v (Tree.mk n3190 s3191 b3192 l3193 u3194))))]) (by kernel_rfl) rfl fun a3257 hE3258 => ?_
  clear hE3254
  refine wpOps_nil ?_
  refine then_normal ?_
  refine wp_seq ?_
  refine go_seq_region [0, 1] (by kernel_rfl) ?_
  refine go_runs [0, 1] [] [1, 3, 5, 6, 7, 18] hW3255 hE3258 (env' := [(1, .v (.int .i64 v)), (3, .p 0 0), (5, .p 1 0), (6, .p 2 0), (7, .v (.bool (Fld.nul (Fld.mk k3210 y3211 y3212 y3213 y3214 y3215 y3216 l3217) v (Tree.mk n3190 s3191 b3192 l3193 u3194)))), (18, .v (.int .i64 k3210))]) (by kernel_rfl) rfl fun a3259 hE3260 => ?_
  clear hE3258
  refine wpOps_nil ?_
  refine then_normal ?_
  refine wp_block ?_
  refine wp_seq ?_
  refine go_seq_region [0, 1] (by kernel_rfl) ?_
  refine go_runs [0, 1] [] [1, 3, 5, 6, 7, 18, 19] hW3255 hE3260 (env' := [(1, .v (.int .i64 v)), (3, .p 0 0), (5, .p 1 0), (6, .p 2 0), (7, .v (.bool (Fld.nul (Fld.mk k3210 y3211 y3212 y3213 y3214 y3215 y3216 l3217) v (Tree.mk n3190 s3191 b3192 l3193 u3194)))), (18, .v (.int .i64 k3210)), (19, .v (.bool (k3210 == 8)))]) (by kernel_rfl) rfl fun a3261 hE3262 => ?_
  clear hE3260
  refine wpOps_nil ?_
  refine then_normal ?_
  refine cond_false hE3262 (b := k3210 == 8) (by kernel_rfl) (by simp [hk11]) ?_
  refine go_region [0, 1] (by kernel_rfl) ?_
  refine go_runs [0, 1] [] [1, 3, 5, 6, 7, 18, 19] hW3255 hE3262 (env' := [(1, .v (.int .i64 v)), (3, .p 0 0), (5, .p 1 0), (6, .p 2 0), (7, .v (.bool (Fld.nul (Fld.mk k3210 y3211 y3212 y3213 y3214 y3215 y3216 l3217) v (Tree.mk n3190 s3191 b3192 l3193 u3194)))), (18, .v (.int .i64 k3210)), (19, .v (.bool (k3210 == 9)))]) (by kernel_rfl) rfl fun a3263 hE3264 => ?_
  clear hE3262
  refine wpOps_nil ?_
  refine then_normal ?_
  refine cond_false hE3264 (b := k3210 == 9) (by kernel_rfl) (by simp [hk11]) ?_
  refine go_seq_region [0, 1] (by kernel_rfl) ?_
  refine go_runs [0, 1] [] [1, 3, 5, 6, 7, 18, 27] hW3255 hE3264 (env' := [(1, .v (.int .i64 v)), (3, .p 0 0), (5, .p 1 0), (6, .p 2 0), (7, .v (.bool (Fld.nul (Fld.mk k3210 y3211 y3212 y3213 y3214 y3215 y3216 l3217) v (Tree.mk n3190 s3191 b3192 l3193 u3194)))), (18, .v (.int .i64 k3210)), (27, .v (.bool (k3210 == 10)))]) (by kernel_rfl) rfl fun a3265 hE3266 => ?_
  clear hE3264
  refine wpOps_nil ?_
  refine then_normal ?_
  refine cond_false hE3266 (b := k3210 == 10) (by kernel_rfl) (by simp [hk11]) ?_
  refine go_seq_region [0, 1] (by kernel_rfl) ?_
  refine go_runs [0, 1] [] [1, 3, 5, 6, 7, 37] hW3255 hE3266 (env' := [(1, .v (.int .i64 v)), (3, .p 0 0), (5, .p 1 0), (6, .p 2 0), (7, .v (.bool (Fld.nul (Fld.mk k3210 y3211 y3212 y3213 y3214 y3215 y3216 l3217) v (Tree.mk n3190 s3191 b3192 l3193 u3194)))), (37, .v (.bool (k3210 == 11)))]) (by kernel_rfl) rfl fun a3267 hE3268 => ?_
  clear hE3266
  refine wpOps_nil ?_
  refine then_normal ?_
  refine cond_true hE3268 (b := k3210 == 11) (by kernel_rfl) (by simpa using hk11) ?_
  refine go_seq_region [0, 1, 2, 3, 4, 5, 6, 7, 8, 9, 10, 11, 12, 13, 14] (by kernel_rfl) ?_
  refine go_runs [0, 1] [2, 3, 4, 5, 6, 7, 8, 9, 10, 11, 12, 13, 14] [1, 3, 5, 6, 40] hW3255 hE3268 (env' := [(1, .v (.int .i64 v)), (3, .p 0 0), (5, .p 1 0), (6, .p 2 0), (40, .v (.bool (Fld.nul (Fld.mk k3210 y3211 y3212 y3213 y3214 y3215 y3216 l3217) v (Tree.mk n3190 s3191 b3192 l3193 u3194))))]) (by kernel_rfl) rfl fun a3269 hE3270 => ?_
  clear hE3268
  refine (Bool.eq_false_or_eq_true (Fld.nul (Fld.mk k3210 y3211 y3212 y3213 y3214 y3215 y3216 l3217) v (Tree.mk n3190 s3191 b3192 l3193 u3194))).elim (fun hc3271 => ?_) (fun hc3271 => ?_)
  ·
    have hE3273 := hE3270.cast (env' := [(1, .v (.int .i64 v)), (3, .p 0 0), (5, .p 1 0), (6, .p 2 0), (40, .v (.bool true))]) (by rw [hc3271])
    clear hE3270
    refine go_runs [2, 3, 4, 5, 6, 7, 8, 9, 10, 11, 12] [13, 14] [1, 3, 5, 6, 51] hW3255 hE3273 (env' := [(1, .v (.int .i64 v)), (3, .p 0 0), (5, .p 1 0), (6, .p 2 0), (51, .v (.agg #[.int .i64 0, .slice none 0 0, .bool true, .slice none 0 0, .slice none 0 0]))]) (by kernel_rfl) rfl fun a3274 hE3275 => ?_
    clear hE3273
    refine of_op (wpOp_alloc hW3255 hE3275 (d := 9) (cs := [.int .i64 0, .slice none 0 0, .bool false, .slice none 0 0, .slice none 0 0]) (by kernel_rfl) fun b3276 a3277 w3278 hb3279 hz3280 hF3281 hW3282 hE3283 => ?_)
    clear hE3275 hW3255
    refine of_op (wpOp_store hW3282 hE3283 (oi := 3) (cs := [.int .i64 0, .slice none 0 0, .bool true, .slice none 0 0, .slice none 0 0]) (by kernel_rfl) fun w3284 hF3285 hW3286 hE3287 => ?_)
    clear hE3283 hW3282
    refine wpOps_nil ?_
    refine then_normal ?_
    refine go_seq_region [0, 1, 2] (by kernel_rfl) ?_
    refine go_runs [0] [1, 2] [1, 3, 5, 6, 9, 52] hW3286 hE3287 (env' := [(1, .v (.int .i64 v)), (3, .p 0 0), (5, .p 1 0), (6, .p 2 0), (9, .p 3 0), (52, .v (.agg #[.int .i64 k3210, .int .i64 y3211, .int .i64 y3212, .int .i64 y3213, .int .i64 y3214, .int .i64 y3215, .int .i64 y3216, .slice A3218 l3217.length c3219]))]) (by kernel_rfl) rfl fun a3288 hE3289 => ?_
    clear hE3287
    refine of_op (wpOp_alloc hW3286 hE3289 (d := 10) (cs := [.int .i64 0, .int .i64 0, .int .i64 0, .int .i64 0, .int .i64 0, .int .i64 0, .int .i64 0, .slice none 0 0]) (by kernel_rfl) fun b3290 a3291 w3292 hb3293 hz3294 hF3295 hW3296 hE3297 => ?_)
    clear hE3289 hW3286
    refine of_op (wpOp_store hW3296 hE3297 (oi := 4) (cs := [.int .i64 k3210, .int .i64 y3211, .int .i64 y3212, .int .i64 y3213, .int .i64 y3214, .int .i64 y3215, .int .i64 y3216, .slice A3218 l3217.length c3219]) (by kernel_rfl) fun w3298 hF3299 hW3300 hE3301 => ?_)
    clear hE3297 hW3296
    refine wpOps_nil ?_
    refine then_normal ?_
    refine go_seq_region [0, 1, 2, 3, 4, 5, 6, 7] (by kernel_rfl) ?_
    refine go_runs [0, 1, 2] [3, 4, 5, 6, 7] [1, 5, 6, 9, 10, 54, 55] hW3300 hE3301 (env' := [(1, .v (.int .i64 v)), (5, .p 1 0), (6, .p 2 0), (9, .p 3 0), (10, .p 4 0), (54, .v (.int .i64 y3216)), (55, .p 4 0)]) (by kernel_rfl) rfl fun a3302 hE3303 => ?_
    clear hE3301
    refine of_op (wpOp_store hW3300 hE3303 (oi := 4) (cs := [.int .i64 y3216, .int .i64 y3211, .int .i64 y3212, .int .i64 y3213, .int .i64 y3214, .int .i64 y3215, .int .i64 y3216, .slice A3218 l3217.length c3219]) (by kernel_rfl) fun w3304 hF3305 hW3306 hE3307 => ?_)
    clear hE3303 hW3300
    refine go_runs [4] [5, 6, 7] [1, 5, 6, 9, 10, 56] hW3306 hE3307 (env' := [(1, .v (.int .i64 v)), (5, .p 1 0), (6, .p 2 0), (9, .p 3 0), (10, .p 4 0), (56, .p 4 3)]) (by kernel_rfl) rfl fun a3308 hE3309 => ?_
    clear hE3307
    refine of_op (wpOp_store hW3306 hE3309 (oi := 4) (cs := [.int .i64 y3216, .int .i64 y3211, .int .i64 y3212, .int .i64 (-1), .int .i64 y3214, .int .i64 y3215, .int .i64 y3216, .slice A3218 l3217.length c3219]) (by kernel_rfl) fun w3310 hF3311 hW3312 hE3313 => ?_)
    clear hE3309 hW3306
    refine go_runs [6] [7] [1, 5, 6, 9, 10, 57] hW3312 hE3313 (env' := [(1, .v (.int .i64 v)), (5, .p 1 0), (6, .p 2 0), (9, .p 3 0), (10, .p 4 0), (57, .p 4 4)]) (by kernel_rfl) rfl fun a3314 hE3315 => ?_
    clear hE3313
    refine of_op (wpOp_store hW3312 hE3315 (oi := 4) (cs := [.int .i64 y3216, .int .i64 y3211, .int .i64 y3212, .int .i64 (-1), .int .i64 (-1), .int .i64 y3215, .int .i64 y3216, .slice A3218 l3217.length c3219]) (by kernel_rfl) fun w3316 hF3317 hW3318 hE3319 => ?_)
    clear hE3315 hW3312
    refine wpOps_nil ?_
    refine then_normal ?_
    refine wp_seq ?_
    refine go_seq_region [0, 1, 2, 3, 4] (by kernel_rfl) ?_
    refine go_runs [0, 1] [2, 3, 4] [1, 6, 9, 10, 59] hW3318 hE3319 (env' := [(1, .v (.int .i64 v)), (6, .p 2 0), (9, .p 3 0), (10, .p 4 0), (59, .v (.slice A3197 l3193.length c3198))]) (by kernel_rfl) rfl fun a3320 hE3321 => ?_
    clear hE3319
    refine of_op (wpOp_call hE3321 (f := 104) (vs := [.slice A3197 l3193.length c3198]) (d := 60) (by kernel_rfl) Try.call104 (sThings _ _ l3193 (h3204.move hW3318.step nilM hW3318.imm).le _) ?_)
    rintro e_ w3323 ⟨rfl, hs3322⟩
    refine ⟨_, rfl, fun a3324 hE3325 => ?_⟩
    have hW3326 := hW3318.next_nil hs3322
    have hF3327 := Fr.nil [⟨b3225, 0, [.int .i64 k3210, .int .i64 y3211, .int .i64 y3212, .int .i64 y3213, .int .i64 y3214, .int .i64 y3215, .int .i64 y3216, .slice A3218 l3217.length c3219], true⟩, ⟨b3233, 0, [.int .i64 n3190, .slice A3195 s3191.length c3196, .bool b3192, .slice A3197 l3193.length c3198, .slice A3199 u3194.length c3200], true⟩, ⟨b3241, 0, [.int .i64 0, .slice none 0 0, .bool false, .slice none 0 0, .slice none 0 0], true⟩, ⟨b3276, 0, [.int .i64 0, .slice none 0 0, .bool true, .slice none 0 0, .slice none 0 0], true⟩, ⟨b3290, 0, [.int .i64 y3216, .int .i64 y3211, .int .i64 y3212, .int .i64 (-1), .int .i64 (-1), .int .i64 y3215, .int .i64 y3216, .slice A3218 l3217.length c3219], true⟩] [] hs3322
    clear hE3321 hW3318
    refine go_runs [3, 4] [] [1, 6, 9, 10, 60, 61, 62] hW3326 hE3325 (env' := [(1, .v (.int .i64 v)), (6, .p 2 0), (9, .p 3 0), (10, .p 4 0), (60, .v (.slice A3197 ((things l3193).length) c3198)), (61, .v (.int .i64 (((things l3193).length : Nat) : Int))), (62, .v (.int .i64 0))]) (by kernel_rfl) rfl fun a3328 hE3329 => ?_
    clear hE3325
    refine wpOps_nil ?_
    refine then_normal ?_
    refine wp_block ?_
    have hW3330 := hW3326.addNil 26 5
    have hF3331 := Fr.addNil w3323 [⟨b3225, 0, [.int .i64 k3210, .int .i64 y3211, .int .i64 y3212, .int .i64 y3213, .int .i64 y3214, .int .i64 y3215, .int .i64 y3216, .slice A3218 l3217.length c3219], true⟩, ⟨b3233, 0, [.int .i64 n3190, .slice A3195 s3191.length c3196, .bool b3192, .slice A3197 l3193.length c3198, .slice A3199 u3194.length c3200], true⟩, ⟨b3241, 0, [.int .i64 0, .slice none 0 0, .bool false, .slice none 0 0, .slice none 0 0], true⟩, ⟨b3276, 0, [.int .i64 0, .slice none 0 0, .bool true, .slice none 0 0, .slice none 0 0], true⟩, ⟨b3290, 0, [.int .i64 y3216, .int .i64 y3211, .int .i64 y3212, .int .i64 (-1), .int .i64 (-1), .int .i64 y3215, .int .i64 y3216, .slice A3218 l3217.length c3219], true⟩] [] 26 5
    clear hW3326
    have hsm3 : (things l3193).length ≤ 32767 := things_le _
    have hE3340 := EnvOk.pick hE3329 (ks := [1, 6, 9, 10, 60, 61, 62]) (env' := [(1, .v (.int .i64 v)), (6, .p 2 0), (9, .p 3 0), (10, .p 4 0), (60, .v (.slice A3197 ((things l3193).length) c3198)), (61, .v (.int .i64 (((things l3193).length : Nat) : Int))), (62, .v (.int .i64 0))]) (by kernel_rfl)
    refine wp_loop_ghost (fun n_ a_ w_ => ∃ (k : Nat) (A_ : Option Addr) (c_ : Nat) (xs : List Value) (css : List (List Value)), n_ = (things l3193).length - k ∧ k ≤ (things l3193).length ∧ (Trees w_ (Imm F w w_ [⟨b3225, 0, [.int .i64 k3210, .int .i64 y3211, .int .i64 y3212, .int .i64 y3213, .int .i64 y3214, .int .i64 y3215, .int .i64 y3216, .slice A3218 l3217.length c3219], true⟩, ⟨b3233, 0, [.int .i64 n3190, .slice A3195 s3191.length c3196, .bool b3192, .slice A3197 l3193.length c3198, .slice A3199 u3194.length c3200], true⟩, ⟨b3241, 0, [.int .i64 0, .slice none 0 0, .bool false, .slice none 0 0, .slice none 0 0], true⟩, ⟨b3276, 0, [.int .i64 0, .slice none 0 0, .bool true, .slice A_ k c_, .slice none 0 0], true⟩, ⟨b3290, 0, [.int .i64 y3216, .int .i64 y3211, .int .i64 y3212, .int .i64 (-1), .int .i64 (-1), .int .i64 y3215, .int .i64 y3216, .slice A3218 l3217.length c3219], true⟩] [⟨A_, c_, 26, 5, k, xs⟩]) xs ((fitL (fitT v d) v (Fld.mk y3216 y3211 y3212 (-1) (-1) y3215 y3216 l3217) l3193).take k) css) ∧ EnvOk 82 [⟨b3225, 0, [.int .i64 k3210, .int .i64 y3211, .int .i64 y3212, .int .i64 y3213, .int .i64 y3214, .int .i64 y3215, .int .i64 y3216, .slice A3218 l3217.length c3219], true⟩, ⟨b3233, 0, [.int .i64 n3190, .slice A3195 s3191.length c3196, .bool b3192, .slice A3197 l3193.length c3198, .slice A3199 u3194.length c3200], true⟩, ⟨b3241, 0, [.int .i64 0, .slice none 0 0, .bool false, .slice none 0 0, .slice none 0 0], true⟩, ⟨b3276, 0, [.int .i64 0, .slice none 0 0, .bool true, .slice A_ k c_, .slice none 0 0], true⟩, ⟨b3290, 0, [.int .i64 y3216, .int .i64 y3211, .int .i64 y3212, .int .i64 (-1), .int .i64 (-1), .int .i64 y3215, .int .i64 y3216, .slice A3218 l3217.length c3219], true⟩] [(1, .v (.int .i64 v)), (6, .p 2 0), (9, .p 3 0), (10, .p 4 0), (60, .v (.slice A3197 ((things l3193).length) c3198)), (61, .v (.int .i64 (((things l3193).length : Nat) : Int))), (62, .v (.int .i64 ((k : Nat) : Int)))] a_ ∧ WOk w Nil w_ [⟨b3225, 0, [.int .i64 k3210, .int .i64 y3211, .int .i64 y3212, .int .i64 y3213, .int .i64 y3214, .int .i64 y3215, .int .i64 y3216, .slice A3218 l3217.length c3219], true⟩, ⟨b3233, 0, [.int .i64 n3190, .slice A3195 s3191.length c3196, .bool b3192, .slice A3197 l3193.length c3198, .slice A3199 u3194.length c3200], true⟩, ⟨b3241, 0, [.int .i64 0, .slice none 0 0, .bool false, .slice none 0 0, .slice none 0 0], true⟩, ⟨b3276, 0, [.int .i64 0, .slice none 0 0, .bool true, .slice A_ k c_, .slice none 0 0], true⟩, ⟨b3290, 0, [.int .i64 y3216, .int .i64 y3211, .int .i64 y3212, .int .i64 (-1), .int .i64 (-1), .int .i64 y3215, .int .i64 y3216, .slice A3218 l3217.length c3219], true⟩] [⟨A_, c_, 26, 5, k, xs⟩] ∧ Fr w3323 [⟨b3225, 0, [.int .i64 k3210, .int .i64 y3211, .int .i64 y3212, .int .i64 y3213, .int .i64 y3214, .int .i64 y3215, .int .i64 y3216, .slice A3218 l3217.length c3219], true⟩, ⟨b3233, 0, [.int .i64 n3190, .slice A3195 s3191.length c3196, .bool b3192, .slice A3197 l3193.length c3198, .slice A3199 u3194.length c3200], true⟩, ⟨b3241, 0, [.int .i64 0, .slice none 0 0, .bool false, .slice none 0 0, .slice none 0 0], true⟩, ⟨b3276, 0, [.int .i64 0, .slice none 0 0, .bool true, .slice none 0 0, .slice none 0 0], true⟩, ⟨b3290, 0, [.int .i64 y3216, .int .i64 y3211, .int .i64 y3212, .int .i64 (-1), .int .i64 (-1), .int .i64 y3215, .int .i64 y3216, .slice A3218 l3217.length c3219], true⟩] [⟨none, 0, 26, 5, 0, []⟩] w_ [⟨b3225, 0, [.int .i64 k3210, .int .i64 y3211, .int .i64 y3212, .int .i64 y3213, .int .i64 y3214, .int .i64 y3215, .int .i64 y3216, .slice A3218 l3217.length c3219], true⟩, ⟨b3233, 0, [.int .i64 n3190, .slice A3195 s3191.length c3196, .bool b3192, .slice A3197 l3193.length c3198, .slice A3199 u3194.length c3200], true⟩, ⟨b3241, 0, [.int .i64 0, .slice none 0 0, .bool false, .slice none 0 0, .slice none 0 0], true⟩, ⟨b3276, 0, [.int .i64 0, .slice none 0 0, .bool true, .slice A_ k c_, .slice none 0 0], true⟩, ⟨b3290, 0, [.int .i64 y3216, .int .i64 y3211, .int .i64 y3212, .int .i64 (-1), .int .i64 (-1), .int .i64 y3215, .int .i64 y3216, .slice A3218 l3217.length c3219], true⟩] [⟨A_, c_, 26, 5, k, xs⟩]) ((things l3193).length) ⟨0, none, 0, [], [], by omega, by omega, Trees.nil _ _, hE3340, hW3330, Fr.refl _ _ _⟩ ?_
    clear hE3340 hE3329 hW3330
    rintro n3332 a3333 w3334 ⟨k, A_, c_, xs, css, hn3337, hk3338, hT, hE3335, hW3336, hF3339⟩
    refine go_seq_region [0] (by kernel_rfl) ?_
    refine go_runs [0] [] [1, 6, 9, 10, 60, 61, 62, 63] hW3336 hE3335 (env' := [(1, .v (.int .i64 v)), (6, .p 2 0), (9, .p 3 0), (10, .p 4 0), (60, .v (.slice A3197 ((things l3193).length) c3198)), (61, .v (.int .i64 (((things l3193).length : Nat) : Int))), (62, .v (.int .i64 ((k : Nat) : Int))), (63, .v (.bool (decide (((k : Nat) : Int) < (((things l3193).length : Nat) : Int)))))]) (by kernel_rfl) rfl fun a3341 hE3342 => ?_
    clear hE3335
    refine wpOps_nil ?_
    refine then_normal ?_
    refine wp_seq ?_
    refine cond_of hE3342 (b := decide (((k : Nat) : Int) < (((things l3193).length : Nat) : Int))) (by kernel_rfl) (fun hc3343 => ?_) (fun hc3343 => ?_)
    ·
      have hf3344 := of_decide_eq_true hc3343
      refine wp_skip ?_
      refine then_normal ?_
      refine wp_seq ?_
      refine wp_block ?_
      refine go_seq_region [0, 1, 2, 3] (by kernel_rfl) ?_
      obtain ⟨b3345, o3346, hA3347, hl3348, hat3349⟩ := Slots.get (things_slots h3204) (i := k) (by omega)
      obtain ⟨x3350, he3351⟩ : ∃ x, (things l3193)[k]? = some x := ⟨_, List.getElem?_eq_getElem (by omega)⟩
      have hr3352 := (things_each h3205) k x3350 he3351
      obtain ⟨n3353, s3354, b3355, l3356, u3357, A3358, c3359, A3360, c3361, A3362, c3363, xs3364, rfl, hcs3365, h3366, h3367, h3368, h3369⟩ := hr3352.open_
      rw [hcs3365] at hr3352
      have hsm3371 := h3366.small
      have hsm3372 := h3367.small
      rw [hcs3365] at hat3349
      refine of_op (wpOp_index hE3342 (t := 23) (A := A3197) (m := (things l3193).length) (q := ((k : Nat) : Int)) (d := 64) (by kernel_rfl) (e := 26) (size := 5) (bytes := 88) (by kernel_rfl) hA3347 rfl (by omega) fun a3373 hE3374 => ?_)
      clear hE3342
      refine of_op (wpOp_load hE3374 (t := 26) (b := b3345) (o := o3346 + k * 5) (d := 65) (by kernel_rfl) (cs := [.int .i64 n3353, .slice A3358 s3354.length c3359, .bool b3355, .slice A3360 l3356.length c3361, .slice A3362 u3357.length c3363]) (v := .agg #[.int .i64 n3353, .slice A3358 s3354.length c3359, .bool b3355, .slice A3360 l3356.length c3361, .slice A3362 u3357.length c3363]) (by kernel_rfl) (AtF.move hat3349 hW3336.step nilM keepF).at_ fun a3375 hE3376 => ?_)
      clear hE3374
      refine of_op (wpOp_alloc hW3336 hE3376 (d := 12) (cs := [.int .i64 0, .slice none 0 0, .bool false, .slice none 0 0, .slice none 0 0]) (by kernel_rfl) fun b3377 a3378 w3379 hb3380 hz3381 hF3382 hW3383 hE3384 => ?_)
      clear hE3376 hW3336
      refine of_op (wpOp_store hW3383 hE3384 (oi := 5) (cs := [.int .i64 n3353, .slice A3358 s3354.length c3359, .bool b3355, .slice A3360 l3356.length c3361, .slice A3362 u3357.length c3363]) (by kernel_rfl) fun w3385 hF3386 hW3387 hE3388 => ?_)
      clear hE3384 hW3383
      refine wpOps_nil ?_
      refine then_normal ?_
      refine go_drawK 9 (by kernel_rfl) hW3387 fun w3389 hF3390 hW3391 hT3392 => ?_
      clear hW3387
      refine go_runsD [0, 1, 2, 3, 4] [1, 6, 9, 10, 60, 61, 62, 67, 68, 69, 70] 5 (by kernel_rfl) (panicFree_block (panicFree_then (panicFree_then (panicFree_block (panicFree_then (panicFree_block (panicFree_then panicFree_body))))))) (fun _ h => h.cells) hT3392 hE3388 (by kernel_rfl) (env' := [(1, .v (.int .i64 v)), (6, .p 2 0), (9, .p 3 0), (10, .p 4 0), (60, .v (.slice A3197 ((things l3193).length) c3198)), (61, .v (.int .i64 (((things l3193).length : Nat) : Int))), (62, .v (.int .i64 ((k : Nat) : Int))), (67, .v (.slice A_ k c_)), (68, .v (.agg #[.int .i64 y3216, .int .i64 y3211, .int .i64 y3212, .int .i64 (-1), .int .i64 (-1), .int .i64 y3215, .int .i64 y3216, .slice A3218 l3217.length c3219])), (69, .v (.int .i64 v)), (70, .v (.agg #[.int .i64 n3353, .slice A3358 s3354.length c3359, .bool b3355, .slice A3360 l3356.length c3361, .slice A3362 u3357.length c3363]))]) (by kernel_rfl) rfl fun a3393 hE3394 => ?_
      clear hE3388
      refine anyC_op (i := 5) (by kernel_rfl) (wpOp_call hE3394 (f := 47) (vs := [.agg #[.int .i64 y3216, .int .i64 y3211, .int .i64 y3212, .int .i64 (-1), .int .i64 (-1), .int .i64 y3215, .int .i64 y3216, .slice A3218 l3217.length c3219], .int .i64 v, .agg #[.int .i64 n3353, .slice A3358 s3354.length c3359, .bool b3355, .slice A3360 l3356.length c3361, .slice A3362 u3357.length c3363]]) (d := 71) (by kernel_rfl) Try.call47 ( sFitted0 hfit _ (Fld.mk y3216 y3211 y3212 (-1) (-1) y3215 y3216 l3217) v _ (Tree.mk n3353 s3354 b3355 l3356 u3357) _ _ (FldR.mk (l := l3217) xs3220 (h3222.move hW3391.step nilM hW3391.imm) (fun i_ x_ h_ => ((h3223 i_ x_ h_).move hW3391.step nilM hW3391.imm))) hpl.2 hd hof (hr3352.move hW3391.step nilM hW3391.imm)) ?_)
      rintro e_ w3398 ⟨cs3397, rfl, hr3396, hs3395⟩
      have hr3399 := hr3396.move (Step.refl _ Nil) nilM (hW3391.laid (G := F) hs3395)
      obtain ⟨n3400, s3401, b3402, l3403, u3404, A3405, c3406, A3407, c3408, A3409, c3410, xs3411, ht3417, hcs3412, h3413, h3414, h3415, h3416⟩ := hr3399.open_
      rw [hcs3412] at hr3399
      have hsm3418 := h3413.small
      have hsm3419 := h3414.small
      rw [hcs3412]
      refine ⟨_, rfl, fun a3420 hE3421 => ?_⟩
      have hW3422 := hW3391.next_nil hs3395
      have hF3423 := Fr.nil [⟨b3225, 0, [.int .i64 k3210, .int .i64 y3211, .int .i64 y3212, .int .i64 y3213, .int .i64 y3214, .int .i64 y3215, .int .i64 y3216, .slice A3218 l3217.length c3219], true⟩, ⟨b3233, 0, [.int .i64 n3190, .slice A3195 s3191.length c3196, .bool b3192, .slice A3197 l3193.length c3198, .slice A3199 u3194.length c3200], true⟩, ⟨b3241, 0, [.int .i64 0, .slice none 0 0, .bool false, .slice none 0 0, .slice none 0 0], true⟩, ⟨b3276, 0, [.int .i64 0, .slice none 0 0, .bool true, .slice A_ k c_, .slice none 0 0], true⟩, ⟨b3290, 0, [.int .i64 y3216, .int .i64 y3211, .int .i64 y3212, .int .i64 (-1), .int .i64 (-1), .int .i64 y3215, .int .i64 y3216, .slice A3218 l3217.length c3219], true⟩, ⟨b3377, 0, [.int .i64 n3353, .slice A3358 s3354.length c3359, .bool b3355, .slice A3360 l3356.length c3361, .slice A3362 u3357.length c3363], true⟩] [⟨A_, c_, 26, 5, k, xs⟩] hs3395
      clear hE3394
      have hT3424 : TT w3389 [⟨b3225, 0, [.int .i64 k3210, .int .i64 y3211, .int .i64 y3212, .int .i64 y3213, .int .i64 y3214, .int .i64 y3215, .int .i64 y3216, .slice A3218 l3217.length c3219], true⟩, ⟨b3233, 0, [.int .i64 n3190, .slice A3195 s3191.length c3196, .bool b3192, .slice A3197 l3193.length c3198, .slice A3199 u3194.length c3200], true⟩, ⟨b3241, 0, [.int .i64 0, .slice none 0 0, .bool false, .slice none 0 0, .slice none 0 0], true⟩, ⟨b3276, 0, [.int .i64 0, .slice none 0 0, .bool true, .slice A_ k c_, .slice none 0 0], true⟩, ⟨b3290, 0, [.int .i64 y3216, .int .i64 y3211, .int .i64 y3212, .int .i64 (-1), .int .i64 (-1), .int .i64 y3215, .int .i64 y3216, .slice A3218 l3217.length c3219], true⟩, ⟨b3377, 0, [.int .i64 n3353, .slice A3358 s3354.length c3359, .bool b3355, .slice A3360 l3356.length c3361, .slice A3362 u3357.length c3363], true⟩] [⟨A_, c_, 26, 5, k, xs⟩] w3398 := ⟨hW3422.cells, hF3423.step⟩
      refine ⟨fun _ => hT3424, ?_⟩
      refine anyC_op (i := 6) (by kernel_rfl) (wpOp_lit hW3422 hE3421 (e := 26) (size := 5) (len := 1) (cs := [.int .i64 n3400, .slice A3405 s3401.length c3406, .bool b3402, .slice A3407 l3403.length c3408, .slice A3409 u3404.length c3410]) (d := 72) (by kernel_rfl) (by kernel_rfl) fun b3425 a3426 w3427 hb3428 hz3429 hF3430 hW3431 hE3432 => ?_)
      clear hE3421 hW3422
      have hT3433 : TT w3389 [⟨b3225, 0, [.int .i64 k3210, .int .i64 y3211, .int .i64 y3212, .int .i64 y3213, .int .i64 y3214, .int .i64 y3215, .int .i64 y3216, .slice A3218 l3217.length c3219], true⟩, ⟨b3233, 0, [.int .i64 n3190, .slice A3195 s3191.length c3196, .bool b3192, .slice A3197 l3193.length c3198, .slice A3199 u3194.length c3200], true⟩, ⟨b3241, 0, [.int .i64 0, .slice none 0 0, .bool false, .slice none 0 0, .slice none 0 0], true⟩, ⟨b3276, 0, [.int .i64 0, .slice none 0 0, .bool true, .slice A_ k c_, .slice none 0 0], true⟩, ⟨b3290, 0, [.int .i64 y3216, .int .i64 y3211, .int .i64 y3212, .int .i64 (-1), .int .i64 (-1), .int .i64 y3215, .int .i64 y3216, .slice A3218 l3217.length c3219], true⟩, ⟨b3377, 0, [.int .i64 n3353, .slice A3358 s3354.length c3359, .bool b3355, .slice A3360 l3356.length c3361, .slice A3362 u3357.length c3363], true⟩] [⟨A_, c_, 26, 5, k, xs⟩] w3427 := ⟨hW3431.cells, (Fr.trans hF3423 hF3430).step⟩
      refine ⟨fun _ => hT3433, ?_⟩
      refine anyC_op (i := 7) (by kernel_rfl) (wpOp_append hW3431 hE3432 (k := 0) (d := 73) (t := 23) (e := 26) (size := 5) (bytes := 88) (A := A_) (As := (some ⟨b3425, 0, none⟩)) (m0 := k) (c := c_) (m := 1) (cs := 1) (xs := xs) (news := [.int .i64 n3400, .slice A3405 s3401.length c3406, .bool b3402, .slice A3407 l3403.length c3408, .slice A3409 u3404.length c3410]) (by kernel_rfl) (by kernel_rfl) rfl (own_src (hW3431.own 1 _ rfl) (allOne_ok (by kernel_rfl))) (own_cap (hW3431.own 1 _ rfl)) (by omega) fun A3434 c3435 a3436 w3437 hF3438 hW3439 hE3440 => ?_)
      clear hE3432 hW3431
      have hT3441 : TT w3389 [⟨b3225, 0, [.int .i64 k3210, .int .i64 y3211, .int .i64 y3212, .int .i64 y3213, .int .i64 y3214, .int .i64 y3215, .int .i64 y3216, .slice A3218 l3217.length c3219], true⟩, ⟨b3233, 0, [.int .i64 n3190, .slice A3195 s3191.length c3196, .bool b3192, .slice A3197 l3193.length c3198, .slice A3199 u3194.length c3200], true⟩, ⟨b3241, 0, [.int .i64 0, .slice none 0 0, .bool false, .slice none 0 0, .slice none 0 0], true⟩, ⟨b3276, 0, [.int .i64 0, .slice none 0 0, .bool true, .slice A_ k c_, .slice none 0 0], true⟩, ⟨b3290, 0, [.int .i64 y3216, .int .i64 y3211, .int .i64 y3212, .int .i64 (-1), .int .i64 (-1), .int .i64 y3215, .int .i64 y3216, .slice A3218 l3217.length c3219], true⟩, ⟨b3377, 0, [.int .i64 n3353, .slice A3358 s3354.length c3359, .bool b3355, .slice A3360 l3356.length c3361, .slice A3362 u3357.length c3363], true⟩] [⟨A_, c_, 26, 5, k, xs⟩] w3437 := ⟨hW3439.cells, (Fr.trans (Fr.trans hF3423 hF3430) hF3438).step⟩
      refine ⟨fun _ => hT3441, ?_⟩
      refine go_runsD [8] [1, 6, 9, 10, 60, 61, 62, 73, 74] 1 (by kernel_rfl) (panicFree_block (panicFree_then (panicFree_then (panicFree_block (panicFree_then (panicFree_block (panicFree_then panicFree_body))))))) (fun _ h => h.cells) hT3441 hE3440 (by kernel_rfl) (env' := [(1, .v (.int .i64 v)), (6, .p 2 0), (9, .p 3 0), (10, .p 4 0), (60, .v (.slice A3197 ((things l3193).length) c3198)), (61, .v (.int .i64 (((things l3193).length : Nat) : Int))), (62, .v (.int .i64 ((k : Nat) : Int))), (73, .v (.slice A3434 (k + 1) c3435)), (74, .p 3 3)]) (by kernel_rfl) rfl fun a3442 hE3443 => ?_
      clear hE3440
      refine anyC_op (i := 9) (by kernel_rfl) (wpOp_store hW3439 hE3443 (oi := 3) (cs := [.int .i64 0, .slice none 0 0, .bool true, .slice A3434 (k + 1) c3435, .slice none 0 0]) (by kernel_rfl) fun w3444 hF3445 hW3446 hE3447 => ?_)
      clear hE3443 hW3439
      refine ⟨fun h => absurd rfl h, ?_⟩
      refine anyC_done (by kernel_rfl) ?_ _
      refine block_normal ?_
      refine then_normal ?_
      refine go_region [0, 1] (by kernel_rfl) ?_
      refine go_runs [0, 1] [] [1, 6, 9, 10, 60, 61, 62] hW3446 hE3447 (env' := [(1, .v (.int .i64 v)), (6, .p 2 0), (9, .p 3 0), (10, .p 4 0), (60, .v (.slice A3197 ((things l3193).length) c3198)), (61, .v (.int .i64 (((things l3193).length : Nat) : Int))), (62, .v (.int .i64 (IntKind.i64.wrap (((k : Nat) : Int) + 1))))]) (by kernel_rfl) rfl fun a3448 hE3449 => ?_
      clear hE3447
      refine wpOps_nil ?_
      refine then_normal ?_
      have hE3450 := EnvOk.pick hE3449 (ks := [1, 6, 9, 10, 60, 61, 62]) (env' := [(1, .v (.int .i64 v)), (6, .p 2 0), (9, .p 3 0), (10, .p 4 0), (60, .v (.slice A3197 ((things l3193).length) c3198)), (61, .v (.int .i64 (((things l3193).length : Nat) : Int))), (62, .v (.int .i64 (IntKind.i64.wrap (((k : Nat) : Int) + 1))))]) (by kernel_rfl)
      have hE3451 : EnvOk 82 [⟨b3225, 0, [.int .i64 k3210, .int .i64 y3211, .int .i64 y3212, .int .i64 y3213, .int .i64 y3214, .int .i64 y3215, .int .i64 y3216, .slice A3218 l3217.length c3219], true⟩, ⟨b3233, 0, [.int .i64 n3190, .slice A3195 s3191.length c3196, .bool b3192, .slice A3197 l3193.length c3198, .slice A3199 u3194.length c3200], true⟩, ⟨b3241, 0, [.int .i64 0, .slice none 0 0, .bool false, .slice none 0 0, .slice none 0 0], true⟩, ⟨b3276, 0, [.int .i64 0, .slice none 0 0, .bool true, .slice A3434 (k + 1) c3435, .slice none 0 0], true⟩, ⟨b3290, 0, [.int .i64 y3216, .int .i64 y3211, .int .i64 y3212, .int .i64 (-1), .int .i64 (-1), .int .i64 y3215, .int .i64 y3216, .slice A3218 l3217.length c3219], true⟩] _ _ := hE3450.cutTb 5 (by kernel_rfl)
      have hW3452 : WOk _ _ _ [⟨b3225, 0, [.int .i64 k3210, .int .i64 y3211, .int .i64 y3212, .int .i64 y3213, .int .i64 y3214, .int .i64 y3215, .int .i64 y3216, .slice A3218 l3217.length c3219], true⟩, ⟨b3233, 0, [.int .i64 n3190, .slice A3195 s3191.length c3196, .bool b3192, .slice A3197 l3193.length c3198, .slice A3199 u3194.length c3200], true⟩, ⟨b3241, 0, [.int .i64 0, .slice none 0 0, .bool false, .slice none 0 0, .slice none 0 0], true⟩, ⟨b3276, 0, [.int .i64 0, .slice none 0 0, .bool true, .slice A3434 (k + 1) c3435, .slice none 0 0], true⟩, ⟨b3290, 0, [.int .i64 y3216, .int .i64 y3211, .int .i64 y3212, .int .i64 (-1), .int .i64 (-1), .int .i64 y3215, .int .i64 y3216, .slice A3218 l3217.length c3219], true⟩] _ := hW3446.cutTb 5
      have hF3453 : Fr _ _ _ _ [⟨b3225, 0, [.int .i64 k3210, .int .i64 y3211, .int .i64 y3212, .int .i64 y3213, .int .i64 y3214, .int .i64 y3215, .int .i64 y3216, .slice A3218 l3217.length c3219], true⟩, ⟨b3233, 0, [.int .i64 n3190, .slice A3195 s3191.length c3196, .bool b3192, .slice A3197 l3193.length c3198, .slice A3199 u3194.length c3200], true⟩, ⟨b3241, 0, [.int .i64 0, .slice none 0 0, .bool false, .slice none 0 0, .slice none 0 0], true⟩, ⟨b3276, 0, [.int .i64 0, .slice none 0 0, .bool true, .slice A3434 (k + 1) c3435, .slice none 0 0], true⟩, ⟨b3290, 0, [.int .i64 y3216, .int .i64 y3211, .int .i64 y3212, .int .i64 (-1), .int .i64 (-1), .int .i64 y3215, .int .i64 y3216, .slice A3218 l3217.length c3219], true⟩] _ := Fr.cutTb w3444 [⟨b3225, 0, [.int .i64 k3210, .int .i64 y3211, .int .i64 y3212, .int .i64 y3213, .int .i64 y3214, .int .i64 y3215, .int .i64 y3216, .slice A3218 l3217.length c3219], true⟩, ⟨b3233, 0, [.int .i64 n3190, .slice A3195 s3191.length c3196, .bool b3192, .slice A3197 l3193.length c3198, .slice A3199 u3194.length c3200], true⟩, ⟨b3241, 0, [.int .i64 0, .slice none 0 0, .bool false, .slice none 0 0, .slice none 0 0], true⟩, ⟨b3276, 0, [.int .i64 0, .slice none 0 0, .bool true, .slice A3434 (k + 1) c3435, .slice none 0 0], true⟩, ⟨b3290, 0, [.int .i64 y3216, .int .i64 y3211, .int .i64 y3212, .int .i64 (-1), .int .i64 (-1), .int .i64 y3215, .int .i64 y3216, .slice A3218 l3217.length c3219], true⟩, ⟨b3377, 0, [.int .i64 n3353, .slice A3358 s3354.length c3359, .bool b3355, .slice A3360 l3356.length c3361, .slice A3362 u3357.length c3363], true⟩] [⟨A3434, c3435, 26, 5, k + 1, xs ++ [.int .i64 n3400, .slice A3405 s3401.length c3406, .bool b3402, .slice A3407 l3403.length c3408, .slice A3409 u3404.length c3410]⟩, ⟨some ⟨b3425, 0, none⟩, 1, 26, 5, 1, [.int .i64 n3400, .slice A3405 s3401.length c3406, .bool b3402, .slice A3407 l3403.length c3408, .slice A3409 u3404.length c3410]⟩] 5
      have hW3454 : WOk _ _ _ _ [⟨A3434, c3435, 26, 5, k + 1, xs ++ [.int .i64 n3400, .slice A3405 s3401.length c3406, .bool b3402, .slice A3407 l3403.length c3408, .slice A3409 u3404.length c3410]⟩] := hW3452.rows 1
      have hF3455 : Fr _ _ _ _ _ [⟨A3434, c3435, 26, 5, k + 1, xs ++ [.int .i64 n3400, .slice A3405 s3401.length c3406, .bool b3402, .slice A3407 l3403.length c3408, .slice A3409 u3404.length c3410]⟩] := Fr.rows w3444 [⟨b3225, 0, [.int .i64 k3210, .int .i64 y3211, .int .i64 y3212, .int .i64 y3213, .int .i64 y3214, .int .i64 y3215, .int .i64 y3216, .slice A3218 l3217.length c3219], true⟩, ⟨b3233, 0, [.int .i64 n3190, .slice A3195 s3191.length c3196, .bool b3192, .slice A3197 l3193.length c3198, .slice A3199 u3194.length c3200], true⟩, ⟨b3241, 0, [.int .i64 0, .slice none 0 0, .bool false, .slice none 0 0, .slice none 0 0], true⟩, ⟨b3276, 0, [.int .i64 0, .slice none 0 0, .bool true, .slice A3434 (k + 1) c3435, .slice none 0 0], true⟩, ⟨b3290, 0, [.int .i64 y3216, .int .i64 y3211, .int .i64 y3212, .int .i64 (-1), .int .i64 (-1), .int .i64 y3215, .int .i64 y3216, .slice A3218 l3217.length c3219], true⟩] [⟨A3434, c3435, 26, 5, k + 1, xs ++ [.int .i64 n3400, .slice A3405 s3401.length c3406, .bool b3402, .slice A3407 l3403.length c3408, .slice A3409 u3404.length c3410]⟩, ⟨some ⟨b3425, 0, none⟩, 1, 26, 5, 1, [.int .i64 n3400, .slice A3405 s3401.length c3406, .bool b3402, .slice A3407 l3403.length c3408, .slice A3409 u3404.length c3410]⟩] 1
      have hE3456 := EnvOk.pick hE3451 (ks := [1, 6, 9, 10, 60, 61, 62]) (env' := [(1, .v (.int .i64 v)), (6, .p 2 0), (9, .p 3 0), (10, .p 4 0), (60, .v (.slice A3197 ((things l3193).length) c3198)), (61, .v (.int .i64 (((things l3193).length : Nat) : Int))), (62, .v (.int .i64 (IntKind.i64.wrap (((k : Nat) : Int) + 1))))]) (by kernel_rfl)
      have he3457 : IntKind.i64.wrap (((k : Nat) : Int) + 1) = ((k + 1 : Nat) : Int) := wrap_succ (by omega)
      rw [he3457] at hE3456
      exact ⟨(things l3193).length - (k + 1), by omega, k + 1, A3434, c3435, xs ++ [Value.int .i64 n3400, .slice A3405 s3401.length c3406, .bool b3402, .slice A3407 l3403.length c3408, .slice A3409 u3404.length c3410], (css ++ [[Value.int .i64 n3400, .slice A3405 s3401.length c3406, .bool b3402, .slice A3407 l3403.length c3408, .slice A3409 u3404.length c3410]]), rfl, by omega, by rw [take_succ_of (fitL_get (p := fitT v d) (v := v) (f := (Fld.mk y3216 y3211 y3212 (-1) (-1) y3215 y3216 l3217)) he3351)]; exact (hT.move (Fr.trans (Fr.trans (Fr.trans (Fr.trans (Fr.trans (Fr.trans (Fr.trans (Fr.trans hF3382 hF3386) hF3390) hF3423) hF3430) hF3438) hF3445) hF3453) hF3455).step immM (Fr.trans (Fr.trans (Fr.trans (Fr.trans (Fr.trans (Fr.trans (Fr.trans (Fr.trans hF3382 hF3386) hF3390) hF3423) hF3430) hF3438) hF3445) hF3453) hF3455).to').snoc (hr3399.move (Fr.trans (Fr.trans (Fr.trans (Fr.trans hF3430 hF3438) hF3445) hF3453) hF3455).step immM (Fr.trans (Fr.trans (Fr.trans (Fr.trans hF3430 hF3438) hF3445) hF3453) hF3455).to'), hE3456, hW3454, (Fr.trans (Fr.trans (Fr.trans (Fr.trans (Fr.trans (Fr.trans (Fr.trans (Fr.trans (Fr.trans hF3339 hF3382) hF3386) hF3390) hF3423) hF3430) hF3438) hF3445) hF3453) hF3455)⟩
    ·
      have hf3458 := of_decide_eq_false hc3343
      refine wp_exit ?_
      refine then_exit ?_
      refine then_exit ?_
      refine block_exit ?_
      refine then_normal ?_
      refine go_seq_region [0, 1] (by kernel_rfl) ?_
      refine go_runs [0] [1] [6, 76] hW3336 hE3342 (env' := [(6, .p 2 0), (76, .v (.agg #[.int .i64 0, .slice none 0 0, .bool true, .slice A_ k c_, .slice none 0 0]))]) (by kernel_rfl) rfl fun a3459 hE3460 => ?_
      clear hE3342
      refine of_op (wpOp_store hW3336 hE3460 (oi := 2) (cs := [.int .i64 0, .slice none 0 0, .bool true, .slice A_ k c_, .slice none 0 0]) (by kernel_rfl) fun w3461 hF3462 hW3463 hE3464 => ?_)
      clear hE3460 hW3336
      refine wpOps_nil ?_
      refine then_normal ?_
      refine wp_ret ?_
      refine block_ret ?_
      refine then_ret ?_
      refine leave hE3464 hW3463.cells (v := .agg #[.int .i64 0, .slice none 0 0, .bool true, .slice A_ k c_, .slice none 0 0]) (by kernel_rfl) ?_
      have hk0 : k = (fitL (fitT v d) v (Fld.mk y3216 y3211 y3212 (-1) (-1) y3215 y3216 l3217) l3193).length := by rw [fitL_len]; omega
      have hT' := (hT.move hF3462.step immM hF3462.to')
      rw [show (fitL (fitT v d) v (Fld.mk y3216 y3211 y3212 (-1) (-1) y3215 y3216 l3217) l3193).take k = (fitL (fitT v d) v (Fld.mk y3216 y3211 y3212 (-1) (-1) y3215 y3216 l3217) l3193) by rw [hk0, List.take_length]] at hT'
      exact tree_end hW3463 rfl (Octs.nil _ _) hk0 (trees_fp hW3463 (k := 0) rfl hT' hk0 (by rw [fitL_len]; omega)) rfl (TagsR.nil _ _) (fittedW_11 hk11 (by simp only [hc3271]; try simp))
  ·
    have hE3466 := hE3270.cast (env' := [(1, .v (.int .i64 v)), (3, .p 0 0), (5, .p 1 0), (6, .p 2 0), (40, .v (.bool false))]) (by rw [hc3271])
    clear hE3270
    refine go_runs [2, 3, 4, 5] [6, 7, 8, 9, 10, 11, 12, 13, 14] [1, 3, 5, 6, 40, 44] hW3255 hE3466 (env' := [(1, .v (.int .i64 v)), (3, .p 0 0), (5, .p 1 0), (6, .p 2 0), (40, .v (.bool false)), (44, .v (.bool (decide (y3214 ≥ 0))))]) (by kernel_rfl) rfl fun a3467 hE3468 => ?_
    clear hE3466
    refine (Bool.eq_false_or_eq_true (decide (y3214 ≥ 0))).elim (fun hc3469 => ?_) (fun hc3469 => ?_)
    ·
      have hf3470 := of_decide_eq_true hc3469
      have hE3471 := hE3468.cast (env' := [(1, .v (.int .i64 v)), (3, .p 0 0), (5, .p 1 0), (6, .p 2 0), (40, .v (.bool false)), (44, .v (.bool true))]) (by rw [hc3469])
      clear hE3468
      refine go_runs [6, 7, 8, 9, 10, 11, 12] [13, 14] [1, 3, 5, 6, 51] hW3255 hE3471 (env' := [(1, .v (.int .i64 v)), (3, .p 0 0), (5, .p 1 0), (6, .p 2 0), (51, .v (.agg #[.int .i64 0, .slice none 0 0, .bool (((l3193.length : Nat) : Int) == 0), .slice none 0 0, .slice none 0 0]))]) (by kernel_rfl) rfl fun a3472 hE3473 => ?_
      clear hE3471
      refine of_op (wpOp_alloc hW3255 hE3473 (d := 9) (cs := [.int .i64 0, .slice none 0 0, .bool false, .slice none 0 0, .slice none 0 0]) (by kernel_rfl) fun b3474 a3475 w3476 hb3477 hz3478 hF3479 hW3480 hE3481 => ?_)
      clear hE3473 hW3255
      refine of_op (wpOp_store hW3480 hE3481 (oi := 3) (cs := [.int .i64 0, .slice none 0 0, .bool (((l3193.length : Nat) : Int) == 0), .slice none 0 0, .slice none 0 0]) (by kernel_rfl) fun w3482 hF3483 hW3484 hE3485 => ?_)
      clear hE3481 hW3480
      refine wpOps_nil ?_
      refine then_normal ?_
      refine go_seq_region [0, 1, 2] (by kernel_rfl) ?_
      refine go_runs [0] [1, 2] [1, 3, 5, 6, 9, 52] hW3484 hE3485 (env' := [(1, .v (.int .i64 v)), (3, .p 0 0), (5, .p 1 0), (6, .p 2 0), (9, .p 3 0), (52, .v (.agg #[.int .i64 k3210, .int .i64 y3211, .int .i64 y3212, .int .i64 y3213, .int .i64 y3214, .int .i64 y3215, .int .i64 y3216, .slice A3218 l3217.length c3219]))]) (by kernel_rfl) rfl fun a3486 hE3487 => ?_
      clear hE3485
      refine of_op (wpOp_alloc hW3484 hE3487 (d := 10) (cs := [.int .i64 0, .int .i64 0, .int .i64 0, .int .i64 0, .int .i64 0, .int .i64 0, .int .i64 0, .slice none 0 0]) (by kernel_rfl) fun b3488 a3489 w3490 hb3491 hz3492 hF3493 hW3494 hE3495 => ?_)
      clear hE3487 hW3484
      refine of_op (wpOp_store hW3494 hE3495 (oi := 4) (cs := [.int .i64 k3210, .int .i64 y3211, .int .i64 y3212, .int .i64 y3213, .int .i64 y3214, .int .i64 y3215, .int .i64 y3216, .slice A3218 l3217.length c3219]) (by kernel_rfl) fun w3496 hF3497 hW3498 hE3499 => ?_)
      clear hE3495 hW3494
      refine wpOps_nil ?_
      refine then_normal ?_
      refine go_seq_region [0, 1, 2, 3, 4, 5, 6, 7] (by kernel_rfl) ?_
      refine go_runs [0, 1, 2] [3, 4, 5, 6, 7] [1, 5, 6, 9, 10, 54, 55] hW3498 hE3499 (env' := [(1, .v (.int .i64 v)), (5, .p 1 0), (6, .p 2 0), (9, .p 3 0), (10, .p 4 0), (54, .v (.int .i64 y3216)), (55, .p 4 0)]) (by kernel_rfl) rfl fun a3500 hE3501 => ?_
      clear hE3499
      refine of_op (wpOp_store hW3498 hE3501 (oi := 4) (cs := [.int .i64 y3216, .int .i64 y3211, .int .i64 y3212, .int .i64 y3213, .int .i64 y3214, .int .i64 y3215, .int .i64 y3216, .slice A3218 l3217.length c3219]) (by kernel_rfl) fun w3502 hF3503 hW3504 hE3505 => ?_)
      clear hE3501 hW3498
      refine go_runs [4] [5, 6, 7] [1, 5, 6, 9, 10, 56] hW3504 hE3505 (env' := [(1, .v (.int .i64 v)), (5, .p 1 0), (6, .p 2 0), (9, .p 3 0), (10, .p 4 0), (56, .p 4 3)]) (by kernel_rfl) rfl fun a3506 hE3507 => ?_
      clear hE3505
      refine of_op (wpOp_store hW3504 hE3507 (oi := 4) (cs := [.int .i64 y3216, .int .i64 y3211, .int .i64 y3212, .int .i64 (-1), .int .i64 y3214, .int .i64 y3215, .int .i64 y3216, .slice A3218 l3217.length c3219]) (by kernel_rfl) fun w3508 hF3509 hW3510 hE3511 => ?_)
      clear hE3507 hW3504
      refine go_runs [6] [7] [1, 5, 6, 9, 10, 57] hW3510 hE3511 (env' := [(1, .v (.int .i64 v)), (5, .p 1 0), (6, .p 2 0), (9, .p 3 0), (10, .p 4 0), (57, .p 4 4)]) (by kernel_rfl) rfl fun a3512 hE3513 => ?_
      clear hE3511
      refine of_op (wpOp_store hW3510 hE3513 (oi := 4) (cs := [.int .i64 y3216, .int .i64 y3211, .int .i64 y3212, .int .i64 (-1), .int .i64 (-1), .int .i64 y3215, .int .i64 y3216, .slice A3218 l3217.length c3219]) (by kernel_rfl) fun w3514 hF3515 hW3516 hE3517 => ?_)
      clear hE3513 hW3510
      refine wpOps_nil ?_
      refine then_normal ?_
      refine wp_seq ?_
      refine go_seq_region [0, 1, 2, 3, 4] (by kernel_rfl) ?_
      refine go_runs [0, 1] [2, 3, 4] [1, 6, 9, 10, 59] hW3516 hE3517 (env' := [(1, .v (.int .i64 v)), (6, .p 2 0), (9, .p 3 0), (10, .p 4 0), (59, .v (.slice A3197 l3193.length c3198))]) (by kernel_rfl) rfl fun a3518 hE3519 => ?_
      clear hE3517
      refine of_op (wpOp_call hE3519 (f := 104) (vs := [.slice A3197 l3193.length c3198]) (d := 60) (by kernel_rfl) Try.call104 (sThings _ _ l3193 (h3204.move hW3516.step nilM hW3516.imm).le _) ?_)
      rintro e_ w3521 ⟨rfl, hs3520⟩
      refine ⟨_, rfl, fun a3522 hE3523 => ?_⟩
      have hW3524 := hW3516.next_nil hs3520
      have hF3525 := Fr.nil [⟨b3225, 0, [.int .i64 k3210, .int .i64 y3211, .int .i64 y3212, .int .i64 y3213, .int .i64 y3214, .int .i64 y3215, .int .i64 y3216, .slice A3218 l3217.length c3219], true⟩, ⟨b3233, 0, [.int .i64 n3190, .slice A3195 s3191.length c3196, .bool b3192, .slice A3197 l3193.length c3198, .slice A3199 u3194.length c3200], true⟩, ⟨b3241, 0, [.int .i64 0, .slice none 0 0, .bool false, .slice none 0 0, .slice none 0 0], true⟩, ⟨b3474, 0, [.int .i64 0, .slice none 0 0, .bool (((l3193.length : Nat) : Int) == 0), .slice none 0 0, .slice none 0 0], true⟩, ⟨b3488, 0, [.int .i64 y3216, .int .i64 y3211, .int .i64 y3212, .int .i64 (-1), .int .i64 (-1), .int .i64 y3215, .int .i64 y3216, .slice A3218 l3217.length c3219], true⟩] [] hs3520
      clear hE3519 hW3516
      refine go_runs [3, 4] [] [1, 6, 9, 10, 60, 61, 62] hW3524 hE3523 (env' := [(1, .v (.int .i64 v)), (6, .p 2 0), (9, .p 3 0), (10, .p 4 0), (60, .v (.slice A3197 ((things l3193).length) c3198)), (61, .v (.int .i64 (((things l3193).length : Nat) : Int))), (62, .v (.int .i64 0))]) (by kernel_rfl) rfl fun a3526 hE3527 => ?_
      clear hE3523
      refine wpOps_nil ?_
      refine then_normal ?_
      refine wp_block ?_
      have hW3528 := hW3524.addNil 26 5
      have hF3529 := Fr.addNil w3521 [⟨b3225, 0, [.int .i64 k3210, .int .i64 y3211, .int .i64 y3212, .int .i64 y3213, .int .i64 y3214, .int .i64 y3215, .int .i64 y3216, .slice A3218 l3217.length c3219], true⟩, ⟨b3233, 0, [.int .i64 n3190, .slice A3195 s3191.length c3196, .bool b3192, .slice A3197 l3193.length c3198, .slice A3199 u3194.length c3200], true⟩, ⟨b3241, 0, [.int .i64 0, .slice none 0 0, .bool false, .slice none 0 0, .slice none 0 0], true⟩, ⟨b3474, 0, [.int .i64 0, .slice none 0 0, .bool (((l3193.length : Nat) : Int) == 0), .slice none 0 0, .slice none 0 0], true⟩, ⟨b3488, 0, [.int .i64 y3216, .int .i64 y3211, .int .i64 y3212, .int .i64 (-1), .int .i64 (-1), .int .i64 y3215, .int .i64 y3216, .slice A3218 l3217.length c3219], true⟩] [] 26 5
      clear hW3524
      have hsm3 : (things l3193).length ≤ 32767 := things_le _
      have hE3538 := EnvOk.pick hE3527 (ks := [1, 6, 9, 10, 60, 61, 62]) (env' := [(1, .v (.int .i64 v)), (6, .p 2 0), (9, .p 3 0), (10, .p 4 0), (60, .v (.slice A3197 ((things l3193).length) c3198)), (61, .v (.int .i64 (((things l3193).length : Nat) : Int))), (62, .v (.int .i64 0))]) (by kernel_rfl)
      refine wp_loop_ghost (fun n_ a_ w_ => ∃ (k : Nat) (A_ : Option Addr) (c_ : Nat) (xs : List Value) (css : List (List Value)), n_ = (things l3193).length - k ∧ k ≤ (things l3193).length ∧ (Trees w_ (Imm F w w_ [⟨b3225, 0, [.int .i64 k3210, .int .i64 y3211, .int .i64 y3212, .int .i64 y3213, .int .i64 y3214, .int .i64 y3215, .int .i64 y3216, .slice A3218 l3217.length c3219], true⟩, ⟨b3233, 0, [.int .i64 n3190, .slice A3195 s3191.length c3196, .bool b3192, .slice A3197 l3193.length c3198, .slice A3199 u3194.length c3200], true⟩, ⟨b3241, 0, [.int .i64 0, .slice none 0 0, .bool false, .slice none 0 0, .slice none 0 0], true⟩, ⟨b3474, 0, [.int .i64 0, .slice none 0 0, .bool (((l3193.length : Nat) : Int) == 0), .slice A_ k c_, .slice none 0 0], true⟩, ⟨b3488, 0, [.int .i64 y3216, .int .i64 y3211, .int .i64 y3212, .int .i64 (-1), .int .i64 (-1), .int .i64 y3215, .int .i64 y3216, .slice A3218 l3217.length c3219], true⟩] [⟨A_, c_, 26, 5, k, xs⟩]) xs ((fitL (fitT v d) v (Fld.mk y3216 y3211 y3212 (-1) (-1) y3215 y3216 l3217) l3193).take k) css) ∧ EnvOk 82 [⟨b3225, 0, [.int .i64 k3210, .int .i64 y3211, .int .i64 y3212, .int .i64 y3213, .int .i64 y3214, .int .i64 y3215, .int .i64 y3216, .slice A3218 l3217.length c3219], true⟩, ⟨b3233, 0, [.int .i64 n3190, .slice A3195 s3191.length c3196, .bool b3192, .slice A3197 l3193.length c3198, .slice A3199 u3194.length c3200], true⟩, ⟨b3241, 0, [.int .i64 0, .slice none 0 0, .bool false, .slice none 0 0, .slice none 0 0], true⟩, ⟨b3474, 0, [.int .i64 0, .slice none 0 0, .bool (((l3193.length : Nat) : Int) == 0), .slice A_ k c_, .slice none 0 0], true⟩, ⟨b3488, 0, [.int .i64 y3216, .int .i64 y3211, .int .i64 y3212, .int .i64 (-1), .int .i64 (-1), .int .i64 y3215, .int .i64 y3216, .slice A3218 l3217.length c3219], true⟩] [(1, .v (.int .i64 v)), (6, .p 2 0), (9, .p 3 0), (10, .p 4 0), (60, .v (.slice A3197 ((things l3193).length) c3198)), (61, .v (.int .i64 (((things l3193).length : Nat) : Int))), (62, .v (.int .i64 ((k : Nat) : Int)))] a_ ∧ WOk w Nil w_ [⟨b3225, 0, [.int .i64 k3210, .int .i64 y3211, .int .i64 y3212, .int .i64 y3213, .int .i64 y3214, .int .i64 y3215, .int .i64 y3216, .slice A3218 l3217.length c3219], true⟩, ⟨b3233, 0, [.int .i64 n3190, .slice A3195 s3191.length c3196, .bool b3192, .slice A3197 l3193.length c3198, .slice A3199 u3194.length c3200], true⟩, ⟨b3241, 0, [.int .i64 0, .slice none 0 0, .bool false, .slice none 0 0, .slice none 0 0], true⟩, ⟨b3474, 0, [.int .i64 0, .slice none 0 0, .bool (((l3193.length : Nat) : Int) == 0), .slice A_ k c_, .slice none 0 0], true⟩, ⟨b3488, 0, [.int .i64 y3216, .int .i64 y3211, .int .i64 y3212, .int .i64 (-1), .int .i64 (-1), .int .i64 y3215, .int .i64 y3216, .slice A3218 l3217.length c3219], true⟩] [⟨A_, c_, 26, 5, k, xs⟩] ∧ Fr w3521 [⟨b3225, 0, [.int .i64 k3210, .int .i64 y3211, .int .i64 y3212, .int .i64 y3213, .int .i64 y3214, .int .i64 y3215, .int .i64 y3216, .slice A3218 l3217.length c3219], true⟩, ⟨b3233, 0, [.int .i64 n3190, .slice A3195 s3191.length c3196, .bool b3192, .slice A3197 l3193.length c3198, .slice A3199 u3194.length c3200], true⟩, ⟨b3241, 0, [.int .i64 0, .slice none 0 0, .bool false, .slice none 0 0, .slice none 0 0], true⟩, ⟨b3474, 0, [.int .i64 0, .slice none 0 0, .bool (((l3193.length : Nat) : Int) == 0), .slice none 0 0, .slice none 0 0], true⟩, ⟨b3488, 0, [.int .i64 y3216, .int .i64 y3211, .int .i64 y3212, .int .i64 (-1), .int .i64 (-1), .int .i64 y3215, .int .i64 y3216, .slice A3218 l3217.length c3219], true⟩] [⟨none, 0, 26, 5, 0, []⟩] w_ [⟨b3225, 0, [.int .i64 k3210, .int .i64 y3211, .int .i64 y3212, .int .i64 y3213, .int .i64 y3214, .int .i64 y3215, .int .i64 y3216, .slice A3218 l3217.length c3219], true⟩, ⟨b3233, 0, [.int .i64 n3190, .slice A3195 s3191.length c3196, .bool b3192, .slice A3197 l3193.length c3198, .slice A3199 u3194.length c3200], true⟩, ⟨b3241, 0, [.int .i64 0, .slice none 0 0, .bool false, .slice none 0 0, .slice none 0 0], true⟩, ⟨b3474, 0, [.int .i64 0, .slice none 0 0, .bool (((l3193.length : Nat) : Int) == 0), .slice A_ k c_, .slice none 0 0], true⟩, ⟨b3488, 0, [.int .i64 y3216, .int .i64 y3211, .int .i64 y3212, .int .i64 (-1), .int .i64 (-1), .int .i64 y3215, .int .i64 y3216, .slice A3218 l3217.length c3219], true⟩] [⟨A_, c_, 26, 5, k, xs⟩]) ((things l3193).length) ⟨0, none, 0, [], [], by omega, by omega, Trees.nil _ _, hE3538, hW3528, Fr.refl _ _ _⟩ ?_
      clear hE3538 hE3527 hW3528
      rintro n3530 a3531 w3532 ⟨k, A_, c_, xs, css, hn3535, hk3536, hT, hE3533, hW3534, hF3537⟩
      refine go_seq_region [0] (by kernel_rfl) ?_
      refine go_runs [0] [] [1, 6, 9, 10, 60, 61, 62, 63] hW3534 hE3533 (env' := [(1, .v (.int .i64 v)), (6, .p 2 0), (9, .p 3 0), (10, .p 4 0), (60, .v (.slice A3197 ((things l3193).length) c3198)), (61, .v (.int .i64 (((things l3193).length : Nat) : Int))), (62, .v (.int .i64 ((k : Nat) : Int))), (63, .v (.bool (decide (((k : Nat) : Int) < (((things l3193).length : Nat) : Int)))))]) (by kernel_rfl) rfl fun a3539 hE3540 => ?_
      clear hE3533
      refine wpOps_nil ?_
      refine then_normal ?_
      refine wp_seq ?_
      refine cond_of hE3540 (b := decide (((k : Nat) : Int) < (((things l3193).length : Nat) : Int))) (by kernel_rfl) (fun hc3541 => ?_) (fun hc3541 => ?_)
      ·
        have hf3542 := of_decide_eq_true hc3541
        refine wp_skip ?_
        refine then_normal ?_
        refine wp_seq ?_
        refine wp_block ?_
        refine go_seq_region [0, 1, 2, 3] (by kernel_rfl) ?_
        obtain ⟨b3543, o3544, hA3545, hl3546, hat3547⟩ := Slots.get (things_slots h3204) (i := k) (by omega)
        obtain ⟨x3548, he3549⟩ : ∃ x, (things l3193)[k]? = some x := ⟨_, List.getElem?_eq_getElem (by omega)⟩
        have hr3550 := (things_each h3205) k x3548 he3549
        obtain ⟨n3551, s3552, b3553, l3554, u3555, A3556, c3557, A3558, c3559, A3560, c3561, xs3562, rfl, hcs3563, h3564, h3565, h3566, h3567⟩ := hr3550.open_
        rw [hcs3563] at hr3550
        have hsm3569 := h3564.small
        have hsm3570 := h3565.small
        rw [hcs3563] at hat3547
        refine of_op (wpOp_index hE3540 (t := 23) (A := A3197) (m := (things l3193).length) (q := ((k : Nat) : Int)) (d := 64) (by kernel_rfl) (e := 26) (size := 5) (bytes := 88) (by kernel_rfl) hA3545 rfl (by omega) fun a3571 hE3572 => ?_)
        clear hE3540
        refine of_op (wpOp_load hE3572 (t := 26) (b := b3543) (o := o3544 + k * 5) (d := 65) (by kernel_rfl) (cs := [.int .i64 n3551, .slice A3556 s3552.length c3557, .bool b3553, .slice A3558 l3554.length c3559, .slice A3560 u3555.length c3561]) (v := .agg #[.int .i64 n3551, .slice A3556 s3552.length c3557, .bool b3553, .slice A3558 l3554.length c3559, .slice A3560 u3555.length c3561]) (by kernel_rfl) (AtF.move hat3547 hW3534.step nilM keepF).at_ fun a3573 hE3574 => ?_)
        clear hE3572
        refine of_op (wpOp_alloc hW3534 hE3574 (d := 12) (cs := [.int .i64 0, .slice none 0 0, .bool false, .slice none 0 0, .slice none 0 0]) (by kernel_rfl) fun b3575 a3576 w3577 hb3578 hz3579 hF3580 hW3581 hE3582 => ?_)
        clear hE3574 hW3534
        refine of_op (wpOp_store hW3581 hE3582 (oi := 5) (cs := [.int .i64 n3551, .slice A3556 s3552.length c3557, .bool b3553, .slice A3558 l3554.length c3559, .slice A3560 u3555.length c3561]) (by kernel_rfl) fun w3583 hF3584 hW3585 hE3586 => ?_)
        clear hE3582 hW3581
        refine wpOps_nil ?_
        refine then_normal ?_
        refine go_drawK 9 (by kernel_rfl) hW3585 fun w3587 hF3588 hW3589 hT3590 => ?_
        clear hW3585
        refine go_runsD [0, 1, 2, 3, 4] [1, 6, 9, 10, 60, 61, 62, 67, 68, 69, 70] 5 (by kernel_rfl) (panicFree_block (panicFree_then (panicFree_then (panicFree_block (panicFree_then (panicFree_block (panicFree_then panicFree_body))))))) (fun _ h => h.cells) hT3590 hE3586 (by kernel_rfl) (env' := [(1, .v (.int .i64 v)), (6, .p 2 0), (9, .p 3 0), (10, .p 4 0), (60, .v (.slice A3197 ((things l3193).length) c3198)), (61, .v (.int .i64 (((things l3193).length : Nat) : Int))), (62, .v (.int .i64 ((k : Nat) : Int))), (67, .v (.slice A_ k c_)), (68, .v (.agg #[.int .i64 y3216, .int .i64 y3211, .int .i64 y3212, .int .i64 (-1), .int .i64 (-1), .int .i64 y3215, .int .i64 y3216, .slice A3218 l3217.length c3219])), (69, .v (.int .i64 v)), (70, .v (.agg #[.int .i64 n3551, .slice A3556 s3552.length c3557, .bool b3553, .slice A3558 l3554.length c3559, .slice A3560 u3555.length c3561]))]) (by kernel_rfl) rfl fun a3591 hE3592 => ?_
        clear hE3586
        refine anyC_op (i := 5) (by kernel_rfl) (wpOp_call hE3592 (f := 47) (vs := [.agg #[.int .i64 y3216, .int .i64 y3211, .int .i64 y3212, .int .i64 (-1), .int .i64 (-1), .int .i64 y3215, .int .i64 y3216, .slice A3218 l3217.length c3219], .int .i64 v, .agg #[.int .i64 n3551, .slice A3556 s3552.length c3557, .bool b3553, .slice A3558 l3554.length c3559, .slice A3560 u3555.length c3561]]) (d := 71) (by kernel_rfl) Try.call47 ( sFitted0 hfit _ (Fld.mk y3216 y3211 y3212 (-1) (-1) y3215 y3216 l3217) v _ (Tree.mk n3551 s3552 b3553 l3554 u3555) _ _ (FldR.mk (l := l3217) xs3220 (h3222.move hW3589.step nilM hW3589.imm) (fun i_ x_ h_ => ((h3223 i_ x_ h_).move hW3589.step nilM hW3589.imm))) hpl.2 hd hof (hr3550.move hW3589.step nilM hW3589.imm)) ?_)
        rintro e_ w3596 ⟨cs3595, rfl, hr3594, hs3593⟩
        have hr3597 := hr3594.move (Step.refl _ Nil) nilM (hW3589.laid (G := F) hs3593)
        obtain ⟨n3598, s3599, b3600, l3601, u3602, A3603, c3604, A3605, c3606, A3607, c3608, xs3609, ht3615, hcs3610, h3611, h3612, h3613, h3614⟩ := hr3597.open_
        rw [hcs3610] at hr3597
        have hsm3616 := h3611.small
        have hsm3617 := h3612.small
        rw [hcs3610]
        refine ⟨_, rfl, fun a3618 hE3619 => ?_⟩
        have hW3620 := hW3589.next_nil hs3593
        have hF3621 := Fr.nil [⟨b3225, 0, [.int .i64 k3210, .int .i64 y3211, .int .i64 y3212, .int .i64 y3213, .int .i64 y3214, .int .i64 y3215, .int .i64 y3216, .slice A3218 l3217.length c3219], true⟩, ⟨b3233, 0, [.int .i64 n3190, .slice A3195 s3191.length c3196, .bool b3192, .slice A3197 l3193.length c3198, .slice A3199 u3194.length c3200], true⟩, ⟨b3241, 0, [.int .i64 0, .slice none 0 0, .bool false, .slice none 0 0, .slice none 0 0], true⟩, ⟨b3474, 0, [.int .i64 0, .slice none 0 0, .bool (((l3193.length : Nat) : Int) == 0), .slice A_ k c_, .slice none 0 0], true⟩, ⟨b3488, 0, [.int .i64 y3216, .int .i64 y3211, .int .i64 y3212, .int .i64 (-1), .int .i64 (-1), .int .i64 y3215, .int .i64 y3216, .slice A3218 l3217.length c3219], true⟩, ⟨b3575, 0, [.int .i64 n3551, .slice A3556 s3552.length c3557, .bool b3553, .slice A3558 l3554.length c3559, .slice A3560 u3555.length c3561], true⟩] [⟨A_, c_, 26, 5, k, xs⟩] hs3593
        clear hE3592
        have hT3622 : TT w3587 [⟨b3225, 0, [.int .i64 k3210, .int .i64 y3211, .int .i64 y3212, .int .i64 y3213, .int .i64 y3214, .int .i64 y3215, .int .i64 y3216, .slice A3218 l3217.length c3219], true⟩, ⟨b3233, 0, [.int .i64 n3190, .slice A3195 s3191.length c3196, .bool b3192, .slice A3197 l3193.length c3198, .slice A3199 u3194.length c3200], true⟩, ⟨b3241, 0, [.int .i64 0, .slice none 0 0, .bool false, .slice none 0 0, .slice none 0 0], true⟩, ⟨b3474, 0, [.int .i64 0, .slice none 0 0, .bool (((l3193.length : Nat) : Int) == 0), .slice A_ k c_, .slice none 0 0], true⟩, ⟨b3488, 0, [.int .i64 y3216, .int .i64 y3211, .int .i64 y3212, .int .i64 (-1), .int .i64 (-1), .int .i64 y3215, .int .i64 y3216, .slice A3218 l3217.length c3219], true⟩, ⟨b3575, 0, [.int .i64 n3551, .slice A3556 s3552.length c3557, .bool b3553, .slice A3558 l3554.length c3559, .slice A3560 u3555.length c3561], true⟩] [⟨A_, c_, 26, 5, k, xs⟩] w3596 := ⟨hW3620.cells, hF3621.step⟩
        refine ⟨fun _ => hT3622, ?_⟩
        refine anyC_op (i := 6) (by kernel_rfl) (wpOp_lit hW3620 hE3619 (e := 26) (size := 5) (len := 1) (cs := [.int .i64 n3598, .slice A3603 s3599.length c3604, .bool b3600, .slice A3605 l3601.length c3606, .slice A3607 u3602.length c3608]) (d := 72) (by kernel_rfl) (by kernel_rfl) fun b3623 a3624 w3625 hb3626 hz3627 hF3628 hW3629 hE3630 => ?_)
        clear hE3619 hW3620
        have hT3631 : TT w3587 [⟨b3225, 0, [.int .i64 k3210, .int .i64 y3211, .int .i64 y3212, .int .i64 y3213, .int .i64 y3214, .int .i64 y3215, .int .i64 y3216, .slice A3218 l3217.length c3219], true⟩, ⟨b3233, 0, [.int .i64 n3190, .slice A3195 s3191.length c3196, .bool b3192, .slice A3197 l3193.length c3198, .slice A3199 u3194.length c3200], true⟩, ⟨b3241, 0, [.int .i64 0, .slice none 0 0, .bool false, .slice none 0 0, .slice none 0 0], true⟩, ⟨b3474, 0, [.int .i64 0, .slice none 0 0, .bool (((l3193.length : Nat) : Int) == 0), .slice A_ k c_, .slice none 0 0], true⟩, ⟨b3488, 0, [.int .i64 y3216, .int .i64 y3211, .int .i64 y3212, .int .i64 (-1), .int .i64 (-1), .int .i64 y3215, .int .i64 y3216, .slice A3218 l3217.length c3219], true⟩, ⟨b3575, 0, [.int .i64 n3551, .slice A3556 s3552.length c3557, .bool b3553, .slice A3558 l3554.length c3559, .slice A3560 u3555.length c3561], true⟩] [⟨A_, c_, 26, 5, k, xs⟩] w3625 := ⟨hW3629.cells, (Fr.trans hF3621 hF3628).step⟩
        refine ⟨fun _ => hT3631, ?_⟩
        refine anyC_op (i := 7) (by kernel_rfl) (wpOp_append hW3629 hE3630 (k := 0) (d := 73) (t := 23) (e := 26) (size := 5) (bytes := 88) (A := A_) (As := (some ⟨b3623, 0, none⟩)) (m0 := k) (c := c_) (m := 1) (cs := 1) (xs := xs) (news := [.int .i64 n3598, .slice A3603 s3599.length c3604, .bool b3600, .slice A3605 l3601.length c3606, .slice A3607 u3602.length c3608]) (by kernel_rfl) (by kernel_rfl) rfl (own_src (hW3629.own 1 _ rfl) (allOne_ok (by kernel_rfl))) (own_cap (hW3629.own 1 _ rfl)) (by omega) fun A3632 c3633 a3634 w3635 hF3636 hW3637 hE3638 => ?_)
        clear hE3630 hW3629
        have hT3639 : TT w3587 [⟨b3225, 0, [.int .i64 k3210, .int .i64 y3211, .int .i64 y3212, .int .i64 y3213, .int .i64 y3214, .int .i64 y3215, .int .i64 y3216, .slice A3218 l3217.length c3219], true⟩, ⟨b3233, 0, [.int .i64 n3190, .slice A3195 s3191.length c3196, .bool b3192, .slice A3197 l3193.length c3198, .slice A3199 u3194.length c3200], true⟩, ⟨b3241, 0, [.int .i64 0, .slice none 0 0, .bool false, .slice none 0 0, .slice none 0 0], true⟩, ⟨b3474, 0, [.int .i64 0, .slice none 0 0, .bool (((l3193.length : Nat) : Int) == 0), .slice A_ k c_, .slice none 0 0], true⟩, ⟨b3488, 0, [.int .i64 y3216, .int .i64 y3211, .int .i64 y3212, .int .i64 (-1), .int .i64 (-1), .int .i64 y3215, .int .i64 y3216, .slice A3218 l3217.length c3219], true⟩, ⟨b3575, 0, [.int .i64 n3551, .slice A3556 s3552.length c3557, .bool b3553, .slice A3558 l3554.length c3559, .slice A3560 u3555.length c3561], true⟩] [⟨A_, c_, 26, 5, k, xs⟩] w3635 := ⟨hW3637.cells, (Fr.trans (Fr.trans hF3621 hF3628) hF3636).step⟩
        refine ⟨fun _ => hT3639, ?_⟩
        refine go_runsD [8] [1, 6, 9, 10, 60, 61, 62, 73, 74] 1 (by kernel_rfl) (panicFree_block (panicFree_then (panicFree_then (panicFree_block (panicFree_then (panicFree_block (panicFree_then panicFree_body))))))) (fun _ h => h.cells) hT3639 hE3638 (by kernel_rfl) (env' := [(1, .v (.int .i64 v)), (6, .p 2 0), (9, .p 3 0), (10, .p 4 0), (60, .v (.slice A3197 ((things l3193).length) c3198)), (61, .v (.int .i64 (((things l3193).length : Nat) : Int))), (62, .v (.int .i64 ((k : Nat) : Int))), (73, .v (.slice A3632 (k + 1) c3633)), (74, .p 3 3)]) (by kernel_rfl) rfl fun a3640 hE3641 => ?_
        clear hE3638
        refine anyC_op (i := 9) (by kernel_rfl) (wpOp_store hW3637 hE3641 (oi := 3) (cs := [.int .i64 0, .slice none 0 0, .bool (((l3193.length : Nat) : Int) == 0), .slice A3632 (k + 1) c3633, .slice none 0 0]) (by kernel_rfl) fun w3642 hF3643 hW3644 hE3645 => ?_)
        clear hE3641 hW3637
        refine ⟨fun h => absurd rfl h, ?_⟩
        refine anyC_done (by kernel_rfl) ?_ _
        refine block_normal ?_
        refine then_normal ?_
        refine go_region [0, 1] (by kernel_rfl) ?_
        refine go_runs [0, 1] [] [1, 6, 9, 10, 60, 61, 62] hW3644 hE3645 (env' := [(1, .v (.int .i64 v)), (6, .p 2 0), (9, .p 3 0), (10, .p 4 0), (60, .v (.slice A3197 ((things l3193).length) c3198)), (61, .v (.int .i64 (((things l3193).length : Nat) : Int))), (62, .v (.int .i64 (IntKind.i64.wrap (((k : Nat) : Int) + 1))))]) (by kernel_rfl) rfl fun a3646 hE3647 => ?_
        clear hE3645
        refine wpOps_nil ?_
        refine then_normal ?_
        have hE3648 := EnvOk.pick hE3647 (ks := [1, 6, 9, 10, 60, 61, 62]) (env' := [(1, .v (.int .i64 v)), (6, .p 2 0), (9, .p 3 0), (10, .p 4 0), (60, .v (.slice A3197 ((things l3193).length) c3198)), (61, .v (.int .i64 (((things l3193).length : Nat) : Int))), (62, .v (.int .i64 (IntKind.i64.wrap (((k : Nat) : Int) + 1))))]) (by kernel_rfl)
        have hE3649 : EnvOk 82 [⟨b3225, 0, [.int .i64 k3210, .int .i64 y3211, .int .i64 y3212, .int .i64 y3213, .int .i64 y3214, .int .i64 y3215, .int .i64 y3216, .slice A3218 l3217.length c3219], true⟩, ⟨b3233, 0, [.int .i64 n3190, .slice A3195 s3191.length c3196, .bool b3192, .slice A3197 l3193.length c3198, .slice A3199 u3194.length c3200], true⟩, ⟨b3241, 0, [.int .i64 0, .slice none 0 0, .bool false, .slice none 0 0, .slice none 0 0], true⟩, ⟨b3474, 0, [.int .i64 0, .slice none 0 0, .bool (((l3193.length : Nat) : Int) == 0), .slice A3632 (k + 1) c3633, .slice none 0 0], true⟩, ⟨b3488, 0, [.int .i64 y3216, .int .i64 y3211, .int .i64 y3212, .int .i64 (-1), .int .i64 (-1), .int .i64 y3215, .int .i64 y3216, .slice A3218 l3217.length c3219], true⟩] _ _ := hE3648.cutTb 5 (by kernel_rfl)
        have hW3650 : WOk _ _ _ [⟨b3225, 0, [.int .i64 k3210, .int .i64 y3211, .int .i64 y3212, .int .i64 y3213, .int .i64 y3214, .int .i64 y3215, .int .i64 y3216, .slice A3218 l3217.length c3219], true⟩, ⟨b3233, 0, [.int .i64 n3190, .slice A3195 s3191.length c3196, .bool b3192, .slice A3197 l3193.length c3198, .slice A3199 u3194.length c3200], true⟩, ⟨b3241, 0, [.int .i64 0, .slice none 0 0, .bool false, .slice none 0 0, .slice none 0 0], true⟩, ⟨b3474, 0, [.int .i64 0, .slice none 0 0, .bool (((l3193.length : Nat) : Int) == 0), .slice A3632 (k + 1) c3633, .slice none 0 0], true⟩, ⟨b3488, 0, [.int .i64 y3216, .int .i64 y3211, .int .i64 y3212, .int .i64 (-1), .int .i64 (-1), .int .i64 y3215, .int .i64 y3216, .slice A3218 l3217.length c3219], true⟩] _ := hW3644.cutTb 5
        have hF3651 : Fr _ _ _ _ [⟨b3225, 0, [.int .i64 k3210, .int .i64 y3211, .int .i64 y3212, .int .i64 y3213, .int .i64 y3214, .int .i64 y3215, .int .i64 y3216, .slice A3218 l3217.length c3219], true⟩, ⟨b3233, 0, [.int .i64 n3190, .slice A3195 s3191.length c3196, .bool b3192, .slice A3197 l3193.length c3198, .slice A3199 u3194.length c3200], true⟩, ⟨b3241, 0, [.int .i64 0, .slice none 0 0, .bool false, .slice none 0 0, .slice none 0 0], true⟩, ⟨b3474, 0, [.int .i64 0, .slice none 0 0, .bool (((l3193.length : Nat) : Int) == 0), .slice A3632 (k + 1) c3633, .slice none 0 0], true⟩, ⟨b3488, 0, [.int .i64 y3216, .int .i64 y3211, .int .i64 y3212, .int .i64 (-1), .int .i64 (-1), .int .i64 y3215, .int .i64 y3216, .slice A3218 l3217.length c3219], true⟩] _ := Fr.cutTb w3642 [⟨b3225, 0, [.int .i64 k3210, .int .i64 y3211, .int .i64 y3212, .int .i64 y3213, .int .i64 y3214, .int .i64 y3215, .int .i64 y3216, .slice A3218 l3217.length c3219], true⟩, ⟨b3233, 0, [.int .i64 n3190, .slice A3195 s3191.length c3196, .bool b3192, .slice A3197 l3193.length c3198, .slice A3199 u3194.length c3200], true⟩, ⟨b3241, 0, [.int .i64 0, .slice none 0 0, .bool false, .slice none 0 0, .slice none 0 0], true⟩, ⟨b3474, 0, [.int .i64 0, .slice none 0 0, .bool (((l3193.length : Nat) : Int) == 0), .slice A3632 (k + 1) c3633, .slice none 0 0], true⟩, ⟨b3488, 0, [.int .i64 y3216, .int .i64 y3211, .int .i64 y3212, .int .i64 (-1), .int .i64 (-1), .int .i64 y3215, .int .i64 y3216, .slice A3218 l3217.length c3219], true⟩, ⟨b3575, 0, [.int .i64 n3551, .slice A3556 s3552.length c3557, .bool b3553, .slice A3558 l3554.length c3559, .slice A3560 u3555.length c3561], true⟩] [⟨A3632, c3633, 26, 5, k + 1, xs ++ [.int .i64 n3598, .slice A3603 s3599.length c3604, .bool b3600, .slice A3605 l3601.length c3606, .slice A3607 u3602.length c3608]⟩, ⟨some ⟨b3623, 0, none⟩, 1, 26, 5, 1, [.int .i64 n3598, .slice A3603 s3599.length c3604, .bool b3600, .slice A3605 l3601.length c3606, .slice A3607 u3602.length c3608]⟩] 5
        have hW3652 : WOk _ _ _ _ [⟨A3632, c3633, 26, 5, k + 1, xs ++ [.int .i64 n3598, .slice A3603 s3599.length c3604, .bool b3600, .slice A3605 l3601.length c3606, .slice A3607 u3602.length c3608]⟩] := hW3650.rows 1
        have hF3653 : Fr _ _ _ _ _ [⟨A3632, c3633, 26, 5, k + 1, xs ++ [.int .i64 n3598, .slice A3603 s3599.length c3604, .bool b3600, .slice A3605 l3601.length c3606, .slice A3607 u3602.length c3608]⟩] := Fr.rows w3642 [⟨b3225, 0, [.int .i64 k3210, .int .i64 y3211, .int .i64 y3212, .int .i64 y3213, .int .i64 y3214, .int .i64 y3215, .int .i64 y3216, .slice A3218 l3217.length c3219], true⟩, ⟨b3233, 0, [.int .i64 n3190, .slice A3195 s3191.length c3196, .bool b3192, .slice A3197 l3193.length c3198, .slice A3199 u3194.length c3200], true⟩, ⟨b3241, 0, [.int .i64 0, .slice none 0 0, .bool false, .slice none 0 0, .slice none 0 0], true⟩, ⟨b3474, 0, [.int .i64 0, .slice none 0 0, .bool (((l3193.length : Nat) : Int) == 0), .slice A3632 (k + 1) c3633, .slice none 0 0], true⟩, ⟨b3488, 0, [.int .i64 y3216, .int .i64 y3211, .int .i64 y3212, .int .i64 (-1), .int .i64 (-1), .int .i64 y3215, .int .i64 y3216, .slice A3218 l3217.length c3219], true⟩] [⟨A3632, c3633, 26, 5, k + 1, xs ++ [.int .i64 n3598, .slice A3603 s3599.length c3604, .bool b3600, .slice A3605 l3601.length c3606, .slice A3607 u3602.length c3608]⟩, ⟨some ⟨b3623, 0, none⟩, 1, 26, 5, 1, [.int .i64 n3598, .slice A3603 s3599.length c3604, .bool b3600, .slice A3605 l3601.length c3606, .slice A3607 u3602.length c3608]⟩] 1
        have hE3654 := EnvOk.pick hE3649 (ks := [1, 6, 9, 10, 60, 61, 62]) (env' := [(1, .v (.int .i64 v)), (6, .p 2 0), (9, .p 3 0), (10, .p 4 0), (60, .v (.slice A3197 ((things l3193).length) c3198)), (61, .v (.int .i64 (((things l3193).length : Nat) : Int))), (62, .v (.int .i64 (IntKind.i64.wrap (((k : Nat) : Int) + 1))))]) (by kernel_rfl)
        have he3655 : IntKind.i64.wrap (((k : Nat) : Int) + 1) = ((k + 1 : Nat) : Int) := wrap_succ (by omega)
        rw [he3655] at hE3654
        exact ⟨(things l3193).length - (k + 1), by omega, k + 1, A3632, c3633, xs ++ [Value.int .i64 n3598, .slice A3603 s3599.length c3604, .bool b3600, .slice A3605 l3601.length c3606, .slice A3607 u3602.length c3608], (css ++ [[Value.int .i64 n3598, .slice A3603 s3599.length c3604, .bool b3600, .slice A3605 l3601.length c3606, .slice A3607 u3602.length c3608]]), rfl, by omega, by rw [take_succ_of (fitL_get (p := fitT v d) (v := v) (f := (Fld.mk y3216 y3211 y3212 (-1) (-1) y3215 y3216 l3217)) he3549)]; exact (hT.move (Fr.trans (Fr.trans (Fr.trans (Fr.trans (Fr.trans (Fr.trans (Fr.trans (Fr.trans hF3580 hF3584) hF3588) hF3621) hF3628) hF3636) hF3643) hF3651) hF3653).step immM (Fr.trans (Fr.trans (Fr.trans (Fr.trans (Fr.trans (Fr.trans (Fr.trans (Fr.trans hF3580 hF3584) hF3588) hF3621) hF3628) hF3636) hF3643) hF3651) hF3653).to').snoc (hr3597.move (Fr.trans (Fr.trans (Fr.trans (Fr.trans hF3628 hF3636) hF3643) hF3651) hF3653).step immM (Fr.trans (Fr.trans (Fr.trans (Fr.trans hF3628 hF3636) hF3643) hF3651) hF3653).to'), hE3654, hW3652, (Fr.trans (Fr.trans (Fr.trans (Fr.trans (Fr.trans (Fr.trans (Fr.trans (Fr.trans (Fr.trans hF3537 hF3580) hF3584) hF3588) hF3621) hF3628) hF3636) hF3643) hF3651) hF3653)⟩
      ·
        have hf3656 := of_decide_eq_false hc3541
        refine wp_exit ?_
        refine then_exit ?_
        refine then_exit ?_
        refine block_exit ?_
        refine then_normal ?_
        refine go_seq_region [0, 1] (by kernel_rfl) ?_
        refine go_runs [0] [1] [6, 76] hW3534 hE3540 (env' := [(6, .p 2 0), (76, .v (.agg #[.int .i64 0, .slice none 0 0, .bool (((l3193.length : Nat) : Int) == 0), .slice A_ k c_, .slice none 0 0]))]) (by kernel_rfl) rfl fun a3657 hE3658 => ?_
        clear hE3540
        refine of_op (wpOp_store hW3534 hE3658 (oi := 2) (cs := [.int .i64 0, .slice none 0 0, .bool (((l3193.length : Nat) : Int) == 0), .slice A_ k c_, .slice none 0 0]) (by kernel_rfl) fun w3659 hF3660 hW3661 hE3662 => ?_)
        clear hE3658 hW3534
        refine wpOps_nil ?_
        refine then_normal ?_
        refine wp_ret ?_
        refine block_ret ?_
        refine then_ret ?_
        refine leave hE3662 hW3661.cells (v := .agg #[.int .i64 0, .slice none 0 0, .bool (((l3193.length : Nat) : Int) == 0), .slice A_ k c_, .slice none 0 0]) (by kernel_rfl) ?_
        have hk0 : k = (fitL (fitT v d) v (Fld.mk y3216 y3211 y3212 (-1) (-1) y3215 y3216 l3217) l3193).length := by rw [fitL_len]; omega
        have hT' := (hT.move hF3660.step immM hF3660.to')
        rw [show (fitL (fitT v d) v (Fld.mk y3216 y3211 y3212 (-1) (-1) y3215 y3216 l3217) l3193).take k = (fitL (fitT v d) v (Fld.mk y3216 y3211 y3212 (-1) (-1) y3215 y3216 l3217) l3193) by rw [hk0, List.take_length]] at hT'
        exact tree_end hW3661 rfl (Octs.nil _ _) hk0 (trees_fp hW3661 (k := 0) rfl hT' hk0 (by rw [fitL_len]; omega)) rfl (TagsR.nil _ _) (fittedW_11 hk11 (by simp only [hc3271, hc3469]; try simp))
    ·
      have hf3663 := of_decide_eq_false hc3469
      have hE3664 := hE3468.cast (env' := [(1, .v (.int .i64 v)), (3, .p 0 0), (5, .p 1 0), (6, .p 2 0), (40, .v (.bool false)), (44, .v (.bool false))]) (by rw [hc3469])
      clear hE3468
      refine go_runs [6, 7, 8, 9, 10, 11, 12] [13, 14] [1, 3, 5, 6, 51] hW3255 hE3664 (env' := [(1, .v (.int .i64 v)), (3, .p 0 0), (5, .p 1 0), (6, .p 2 0), (51, .v (.agg #[.int .i64 0, .slice none 0 0, .bool false, .slice none 0 0, .slice none 0 0]))]) (by kernel_rfl) rfl fun a3665 hE3666 => ?_
      clear hE3664
      refine of_op (wpOp_alloc hW3255 hE3666 (d := 9) (cs := [.int .i64 0, .slice none 0 0, .bool false, .slice none 0 0, .slice none 0 0]) (by kernel_rfl) fun b3667 a3668 w3669 hb3670 hz3671 hF3672 hW3673 hE3674 => ?_)
      clear hE3666 hW3255
      refine of_op (wpOp_store hW3673 hE3674 (oi := 3) (cs := [.int .i64 0, .slice none 0 0, .bool false, .slice none 0 0, .slice none 0 0]) (by kernel_rfl) fun w3675 hF3676 hW3677 hE3678 => ?_)
      clear hE3674 hW3673
      refine wpOps_nil ?_
      refine then_normal ?_
      refine go_seq_region [0, 1, 2] (by kernel_rfl) ?_
      refine go_runs [0] [1, 2] [1, 3, 5, 6, 9, 52] hW3677 hE3678 (env' := [(1, .v (.int .i64 v)), (3, .p 0 0), (5, .p 1 0), (6, .p 2 0), (9, .p 3 0), (52, .v (.agg #[.int .i64 k3210, .int .i64 y3211, .int .i64 y3212, .int .i64 y3213, .int .i64 y3214, .int .i64 y3215, .int .i64 y3216, .slice A3218 l3217.length c3219]))]) (by kernel_rfl) rfl fun a3679 hE3680 => ?_
      clear hE3678
      refine of_op (wpOp_alloc hW3677 hE3680 (d := 10) (cs := [.int .i64 0, .int .i64 0, .int .i64 0, .int .i64 0, .int .i64 0, .int .i64 0, .int .i64 0, .slice none 0 0]) (by kernel_rfl) fun b3681 a3682 w3683 hb3684 hz3685 hF3686 hW3687 hE3688 => ?_)
      clear hE3680 hW3677
      refine of_op (wpOp_store hW3687 hE3688 (oi := 4) (cs := [.int .i64 k3210, .int .i64 y3211, .int .i64 y3212, .int .i64 y3213, .int .i64 y3214, .int .i64 y3215, .int .i64 y3216, .slice A3218 l3217.length c3219]) (by kernel_rfl) fun w3689 hF3690 hW3691 hE3692 => ?_)
      clear hE3688 hW3687
      refine wpOps_nil ?_
      refine then_normal ?_
      refine go_seq_region [0, 1, 2, 3, 4, 5, 6, 7] (by kernel_rfl) ?_
      refine go_runs [0, 1, 2] [3, 4, 5, 6, 7] [1, 5, 6, 9, 10, 54, 55] hW3691 hE3692 (env' := [(1, .v (.int .i64 v)), (5, .p 1 0), (6, .p 2 0), (9, .p 3 0), (10, .p 4 0), (54, .v (.int .i64 y3216)), (55, .p 4 0)]) (by kernel_rfl) rfl fun a3693 hE3694 => ?_
      clear hE3692
      refine of_op (wpOp_store hW3691 hE3694 (oi := 4) (cs := [.int .i64 y3216, .int .i64 y3211, .int .i64 y3212, .int .i64 y3213, .int .i64 y3214, .int .i64 y3215, .int .i64 y3216, .slice A3218 l3217.length c3219]) (by kernel_rfl) fun w3695 hF3696 hW3697 hE3698 => ?_)
      clear hE3694 hW3691
      refine go_runs [4] [5, 6, 7] [1, 5, 6, 9, 10, 56] hW3697 hE3698 (env' := [(1, .v (.int .i64 v)), (5, .p 1 0), (6, .p 2 0), (9, .p 3 0), (10, .p 4 0), (56, .p 4 3)]) (by kernel_rfl) rfl fun a3699 hE3700 => ?_
      clear hE3698
      refine of_op (wpOp_store hW3697 hE3700 (oi := 4) (cs := [.int .i64 y3216, .int .i64 y3211, .int .i64 y3212, .int .i64 (-1), .int .i64 y3214, .int .i64 y3215, .int .i64 y3216, .slice A3218 l3217.length c3219]) (by kernel_rfl) fun w3701 hF3702 hW3703 hE3704 => ?_)
      clear hE3700 hW3697
      refine go_runs [6] [7] [1, 5, 6, 9, 10, 57] hW3703 hE3704 (env' := [(1, .v (.int .i64 v)), (5, .p 1 0), (6, .p 2 0), (9, .p 3 0), (10, .p 4 0), (57, .p 4 4)]) (by kernel_rfl) rfl fun a3705 hE3706 => ?_
      clear hE3704
      refine of_op (wpOp_store hW3703 hE3706 (oi := 4) (cs := [.int .i64 y3216, .int .i64 y3211, .int .i64 y3212, .int .i64 (-1), .int .i64 (-1), .int .i64 y3215, .int .i64 y3216, .slice A3218 l3217.length c3219]) (by kernel_rfl) fun w3707 hF3708 hW3709 hE3710 => ?_)
      clear hE3706 hW3703
      refine wpOps_nil ?_
      refine then_normal ?_
      refine wp_seq ?_
      refine go_seq_region [0, 1, 2, 3, 4] (by kernel_rfl) ?_
      refine go_runs [0, 1] [2, 3, 4] [1, 6, 9, 10, 59] hW3709 hE3710 (env' := [(1, .v (.int .i64 v)), (6, .p 2 0), (9, .p 3 0), (10, .p 4 0), (59, .v (.slice A3197 l3193.length c3198))]) (by kernel_rfl) rfl fun a3711 hE3712 => ?_
      clear hE3710
      refine of_op (wpOp_call hE3712 (f := 104) (vs := [.slice A3197 l3193.length c3198]) (d := 60) (by kernel_rfl) Try.call104 (sThings _ _ l3193 (h3204.move hW3709.step nilM hW3709.imm).le _) ?_)
      rintro e_ w3714 ⟨rfl, hs3713⟩
      refine ⟨_, rfl, fun a3715 hE3716 => ?_⟩
      have hW3717 := hW3709.next_nil hs3713
      have hF3718 := Fr.nil [⟨b3225, 0, [.int .i64 k3210, .int .i64 y3211, .int .i64 y3212, .int .i64 y3213, .int .i64 y3214, .int .i64 y3215, .int .i64 y3216, .slice A3218 l3217.length c3219], true⟩, ⟨b3233, 0, [.int .i64 n3190, .slice A3195 s3191.length c3196, .bool b3192, .slice A3197 l3193.length c3198, .slice A3199 u3194.length c3200], true⟩, ⟨b3241, 0, [.int .i64 0, .slice none 0 0, .bool false, .slice none 0 0, .slice none 0 0], true⟩, ⟨b3667, 0, [.int .i64 0, .slice none 0 0, .bool false, .slice none 0 0, .slice none 0 0], true⟩, ⟨b3681, 0, [.int .i64 y3216, .int .i64 y3211, .int .i64 y3212, .int .i64 (-1), .int .i64 (-1), .int .i64 y3215, .int .i64 y3216, .slice A3218 l3217.length c3219], true⟩] [] hs3713
      clear hE3712 hW3709
      refine go_runs [3, 4] [] [1, 6, 9, 10, 60, 61, 62] hW3717 hE3716 (env' := [(1, .v (.int .i64 v)), (6, .p 2 0), (9, .p 3 0), (10, .p 4 0), (60, .v (.slice A3197 ((things l3193).length) c3198)), (61, .v (.int .i64 (((things l3193).length : Nat) : Int))), (62, .v (.int .i64 0))]) (by kernel_rfl) rfl fun a3719 hE3720 => ?_
      clear hE3716
      refine wpOps_nil ?_
      refine then_normal ?_
      refine wp_block ?_
      have hW3721 := hW3717.addNil 26 5
      have hF3722 := Fr.addNil w3714 [⟨b3225, 0, [.int .i64 k3210, .int .i64 y3211, .int .i64 y3212, .int .i64 y3213, .int .i64 y3214, .int .i64 y3215, .int .i64 y3216, .slice A3218 l3217.length c3219], true⟩, ⟨b3233, 0, [.int .i64 n3190, .slice A3195 s3191.length c3196, .bool b3192, .slice A3197 l3193.length c3198, .slice A3199 u3194.length c3200], true⟩, ⟨b3241, 0, [.int .i64 0, .slice none 0 0, .bool false, .slice none 0 0, .slice none 0 0], true⟩, ⟨b3667, 0, [.int .i64 0, .slice none 0 0, .bool false, .slice none 0 0, .slice none 0 0], true⟩, ⟨b3681, 0, [.int .i64 y3216, .int .i64 y3211, .int .i64 y3212, .int .i64 (-1), .int .i64 (-1), .int .i64 y3215, .int .i64 y3216, .slice A3218 l3217.length c3219], true⟩] [] 26 5
      clear hW3717
      have hsm3 : (things l3193).length ≤ 32767 := things_le _
      have hE3731 := EnvOk.pick hE3720 (ks := [1, 6, 9, 10, 60, 61, 62]) (env' := [(1, .v (.int .i64 v)), (6, .p 2 0), (9, .p 3 0), (10, .p 4 0), (60, .v (.slice A3197 ((things l3193).length) c3198)), (61, .v (.int .i64 (((things l3193).length : Nat) : Int))), (62, .v (.int .i64 0))]) (by kernel_rfl)
      refine wp_loop_ghost (fun n_ a_ w_ => ∃ (k : Nat) (A_ : Option Addr) (c_ : Nat) (xs : List Value) (css : List (List Value)), n_ = (things l3193).length - k ∧ k ≤ (things l3193).length ∧ (Trees w_ (Imm F w w_ [⟨b3225, 0, [.int .i64 k3210, .int .i64 y3211, .int .i64 y3212, .int .i64 y3213, .int .i64 y3214, .int .i64 y3215, .int .i64 y3216, .slice A3218 l3217.length c3219], true⟩, ⟨b3233, 0, [.int .i64 n3190, .slice A3195 s3191.length c3196, .bool b3192, .slice A3197 l3193.length c3198, .slice A3199 u3194.length c3200], true⟩, ⟨b3241, 0, [.int .i64 0, .slice none 0 0, .bool false, .slice none 0 0, .slice none 0 0], true⟩, ⟨b3667, 0, [.int .i64 0, .slice none 0 0, .bool false, .slice A_ k c_, .slice none 0 0], true⟩, ⟨b3681, 0, [.int .i64 y3216, .int .i64 y3211, .int .i64 y3212, .int .i64 (-1), .int .i64 (-1), .int .i64 y3215, .int .i64 y3216, .slice A3218 l3217.length c3219], true⟩] [⟨A_, c_, 26, 5, k, xs⟩]) xs ((fitL (fitT v d) v (Fld.mk y3216 y3211 y3212 (-1) (-1) y3215 y3216 l3217) l3193).take k) css) ∧ EnvOk 82 [⟨b3225, 0, [.int .i64 k3210, .int .i64 y3211, .int .i64 y3212, .int .i64 y3213, .int .i64 y3214, .int .i64 y3215, .int .i64 y3216, .slice A3218 l3217.length c3219], true⟩, ⟨b3233, 0, [.int .i64 n3190, .slice A3195 s3191.length c3196, .bool b3192, .slice A3197 l3193.length c3198, .slice A3199 u3194.length c3200], true⟩, ⟨b3241, 0, [.int .i64 0, .slice none 0 0, .bool false, .slice none 0 0, .slice none 0 0], true⟩, ⟨b3667, 0, [.int .i64 0, .slice none 0 0, .bool false, .slice A_ k c_, .slice none 0 0], true⟩, ⟨b3681, 0, [.int .i64 y3216, .int .i64 y3211, .int .i64 y3212, .int .i64 (-1), .int .i64 (-1), .int .i64 y3215, .int .i64 y3216, .slice A3218 l3217.length c3219], true⟩] [(1, .v (.int .i64 v)), (6, .p 2 0), (9, .p 3 0), (10, .p 4 0), (60, .v (.slice A3197 ((things l3193).length) c3198)), (61, .v (.int .i64 (((things l3193).length : Nat) : Int))), (62, .v (.int .i64 ((k : Nat) : Int)))] a_ ∧ WOk w Nil w_ [⟨b3225, 0, [.int .i64 k3210, .int .i64 y3211, .int .i64 y3212, .int .i64 y3213, .int .i64 y3214, .int .i64 y3215, .int .i64 y3216, .slice A3218 l3217.length c3219], true⟩, ⟨b3233, 0, [.int .i64 n3190, .slice A3195 s3191.length c3196, .bool b3192, .slice A3197 l3193.length c3198, .slice A3199 u3194.length c3200], true⟩, ⟨b3241, 0, [.int .i64 0, .slice none 0 0, .bool false, .slice none 0 0, .slice none 0 0], true⟩, ⟨b3667, 0, [.int .i64 0, .slice none 0 0, .bool false, .slice A_ k c_, .slice none 0 0], true⟩, ⟨b3681, 0, [.int .i64 y3216, .int .i64 y3211, .int .i64 y3212, .int .i64 (-1), .int .i64 (-1), .int .i64 y3215, .int .i64 y3216, .slice A3218 l3217.length c3219], true⟩] [⟨A_, c_, 26, 5, k, xs⟩] ∧ Fr w3714 [⟨b3225, 0, [.int .i64 k3210, .int .i64 y3211, .int .i64 y3212, .int .i64 y3213, .int .i64 y3214, .int .i64 y3215, .int .i64 y3216, .slice A3218 l3217.length c3219], true⟩, ⟨b3233, 0, [.int .i64 n3190, .slice A3195 s3191.length c3196, .bool b3192, .slice A3197 l3193.length c3198, .slice A3199 u3194.length c3200], true⟩, ⟨b3241, 0, [.int .i64 0, .slice none 0 0, .bool false, .slice none 0 0, .slice none 0 0], true⟩, ⟨b3667, 0, [.int .i64 0, .slice none 0 0, .bool false, .slice none 0 0, .slice none 0 0], true⟩, ⟨b3681, 0, [.int .i64 y3216, .int .i64 y3211, .int .i64 y3212, .int .i64 (-1), .int .i64 (-1), .int .i64 y3215, .int .i64 y3216, .slice A3218 l3217.length c3219], true⟩] [⟨none, 0, 26, 5, 0, []⟩] w_ [⟨b3225, 0, [.int .i64 k3210, .int .i64 y3211, .int .i64 y3212, .int .i64 y3213, .int .i64 y3214, .int .i64 y3215, .int .i64 y3216, .slice A3218 l3217.length c3219], true⟩, ⟨b3233, 0, [.int .i64 n3190, .slice A3195 s3191.length c3196, .bool b3192, .slice A3197 l3193.length c3198, .slice A3199 u3194.length c3200], true⟩, ⟨b3241, 0, [.int .i64 0, .slice none 0 0, .bool false, .slice none 0 0, .slice none 0 0], true⟩, ⟨b3667, 0, [.int .i64 0, .slice none 0 0, .bool false, .slice A_ k c_, .slice none 0 0], true⟩, ⟨b3681, 0, [.int .i64 y3216, .int .i64 y3211, .int .i64 y3212, .int .i64 (-1), .int .i64 (-1), .int .i64 y3215, .int .i64 y3216, .slice A3218 l3217.length c3219], true⟩] [⟨A_, c_, 26, 5, k, xs⟩]) ((things l3193).length) ⟨0, none, 0, [], [], by omega, by omega, Trees.nil _ _, hE3731, hW3721, Fr.refl _ _ _⟩ ?_
      clear hE3731 hE3720 hW3721
      rintro n3723 a3724 w3725 ⟨k, A_, c_, xs, css, hn3728, hk3729, hT, hE3726, hW3727, hF3730⟩
      refine go_seq_region [0] (by kernel_rfl) ?_
      refine go_runs [0] [] [1, 6, 9, 10, 60, 61, 62, 63] hW3727 hE3726 (env' := [(1, .v (.int .i64 v)), (6, .p 2 0), (9, .p 3 0), (10, .p 4 0), (60, .v (.slice A3197 ((things l3193).length) c3198)), (61, .v (.int .i64 (((things l3193).length : Nat) : Int))), (62, .v (.int .i64 ((k : Nat) : Int))), (63, .v (.bool (decide (((k : Nat) : Int) < (((things l3193).length : Nat) : Int)))))]) (by kernel_rfl) rfl fun a3732 hE3733 => ?_
      clear hE3726
      refine wpOps_nil ?_
      refine then_normal ?_
      refine wp_seq ?_
      refine cond_of hE3733 (b := decide (((k : Nat) : Int) < (((things l3193).length : Nat) : Int))) (by kernel_rfl) (fun hc3734 => ?_) (fun hc3734 => ?_)
      ·
        have hf3735 := of_decide_eq_true hc3734
        refine wp_skip ?_
        refine then_normal ?_
        refine wp_seq ?_
        refine wp_block ?_
        refine go_seq_region [0, 1, 2, 3] (by kernel_rfl) ?_
        obtain ⟨b3736, o3737, hA3738, hl3739, hat3740⟩ := Slots.get (things_slots h3204) (i := k) (by omega)
        obtain ⟨x3741, he3742⟩ : ∃ x, (things l3193)[k]? = some x := ⟨_, List.getElem?_eq_getElem (by omega)⟩
        have hr3743 := (things_each h3205) k x3741 he3742
        obtain ⟨n3744, s3745, b3746, l3747, u3748, A3749, c3750, A3751, c3752, A3753, c3754, xs3755, rfl, hcs3756, h3757, h3758, h3759, h3760⟩ := hr3743.open_
        rw [hcs3756] at hr3743
        have hsm3762 := h3757.small
        have hsm3763 := h3758.small
        rw [hcs3756] at hat3740
        refine of_op (wpOp_index hE3733 (t := 23) (A := A3197) (m := (things l3193).length) (q := ((k : Nat) : Int)) (d := 64) (by kernel_rfl) (e := 26) (size := 5) (bytes := 88) (by kernel_rfl) hA3738 rfl (by omega) fun a3764 hE3765 => ?_)
        clear hE3733
        refine of_op (wpOp_load hE3765 (t := 26) (b := b3736) (o := o3737 + k * 5) (d := 65) (by kernel_rfl) (cs := [.int .i64 n3744, .slice A3749 s3745.length c3750, .bool b3746, .slice A3751 l3747.length c3752, .slice A3753 u3748.length c3754]) (v := .agg #[.int .i64 n3744, .slice A3749 s3745.length c3750, .bool b3746, .slice A3751 l3747.length c3752, .slice A3753 u3748.length c3754]) (by kernel_rfl) (AtF.move hat3740 hW3727.step nilM keepF).at_ fun a3766 hE3767 => ?_)
        clear hE3765
        refine of_op (wpOp_alloc hW3727 hE3767 (d := 12) (cs := [.int .i64 0, .slice none 0 0, .bool false, .slice none 0 0, .slice none 0 0]) (by kernel_rfl) fun b3768 a3769 w3770 hb3771 hz3772 hF3773 hW3774 hE3775 => ?_)
        clear hE3767 hW3727
        refine of_op (wpOp_store hW3774 hE3775 (oi := 5) (cs := [.int .i64 n3744, .slice A3749 s3745.length c3750, .bool b3746, .slice A3751 l3747.length c3752, .slice A3753 u3748.length c3754]) (by kernel_rfl) fun w3776 hF3777 hW3778 hE3779 => ?_)
        clear hE3775 hW3774
        refine wpOps_nil ?_
        refine then_normal ?_
        refine go_drawK 9 (by kernel_rfl) hW3778 fun w3780 hF3781 hW3782 hT3783 => ?_
        clear hW3778
        refine go_runsD [0, 1, 2, 3, 4] [1, 6, 9, 10, 60, 61, 62, 67, 68, 69, 70] 5 (by kernel_rfl) (panicFree_block (panicFree_then (panicFree_then (panicFree_block (panicFree_then (panicFree_block (panicFree_then panicFree_body))))))) (fun _ h => h.cells) hT3783 hE3779 (by kernel_rfl) (env' := [(1, .v (.int .i64 v)), (6, .p 2 0), (9, .p 3 0), (10, .p 4 0), (60, .v (.slice A3197 ((things l3193).length) c3198)), (61, .v (.int .i64 (((things l3193).length : Nat) : Int))), (62, .v (.int .i64 ((k : Nat) : Int))), (67, .v (.slice A_ k c_)), (68, .v (.agg #[.int .i64 y3216, .int .i64 y3211, .int .i64 y3212, .int .i64 (-1), .int .i64 (-1), .int .i64 y3215, .int .i64 y3216, .slice A3218 l3217.length c3219])), (69, .v (.int .i64 v)), (70, .v (.agg #[.int .i64 n3744, .slice A3749 s3745.length c3750, .bool b3746, .slice A3751 l3747.length c3752, .slice A3753 u3748.length c3754]))]) (by kernel_rfl) rfl fun a3784 hE3785 => ?_
        clear hE3779
        refine anyC_op (i := 5) (by kernel_rfl) (wpOp_call hE3785 (f := 47) (vs := [.agg #[.int .i64 y3216, .int .i64 y3211, .int .i64 y3212, .int .i64 (-1), .int .i64 (-1), .int .i64 y3215, .int .i64 y3216, .slice A3218 l3217.length c3219], .int .i64 v, .agg #[.int .i64 n3744, .slice A3749 s3745.length c3750, .bool b3746, .slice A3751 l3747.length c3752, .slice A3753 u3748.length c3754]]) (d := 71) (by kernel_rfl) Try.call47 ( sFitted0 hfit _ (Fld.mk y3216 y3211 y3212 (-1) (-1) y3215 y3216 l3217) v _ (Tree.mk n3744 s3745 b3746 l3747 u3748) _ _ (FldR.mk (l := l3217) xs3220 (h3222.move hW3782.step nilM hW3782.imm) (fun i_ x_ h_ => ((h3223 i_ x_ h_).move hW3782.step nilM hW3782.imm))) hpl.2 hd hof (hr3743.move hW3782.step nilM hW3782.imm)) ?_)
        rintro e_ w3789 ⟨cs3788, rfl, hr3787, hs3786⟩
        have hr3790 := hr3787.move (Step.refl _ Nil) nilM (hW3782.laid (G := F) hs3786)
        obtain ⟨n3791, s3792, b3793, l3794, u3795, A3796, c3797, A3798, c3799, A3800, c3801, xs3802, ht3808, hcs3803, h3804, h3805, h3806, h3807⟩ := hr3790.open_
        rw [hcs3803] at hr3790
        have hsm3809 := h3804.small
        have hsm3810 := h3805.small
        rw [hcs3803]
        refine ⟨_, rfl, fun a3811 hE3812 => ?_⟩
        have hW3813 := hW3782.next_nil hs3786
        have hF3814 := Fr.nil [⟨b3225, 0, [.int .i64 k3210, .int .i64 y3211, .int .i64 y3212, .int .i64 y3213, .int .i64 y3214, .int .i64 y3215, .int .i64 y3216, .slice A3218 l3217.length c3219], true⟩, ⟨b3233, 0, [.int .i64 n3190, .slice A3195 s3191.length c3196, .bool b3192, .slice A3197 l3193.length c3198, .slice A3199 u3194.length c3200], true⟩, ⟨b3241, 0, [.int .i64 0, .slice none 0 0, .bool false, .slice none 0 0, .slice none 0 0], true⟩, ⟨b3667, 0, [.int .i64 0, .slice none 0 0, .bool false, .slice A_ k c_, .slice none 0 0], true⟩, ⟨b3681, 0, [.int .i64 y3216, .int .i64 y3211, .int .i64 y3212, .int .i64 (-1), .int .i64 (-1), .int .i64 y3215, .int .i64 y3216, .slice A3218 l3217.length c3219], true⟩, ⟨b3768, 0, [.int .i64 n3744, .slice A3749 s3745.length c3750, .bool b3746, .slice A3751 l3747.length c3752, .slice A3753 u3748.length c3754], true⟩] [⟨A_, c_, 26, 5, k, xs⟩] hs3786
        clear hE3785
        have hT3815 : TT w3780 [⟨b3225, 0, [.int .i64 k3210, .int .i64 y3211, .int .i64 y3212, .int .i64 y3213, .int .i64 y3214, .int .i64 y3215, .int .i64 y3216, .slice A3218 l3217.length c3219], true⟩, ⟨b3233, 0, [.int .i64 n3190, .slice A3195 s3191.length c3196, .bool b3192, .slice A3197 l3193.length c3198, .slice A3199 u3194.length c3200], true⟩, ⟨b3241, 0, [.int .i64 0, .slice none 0 0, .bool false, .slice none 0 0, .slice none 0 0], true⟩, ⟨b3667, 0, [.int .i64 0, .slice none 0 0, .bool false, .slice A_ k c_, .slice none 0 0], true⟩, ⟨b3681, 0, [.int .i64 y3216, .int .i64 y3211, .int .i64 y3212, .int .i64 (-1), .int .i64 (-1), .int .i64 y3215, .int .i64 y3216, .slice A3218 l3217.length c3219], true⟩, ⟨b3768, 0, [.int .i64 n3744, .slice A3749 s3745.length c3750, .bool b3746, .slice A3751 l3747.length c3752, .slice A3753 u3748.length c3754], true⟩] [⟨A_, c_, 26, 5, k, xs⟩] w3789 := ⟨hW3813.cells, hF3814.step⟩
        refine ⟨fun _ => hT3815, ?_⟩
        refine anyC_op (i := 6) (by kernel_rfl) (wpOp_lit hW3813 hE3812 (e := 26) (size := 5) (len := 1) (cs := [.int .i64 n3791, .slice A3796 s3792.length c3797, .bool b3793, .slice A3798 l3794.length c3799, .slice A3800 u3795.length c3801]) (d := 72) (by kernel_rfl) (by kernel_rfl) fun b3816 a3817 w3818 hb3819 hz3820 hF3821 hW3822 hE3823 => ?_)
        clear hE3812 hW3813
        have hT3824 : TT w3780 [⟨b3225, 0, [.int .i64 k3210, .int .i64 y3211, .int .i64 y3212, .int .i64 y3213, .int .i64 y3214, .int .i64 y3215, .int .i64 y3216, .slice A3218 l3217.length c3219], true⟩, ⟨b3233, 0, [.int .i64 n3190, .slice A3195 s3191.length c3196, .bool b3192, .slice A3197 l3193.length c3198, .slice A3199 u3194.length c3200], true⟩, ⟨b3241, 0, [.int .i64 0, .slice none 0 0, .bool false, .slice none 0 0, .slice none 0 0], true⟩, ⟨b3667, 0, [.int .i64 0, .slice none 0 0, .bool false, .slice A_ k c_, .slice none 0 0], true⟩, ⟨b3681, 0, [.int .i64 y3216, .int .i64 y3211, .int .i64 y3212, .int .i64 (-1), .int .i64 (-1), .int .i64 y3215, .int .i64 y3216, .slice A3218 l3217.length c3219], true⟩, ⟨b3768, 0, [.int .i64 n3744, .slice A3749 s3745.length c3750, .bool b3746, .slice A3751 l3747.length c3752, .slice A3753 u3748.length c3754], true⟩] [⟨A_, c_, 26, 5, k, xs⟩] w3818 := ⟨hW3822.cells, (Fr.trans hF3814 hF3821).step⟩
        refine ⟨fun _ => hT3824, ?_⟩
        refine anyC_op (i := 7) (by kernel_rfl) (wpOp_append hW3822 hE3823 (k := 0) (d := 73) (t := 23) (e := 26) (size := 5) (bytes := 88) (A := A_) (As := (some ⟨b3816, 0, none⟩)) (m0 := k) (c := c_) (m := 1) (cs := 1) (xs := xs) (news := [.int .i64 n3791, .slice A3796 s3792.length c3797, .bool b3793, .slice A3798 l3794.length c3799, .slice A3800 u3795.length c3801]) (by kernel_rfl) (by kernel_rfl) rfl (own_src (hW3822.own 1 _ rfl) (allOne_ok (by kernel_rfl))) (own_cap (hW3822.own 1 _ rfl)) (by omega) fun A3825 c3826 a3827 w3828 hF3829 hW3830 hE3831 => ?_)
        clear hE3823 hW3822
        have hT3832 : TT w3780 [⟨b3225, 0, [.int .i64 k3210, .int .i64 y3211, .int .i64 y3212, .int .i64 y3213, .int .i64 y3214, .int .i64 y3215, .int .i64 y3216, .slice A3218 l3217.length c3219], true⟩, ⟨b3233, 0, [.int .i64 n3190, .slice A3195 s3191.length c3196, .bool b3192, .slice A3197 l3193.length c3198, .slice A3199 u3194.length c3200], true⟩, ⟨b3241, 0, [.int .i64 0, .slice none 0 0, .bool false, .slice none 0 0, .slice none 0 0], true⟩, ⟨b3667, 0, [.int .i64 0, .slice none 0 0, .bool false, .slice A_ k c_, .slice none 0 0], true⟩, ⟨b3681, 0, [.int .i64 y3216, .int .i64 y3211, .int .i64 y3212, .int .i64 (-1), .int .i64 (-1), .int .i64 y3215, .int .i64 y3216, .slice A3218 l3217.length c3219], true⟩, ⟨b3768, 0, [.int .i64 n3744, .slice A3749 s3745.length c3750, .bool b3746, .slice A3751 l3747.length c3752, .slice A3753 u3748.length c3754], true⟩] [⟨A_, c_, 26, 5, k, xs⟩] w3828 := ⟨hW3830.cells, (Fr.trans (Fr.trans hF3814 hF3821) hF3829).step⟩
        refine ⟨fun _ => hT3832, ?_⟩
        refine go_runsD [8] [1, 6, 9, 10, 60, 61, 62, 73, 74] 1 (by kernel_rfl) (panicFree_block (panicFree_then (panicFree_then (panicFree_block (panicFree_then (panicFree_block (panicFree_then panicFree_body))))))) (fun _ h => h.cells) hT3832 hE3831 (by kernel_rfl) (env' := [(1, .v (.int .i64 v)), (6, .p 2 0), (9, .p 3 0), (10, .p 4 0), (60, .v (.slice A3197 ((things l3193).length) c3198)), (61, .v (.int .i64 (((things l3193).length : Nat) : Int))), (62, .v (.int .i64 ((k : Nat) : Int))), (73, .v (.slice A3825 (k + 1) c3826)), (74, .p 3 3)]) (by kernel_rfl) rfl fun a3833 hE3834 => ?_
        clear hE3831
        refine anyC_op (i := 9) (by kernel_rfl) (wpOp_store hW3830 hE3834 (oi := 3) (cs := [.int .i64 0, .slice none 0 0, .bool false, .slice A3825 (k + 1) c3826, .slice none 0 0]) (by kernel_rfl) fun w3835 hF3836 hW3837 hE3838 => ?_)
        clear hE3834 hW3830
        refine ⟨fun h => absurd rfl h, ?_⟩
        refine anyC_done (by kernel_rfl) ?_ _
        refine block_normal ?_
        refine then_normal ?_
        refine go_region [0, 1] (by kernel_rfl) ?_
        refine go_runs [0, 1] [] [1, 6, 9, 10, 60, 61, 62] hW3837 hE3838 (env' := [(1, .v (.int .i64 v)), (6, .p 2 0), (9, .p 3 0), (10, .p 4 0), (60, .v (.slice A3197 ((things l3193).length) c3198)), (61, .v (.int .i64 (((things l3193).length : Nat) : Int))), (62, .v (.int .i64 (IntKind.i64.wrap (((k : Nat) : Int) + 1))))]) (by kernel_rfl) rfl fun a3839 hE3840 => ?_
        clear hE3838
        refine wpOps_nil ?_
        refine then_normal ?_
        have hE3841 := EnvOk.pick hE3840 (ks := [1, 6, 9, 10, 60, 61, 62]) (env' := [(1, .v (.int .i64 v)), (6, .p 2 0), (9, .p 3 0), (10, .p 4 0), (60, .v (.slice A3197 ((things l3193).length) c3198)), (61, .v (.int .i64 (((things l3193).length : Nat) : Int))), (62, .v (.int .i64 (IntKind.i64.wrap (((k : Nat) : Int) + 1))))]) (by kernel_rfl)
        have hE3842 : EnvOk 82 [⟨b3225, 0, [.int .i64 k3210, .int .i64 y3211, .int .i64 y3212, .int .i64 y3213, .int .i64 y3214, .int .i64 y3215, .int .i64 y3216, .slice A3218 l3217.length c3219], true⟩, ⟨b3233, 0, [.int .i64 n3190, .slice A3195 s3191.length c3196, .bool b3192, .slice A3197 l3193.length c3198, .slice A3199 u3194.length c3200], true⟩, ⟨b3241, 0, [.int .i64 0, .slice none 0 0, .bool false, .slice none 0 0, .slice none 0 0], true⟩, ⟨b3667, 0, [.int .i64 0, .slice none 0 0, .bool false, .slice A3825 (k + 1) c3826, .slice none 0 0], true⟩, ⟨b3681, 0, [.int .i64 y3216, .int .i64 y3211, .int .i64 y3212, .int .i64 (-1), .int .i64 (-1), .int .i64 y3215, .int .i64 y3216, .slice A3218 l3217.length c3219], true⟩] _ _ := hE3841.cutTb 5 (by kernel_rfl)
        have hW3843 : WOk _ _ _ [⟨b3225, 0, [.int .i64 k3210, .int .i64 y3211, .int .i64 y3212, .int .i64 y3213, .int .i64 y3214, .int .i64 y3215, .int .i64 y3216, .slice A3218 l3217.length c3219], true⟩, ⟨b3233, 0, [.int .i64 n3190, .slice A3195 s3191.length c3196, .bool b3192, .slice A3197 l3193.length c3198, .slice A3199 u3194.length c3200], true⟩, ⟨b3241, 0, [.int .i64 0, .slice none 0 0, .bool false, .slice none 0 0, .slice none 0 0], true⟩, ⟨b3667, 0, [.int .i64 0, .slice none 0 0, .bool false, .slice A3825 (k + 1) c3826, .slice none 0 0], true⟩, ⟨b3681, 0, [.int .i64 y3216, .int .i64 y3211, .int .i64 y3212, .int .i64 (-1), .int .i64 (-1), .int .i64 y3215, .int .i64 y3216, .slice A3218 l3217.length c3219], true⟩] _ := hW3837.cutTb 5
        have hF3844 : Fr _ _ _ _ [⟨b3225, 0, [.int .i64 k3210, .int .i64 y3211, .int .i64 y3212, .int .i64 y3213, .int .i64 y3214, .int .i64 y3215, .int .i64 y3216, .slice A3218 l3217.length c3219], true⟩, ⟨b3233, 0, [.int .i64 n3190, .slice A3195 s3191.length c3196, .bool b3192, .slice A3197 l3193.length c3198, .slice A3199 u3194.length c3200], true⟩, ⟨b3241, 0, [.int .i64 0, .slice none 0 0, .bool false, .slice none 0 0, .slice none 0 0], true⟩, ⟨b3667, 0, [.int .i64 0, .slice none 0 0, .bool false, .slice A3825 (k + 1) c3826, .slice none 0 0], true⟩, ⟨b3681, 0, [.int .i64 y3216, .int .i64 y3211, .int .i64 y3212, .int .i64 (-1), .int .i64 (-1), .int .i64 y3215, .int .i64 y3216, .slice A3218 l3217.length c3219], true⟩] _ := Fr.cutTb w3835 [⟨b3225, 0, [.int .i64 k3210, .int .i64 y3211, .int .i64 y3212, .int .i64 y3213, .int .i64 y3214, .int .i64 y3215, .int .i64 y3216, .slice A3218 l3217.length c3219], true⟩, ⟨b3233, 0, [.int .i64 n3190, .slice A3195 s3191.length c3196, .bool b3192, .slice A3197 l3193.length c3198, .slice A3199 u3194.length c3200], true⟩, ⟨b3241, 0, [.int .i64 0, .slice none 0 0, .bool false, .slice none 0 0, .slice none 0 0], true⟩, ⟨b3667, 0, [.int .i64 0, .slice none 0 0, .bool false, .slice A3825 (k + 1) c3826, .slice none 0 0], true⟩, ⟨b3681, 0, [.int .i64 y3216, .int .i64 y3211, .int .i64 y3212, .int .i64 (-1), .int .i64 (-1), .int .i64 y3215, .int .i64 y3216, .slice A3218 l3217.length c3219], true⟩, ⟨b3768, 0, [.int .i64 n3744, .slice A3749 s3745.length c3750, .bool b3746, .slice A3751 l3747.length c3752, .slice A3753 u3748.length c3754], true⟩] [⟨A3825, c3826, 26, 5, k + 1, xs ++ [.int .i64 n3791, .slice A3796 s3792.length c3797, .bool b3793, .slice A3798 l3794.length c3799, .slice A3800 u3795.length c3801]⟩, ⟨some ⟨b3816, 0, none⟩, 1, 26, 5, 1, [.int .i64 n3791, .slice A3796 s3792.length c3797, .bool b3793, .slice A3798 l3794.length c3799, .slice A3800 u3795.length c3801]⟩] 5
        have hW3845 : WOk _ _ _ _ [⟨A3825, c3826, 26, 5, k + 1, xs ++ [.int .i64 n3791, .slice A3796 s3792.length c3797, .bool b3793, .slice A3798 l3794.length c3799, .slice A3800 u3795.length c3801]⟩] := hW3843.rows 1
        have hF3846 : Fr _ _ _ _ _ [⟨A3825, c3826, 26, 5, k + 1, xs ++ [.int .i64 n3791, .slice A3796 s3792.length c3797, .bool b3793, .slice A3798 l3794.length c3799, .slice A3800 u3795.length c3801]⟩] := Fr.rows w3835 [⟨b3225, 0, [.int .i64 k3210, .int .i64 y3211, .int .i64 y3212, .int .i64 y3213, .int .i64 y3214, .int .i64 y3215, .int .i64 y3216, .slice A3218 l3217.length c3219], true⟩, ⟨b3233, 0, [.int .i64 n3190, .slice A3195 s3191.length c3196, .bool b3192, .slice A3197 l3193.length c3198, .slice A3199 u3194.length c3200], true⟩, ⟨b3241, 0, [.int .i64 0, .slice none 0 0, .bool false, .slice none 0 0, .slice none 0 0], true⟩, ⟨b3667, 0, [.int .i64 0, .slice none 0 0, .bool false, .slice A3825 (k + 1) c3826, .slice none 0 0], true⟩, ⟨b3681, 0, [.int .i64 y3216, .int .i64 y3211, .int .i64 y3212, .int .i64 (-1), .int .i64 (-1), .int .i64 y3215, .int .i64 y3216, .slice A3218 l3217.length c3219], true⟩] [⟨A3825, c3826, 26, 5, k + 1, xs ++ [.int .i64 n3791, .slice A3796 s3792.length c3797, .bool b3793, .slice A3798 l3794.length c3799, .slice A3800 u3795.length c3801]⟩, ⟨some ⟨b3816, 0, none⟩, 1, 26, 5, 1, [.int .i64 n3791, .slice A3796 s3792.length c3797, .bool b3793, .slice A3798 l3794.length c3799, .slice A3800 u3795.length c3801]⟩] 1
        have hE3847 := EnvOk.pick hE3842 (ks := [1, 6, 9, 10, 60, 61, 62]) (env' := [(1, .v (.int .i64 v)), (6, .p 2 0), (9, .p 3 0), (10, .p 4 0), (60, .v (.slice A3197 ((things l3193).length) c3198)), (61, .v (.int .i64 (((things l3193).length : Nat) : Int))), (62, .v (.int .i64 (IntKind.i64.wrap (((k : Nat) : Int) + 1))))]) (by kernel_rfl)
        have he3848 : IntKind.i64.wrap (((k : Nat) : Int) + 1) = ((k + 1 : Nat) : Int) := wrap_succ (by omega)
        rw [he3848] at hE3847
        exact ⟨(things l3193).length - (k + 1), by omega, k + 1, A3825, c3826, xs ++ [Value.int .i64 n3791, .slice A3796 s3792.length c3797, .bool b3793, .slice A3798 l3794.length c3799, .slice A3800 u3795.length c3801], (css ++ [[Value.int .i64 n3791, .slice A3796 s3792.length c3797, .bool b3793, .slice A3798 l3794.length c3799, .slice A3800 u3795.length c3801]]), rfl, by omega, by rw [take_succ_of (fitL_get (p := fitT v d) (v := v) (f := (Fld.mk y3216 y3211 y3212 (-1) (-1) y3215 y3216 l3217)) he3742)]; exact (hT.move (Fr.trans (Fr.trans (Fr.trans (Fr.trans (Fr.trans (Fr.trans (Fr.trans (Fr.trans hF3773 hF3777) hF3781) hF3814) hF3821) hF3829) hF3836) hF3844) hF3846).step immM (Fr.trans (Fr.trans (Fr.trans (Fr.trans (Fr.trans (Fr.trans (Fr.trans (Fr.trans hF3773 hF3777) hF3781) hF3814) hF3821) hF3829) hF3836) hF3844) hF3846).to').snoc (hr3790.move (Fr.trans (Fr.trans (Fr.trans (Fr.trans hF3821 hF3829) hF3836) hF3844) hF3846).step immM (Fr.trans (Fr.trans (Fr.trans (Fr.trans hF3821 hF3829) hF3836) hF3844) hF3846).to'), hE3847, hW3845, (Fr.trans (Fr.trans (Fr.trans (Fr.trans (Fr.trans (Fr.trans (Fr.trans (Fr.trans (Fr.trans hF3730 hF3773) hF3777) hF3781) hF3814) hF3821) hF3829) hF3836) hF3844) hF3846)⟩
      ·
        have hf3849 := of_decide_eq_false hc3734
        refine wp_exit ?_
        refine then_exit ?_
        refine then_exit ?_
        refine block_exit ?_
        refine then_normal ?_
        refine go_seq_region [0, 1] (by kernel_rfl) ?_
        refine go_runs [0] [1] [6, 76] hW3727 hE3733 (env' := [(6, .p 2 0), (76, .v (.agg #[.int .i64 0, .slice none 0 0, .bool false, .slice A_ k c_, .slice none 0 0]))]) (by kernel_rfl) rfl fun a3850 hE3851 => ?_
        clear hE3733
        refine of_op (wpOp_store hW3727 hE3851 (oi := 2) (cs := [.int .i64 0, .slice none 0 0, .bool false, .slice A_ k c_, .slice none 0 0]) (by kernel_rfl) fun w3852 hF3853 hW3854 hE3855 => ?_)
        clear hE3851 hW3727
        refine wpOps_nil ?_
        refine then_normal ?_
        refine wp_ret ?_
        refine block_ret ?_
        refine then_ret ?_
        refine leave hE3855 hW3854.cells (v := .agg #[.int .i64 0, .slice none 0 0, .bool false, .slice A_ k c_, .slice none 0 0]) (by kernel_rfl) ?_
        have hk0 : k = (fitL (fitT v d) v (Fld.mk y3216 y3211 y3212 (-1) (-1) y3215 y3216 l3217) l3193).length := by rw [fitL_len]; omega
        have hT' := (hT.move hF3853.step immM hF3853.to')
        rw [show (fitL (fitT v d) v (Fld.mk y3216 y3211 y3212 (-1) (-1) y3215 y3216 l3217) l3193).take k = (fitL (fitT v d) v (Fld.mk y3216 y3211 y3212 (-1) (-1) y3215 y3216 l3217) l3193) by rw [hk0, List.take_length]] at hT'
        exact tree_end hW3854 rfl (Octs.nil _ _) hk0 (trees_fp hW3854 (k := 0) rfl hT' hk0 (by rw [fitL_len]; omega)) rfl (TagsR.nil _ _) (fittedW_11 hk11 (by simp only [hc3271, hc3469]; try simp))

theorem sFitted {d : Nat} (hfit : FitOK d) (cf : List Value) (f : Fld) (v : Int) (ct : List Value) (t : Tree) (w : World) (F : Nat → Nat → Prop) (hf : FldR w F cf f) (hpl : f.plain) (hd : depths f.sub ≤ d) (ht : TreeR w F ct t) :
    Calls Try.prog 47 #[.agg cf.toArray, .int .i64 v, .agg ct.toArray] w (GivesT w F (fittedW (fitT v d) v f t)) := by
  by_cases h : f.kind = 11
  · exact sFitted11 hfit cf f v ct t w F hf hpl hd h ht
  · obtain ⟨k, x1, x2, x3, x4, x5, x6, l, A, c, xs, rfl, hcs, h1, h2⟩ := hf.open_
    rw [fittedW_no (k := k) h]
    exact sFitted0 hfit cf _ v ct t w F hf hpl.2 hd h ht

theorem sFit (W : Fld → Tree → Tree) (A : Option Addr) (c : Nat) (l : List Fld) (v : Int) (ct : List Value) (t : Tree) (w : World) (F : Nat → Nat → Prop) (hW_ : ∀ cf f ct t w F, f ∈ l → FldR w F cf f → TreeR w F ct t → Calls Try.prog 47 #[.agg cf.toArray, .int .i64 v, .agg ct.toArray] w (GivesT w F (W f t))) (hl : FldsR w F A c l) (ht : TreeR w F ct t) :
    Calls Try.prog 18 #[.slice A l.length c, .int .i64 v, .agg ct.toArray] w (GivesT w F (fitW W l t)) := by
  obtain ⟨xfs, h1, h2⟩ := hl.ex
  have hsm := h1.small
  obtain ⟨n3856, s3857, b3858, l3859, u3860, A3861, c3862, A3863, c3864, A3865, c3866, xs3867, rfl, rfl, h3869, h3870, h3871, h3872⟩ := ht.open_
  have hsm3874 := h3869.small
  have hsm3875 := h3870.small
  refine enter (n := 54) Try.func18 rfl Try.ntmps18 (by kernel_rfl) fun a hE => ?_
  have hW := WOk.start w Nil
  refine go_seq_region [0, 1] (by kernel_rfl) ?_
  refine of_op (wpOp_box hW hE (d := 5) (cs := [.int .i64 n3856, .slice A3861 s3857.length c3862, .bool b3858, .slice A3863 l3859.length c3864, .slice A3865 u3860.length c3866]) (by kernel_rfl) fun b3876 a3877 w3878 hb3879 hz3880 hF3881 hW3882 hE3883 => ?_)
  clear hE hW
  refine of_op (wpOp_alloc hW3882 hE3883 (d := 6) (cs := [.int .i64 0, .slice none 0 0, .bool false, .slice none 0 0, .slice none 0 0]) (by kernel_rfl) fun b3884 a3885 w3886 hb3887 hz3888 hF3889 hW3890 hE3891 => ?_)
  clear hE3883 hW3882
  refine wpOps_nil ?_
  refine then_normal ?_
  refine go_seq_region [0, 1, 2] (by kernel_rfl) ?_
  refine go_runs [0] [1, 2] [0, 1, 5, 6, 12] hW3890 hE3891 (env' := [(0, .v (.slice A l.length c)), (1, .v (.int .i64 v)), (5, .p 0 0), (6, .p 1 0), (12, .v (.agg #[.int .i64 0, .slice none 0 0, .bool false, .slice none 0 0, .slice none 0 0]))]) (by kernel_rfl) rfl fun a3892 hE3893 => ?_
  clear hE3891
  refine of_op (wpOp_alloc hW3890 hE3893 (d := 7) (cs := [.int .i64 0, .slice none 0 0, .bool false, .slice none 0 0, .slice none 0 0]) (by kernel_rfl) fun b3894 a3895 w3896 hb3897 hz3898 hF3899 hW3900 hE3901 => ?_)
  clear hE3893 hW3890
  refine of_op (wpOp_store hW3900 hE3901 (oi := 2) (cs := [.int .i64 0, .slice none 0 0, .bool false, .slice none 0 0, .slice none 0 0]) (by kernel_rfl) fun w3902 hF3903 hW3904 hE3905 => ?_)
  clear hE3901 hW3900
  refine wpOps_nil ?_
  refine then_normal ?_
  refine wp_seq ?_
  refine go_seq_region [0, 1, 2] (by kernel_rfl) ?_
  refine go_runs [0, 1, 2] [] [0, 1, 5, 6, 7, 13, 14, 15] hW3904 hE3905 (env' := [(0, .v (.slice A l.length c)), (1, .v (.int .i64 v)), (5, .p 0 0), (6, .p 1 0), (7, .p 2 0), (13, .v (.slice A l.length c)), (14, .v (.int .i64 ((l.length : Nat) : Int))), (15, .v (.int .i64 0))]) (by kernel_rfl) rfl fun a3906 hE3907 => ?_
  clear hE3905
  refine wpOps_nil ?_
  refine then_normal ?_
  refine wp_block ?_
  have hW3908 := hW3904.addNil 26 5
  have hF3909 := Fr.addNil w3902 [⟨b3876, 0, [.int .i64 n3856, .slice A3861 s3857.length c3862, .bool b3858, .slice A3863 l3859.length c3864, .slice A3865 u3860.length c3866], true⟩, ⟨b3884, 0, [.int .i64 0, .slice none 0 0, .bool false, .slice none 0 0, .slice none 0 0], true⟩, ⟨b3894, 0, [.int .i64 0, .slice none 0 0, .bool false, .slice none 0 0, .slice none 0 0], true⟩] [] 26 5
  clear hW3904
  have hE3918 := EnvOk.pick hE3907 (ks := [0, 1, 5, 6, 7, 13, 14, 15]) (env' := [(0, .v (.slice A l.length c)), (1, .v (.int .i64 v)), (5, .p 0 0), (6, .p 1 0), (7, .p 2 0), (13, .v (.slice A l.length c)), (14, .v (.int .i64 ((l.length : Nat) : Int))), (15, .v (.int .i64 0))]) (by kernel_rfl)
  refine wp_loop_ghost (fun n_ a_ w_ => ∃ (k : Nat) (A_ : Option Addr) (c_ : Nat) (xs : List Value) (css : List (List Value)), n_ = l.length - k ∧ k ≤ l.length ∧ (Trees w_ (Imm F w w_ [⟨b3876, 0, [.int .i64 n3856, .slice A3861 s3857.length c3862, .bool b3858, .slice A3863 l3859.length c3864, .slice A3865 u3860.length c3866], true⟩, ⟨b3884, 0, [.int .i64 0, .slice none 0 0, .bool false, .slice none 0 0, .slice none 0 0], true⟩, ⟨b3894, 0, [.int .i64 0, .slice none 0 0, .bool false, .slice A_ k c_, .slice none 0 0], true⟩] [⟨A_, c_, 26, 5, k, xs⟩]) xs ((fitsW W l (Tree.mk n3856 s3857 b3858 l3859 u3860) 0).take k) css) ∧ EnvOk 54 [⟨b3876, 0, [.int .i64 n3856, .slice A3861 s3857.length c3862, .bool b3858, .slice A3863 l3859.length c3864, .slice A3865 u3860.length c3866], true⟩, ⟨b3884, 0, [.int .i64 0, .slice none 0 0, .bool false, .slice none 0 0, .slice none 0 0], true⟩, ⟨b3894, 0, [.int .i64 0, .slice none 0 0, .bool false, .slice A_ k c_, .slice none 0 0], true⟩] [(0, .v (.slice A l.length c)), (1, .v (.int .i64 v)), (5, .p 0 0), (6, .p 1 0), (7, .p 2 0), (13, .v (.slice A l.length c)), (14, .v (.int .i64 ((l.length : Nat) : Int))), (15, .v (.int .i64 ((k : Nat) : Int)))] a_ ∧ WOk w Nil w_ [⟨b3876, 0, [.int .i64 n3856, .slice A3861 s3857.length c3862, .bool b3858, .slice A3863 l3859.length c3864, .slice A3865 u3860.length c3866], true⟩, ⟨b3884, 0, [.int .i64 0, .slice none 0 0, .bool false, .slice none 0 0, .slice none 0 0], true⟩, ⟨b3894, 0, [.int .i64 0, .slice none 0 0, .bool false, .slice A_ k c_, .slice none 0 0], true⟩] [⟨A_, c_, 26, 5, k, xs⟩] ∧ Fr w3902 [⟨b3876, 0, [.int .i64 n3856, .slice A3861 s3857.length c3862, .bool b3858, .slice A3863 l3859.length c3864, .slice A3865 u3860.length c3866], true⟩, ⟨b3884, 0, [.int .i64 0, .slice none 0 0, .bool false, .slice none 0 0, .slice none 0 0], true⟩, ⟨b3894, 0, [.int .i64 0, .slice none 0 0, .bool false, .slice none 0 0, .slice none 0 0], true⟩] [⟨none, 0, 26, 5, 0, []⟩] w_ [⟨b3876, 0, [.int .i64 n3856, .slice A3861 s3857.length c3862, .bool b3858, .slice A3863 l3859.length c3864, .slice A3865 u3860.length c3866], true⟩, ⟨b3884, 0, [.int .i64 0, .slice none 0 0, .bool false, .slice none 0 0, .slice none 0 0], true⟩, ⟨b3894, 0, [.int .i64 0, .slice none 0 0, .bool false, .slice A_ k c_, .slice none 0 0], true⟩] [⟨A_, c_, 26, 5, k, xs⟩]) (l.length) ⟨0, none, 0, [], [], by omega, by omega, Trees.nil _ _, hE3918, hW3908, Fr.refl _ _ _⟩ ?_
  clear hE3918 hE3907 hW3908
  rintro n3910 a3911 w3912 ⟨k, A_, c_, xs, css, hn3915, hk3916, hT, hE3913, hW3914, hF3917⟩
  refine go_seq_region [0] (by kernel_rfl) ?_
  refine go_runs [0] [] [0, 1, 5, 6, 7, 13, 14, 15, 16] hW3914 hE3913 (env' := [(0, .v (.slice A l.length c)), (1, .v (.int .i64 v)), (5, .p 0 0), (6, .p 1 0), (7, .p 2 0), (13, .v (.slice A l.length c)), (14, .v (.int .i64 ((l.length : Nat) : Int))), (15, .v (.int .i64 ((k : Nat) : Int))), (16, .v (.bool (decide (((k : Nat) : Int) < ((l.length : Nat) : Int)))))]) (by kernel_rfl) rfl fun a3919 hE3920 => ?_
  clear hE3913
  refine wpOps_nil ?_
  refine then_normal ?_
  refine wp_seq ?_
  refine cond_of hE3920 (b := decide (((k : Nat) : Int) < ((l.length : Nat) : Int))) (by kernel_rfl) (fun hc3921 => ?_) (fun hc3921 => ?_)
  ·
    have hf3922 := of_decide_eq_true hc3921
    refine wp_skip ?_
    refine then_normal ?_
    refine wp_seq ?_
    refine wp_block ?_
    refine go_seq_region [0, 1, 2, 3, 4, 5] (by kernel_rfl) ?_
    refine go_runs [0] [1, 2, 3, 4, 5] [0, 1, 5, 6, 7, 13, 14, 15, 17] hW3914 hE3920 (env' := [(0, .v (.slice A l.length c)), (1, .v (.int .i64 v)), (5, .p 0 0), (6, .p 1 0), (7, .p 2 0), (13, .v (.slice A l.length c)), (14, .v (.int .i64 ((l.length : Nat) : Int))), (15, .v (.int .i64 ((k : Nat) : Int))), (17, .v (.int .i64 ((k : Nat) : Int)))]) (by kernel_rfl) rfl fun a3923 hE3924 => ?_
    clear hE3920
    obtain ⟨b3925, o3926, hA3927, hl3928, hat3929⟩ := Slots.get h1 (i := k) (by omega)
    obtain ⟨x3930, he3931⟩ : ∃ x, l[k]? = some x := ⟨_, List.getElem?_eq_getElem (by omega)⟩
    have hr3932 := h2 k x3930 he3931
    obtain ⟨k3933, y3934, y3935, y3936, y3937, y3938, y3939, l3940, A3941, c3942, xs3943, rfl, hcs3944, h3945, h3946⟩ := hr3932.open_
    rw [hcs3944] at hr3932
    have hsm3947 := h3945.small
    rw [hcs3944] at hat3929
    refine of_op (wpOp_index hE3924 (t := 29) (A := A) (m := l.length) (q := ((k : Nat) : Int)) (d := 18) (by kernel_rfl) (e := 50) (size := 8) (bytes := 80) (by kernel_rfl) hA3927 rfl (by omega) fun a3948 hE3949 => ?_)
    clear hE3924
    refine of_op (wpOp_load hE3949 (t := 50) (b := b3925) (o := o3926 + k * 8) (d := 19) (by kernel_rfl) (cs := [.int .i64 k3933, .int .i64 y3934, .int .i64 y3935, .int .i64 y3936, .int .i64 y3937, .int .i64 y3938, .int .i64 y3939, .slice A3941 l3940.length c3942]) (v := .agg #[.int .i64 k3933, .int .i64 y3934, .int .i64 y3935, .int .i64 y3936, .int .i64 y3937, .int .i64 y3938, .int .i64 y3939, .slice A3941 l3940.length c3942]) (by kernel_rfl) (AtF.move hat3929 hW3914.step nilM keepF).at_ fun a3950 hE3951 => ?_)
    clear hE3949
    refine of_op (wpOp_alloc hW3914 hE3951 (d := 9) (cs := [.int .i64 0, .int .i64 0, .int .i64 0, .int .i64 0, .int .i64 0, .int .i64 0, .int .i64 0, .slice none 0 0]) (by kernel_rfl) fun b3952 a3953 w3954 hb3955 hz3956 hF3957 hW3958 hE3959 => ?_)
    clear hE3951 hW3914
    refine go_runs [4] [5] [0, 1, 5, 6, 7, 8, 9, 13, 14, 15, 19] hW3958 hE3959 (env' := [(0, .v (.slice A l.length c)), (1, .v (.int .i64 v)), (5, .p 0 0), (6, .p 1 0), (7, .p 2 0), (8, .v (.int .i64 ((k : Nat) : Int))), (9, .p 3 0), (13, .v (.slice A l.length c)), (14, .v (.int .i64 ((l.length : Nat) : Int))), (15, .v (.int .i64 ((k : Nat) : Int))), (19, .v (.agg #[.int .i64 k3933, .int .i64 y3934, .int .i64 y3935, .int .i64 y3936, .int .i64 y3937, .int .i64 y3938, .int .i64 y3939, .slice A3941 l3940.length c3942]))]) (by kernel_rfl) rfl fun a3960 hE3961 => ?_
    clear hE3959
    refine of_op (wpOp_store hW3958 hE3961 (oi := 3) (cs := [.int .i64 k3933, .int .i64 y3934, .int .i64 y3935, .int .i64 y3936, .int .i64 y3937, .int .i64 y3938, .int .i64 y3939, .slice A3941 l3940.length c3942]) (by kernel_rfl) fun w3962 hF3963 hW3964 hE3965 => ?_)
    clear hE3961 hW3958
    refine wpOps_nil ?_
    refine then_normal ?_
    refine go_drawK 11 (by kernel_rfl) hW3964 fun w3966 hF3967 hW3968 hT3969 => ?_
    clear hW3964
    refine go_runsD [0, 1, 2, 3, 4, 5] [0, 1, 5, 6, 7, 13, 14, 15, 21, 22, 23, 24, 25] 6 (by kernel_rfl) (panicFree_block (panicFree_then (panicFree_then (panicFree_block (panicFree_then panicFree_body))))) (fun _ h => h.cells) hT3969 hE3965 (by kernel_rfl) (env' := [(0, .v (.slice A l.length c)), (1, .v (.int .i64 v)), (5, .p 0 0), (6, .p 1 0), (7, .p 2 0), (13, .v (.slice A l.length c)), (14, .v (.int .i64 ((l.length : Nat) : Int))), (15, .v (.int .i64 ((k : Nat) : Int))), (21, .v (.slice A_ k c_)), (22, .v (.agg #[.int .i64 k3933, .int .i64 y3934, .int .i64 y3935, .int .i64 y3936, .int .i64 y3937, .int .i64 y3938, .int .i64 y3939, .slice A3941 l3940.length c3942])), (23, .v (.int .i64 v)), (24, .v (.agg #[.int .i64 n3856, .slice A3861 s3857.length c3862, .bool b3858, .slice A3863 l3859.length c3864, .slice A3865 u3860.length c3866])), (25, .v (.int .i64 ((k : Nat) : Int)))]) (by kernel_rfl) rfl fun a3970 hE3971 => ?_
    clear hE3965
    refine anyC_op (i := 6) (by kernel_rfl) (wpOp_call hE3971 (f := 48) (vs := [.agg #[.int .i64 n3856, .slice A3861 s3857.length c3862, .bool b3858, .slice A3863 l3859.length c3864, .slice A3865 u3860.length c3866], .int .i64 ((k : Nat) : Int)]) (d := 26) (by kernel_rfl) Try.call48 (sAt _ _ k _ _ (ht.move hW3968.step nilM hW3968.imm)) ?_)
    rintro e_ w3975 ⟨cs3974, rfl, hr3973, hs3972⟩
    have hr3976 := hr3973.move hs3972 nilM (fun b o h_ hb_ => hW3968.laid (G := F) hs3972 b o (.inl h_) (Nat.lt_of_lt_of_le hb_ hs3972.size))
    obtain ⟨n3977, s3978, b3979, l3980, u3981, A3982, c3983, A3984, c3985, A3986, c3987, xs3988, ht3994, hcs3989, h3990, h3991, h3992, h3993⟩ := hr3976.open_
    rw [hcs3989] at hr3976
    have hsm3995 := h3990.small
    have hsm3996 := h3991.small
    rw [hcs3989]
    refine ⟨_, rfl, fun a3997 hE3998 => ?_⟩
    have hW3999 := hW3968.next_nil hs3972
    have hF4000 := Fr.nil [⟨b3876, 0, [.int .i64 n3856, .slice A3861 s3857.length c3862, .bool b3858, .slice A3863 l3859.length c3864, .slice A3865 u3860.length c3866], true⟩, ⟨b3884, 0, [.int .i64 0, .slice none 0 0, .bool false, .slice none 0 0, .slice none 0 0], true⟩, ⟨b3894, 0, [.int .i64 0, .slice none 0 0, .bool false, .slice A_ k c_, .slice none 0 0], true⟩, ⟨b3952, 0, [.int .i64 k3933, .int .i64 y3934, .int .i64 y3935, .int .i64 y3936, .int .i64 y3937, .int .i64 y3938, .int .i64 y3939, .slice A3941 l3940.length c3942], true⟩] [⟨A_, c_, 26, 5, k, xs⟩] hs3972
    clear hE3971
    have hT4001 : TT w3966 [⟨b3876, 0, [.int .i64 n3856, .slice A3861 s3857.length c3862, .bool b3858, .slice A3863 l3859.length c3864, .slice A3865 u3860.length c3866], true⟩, ⟨b3884, 0, [.int .i64 0, .slice none 0 0, .bool false, .slice none 0 0, .slice none 0 0], true⟩, ⟨b3894, 0, [.int .i64 0, .slice none 0 0, .bool false, .slice A_ k c_, .slice none 0 0], true⟩, ⟨b3952, 0, [.int .i64 k3933, .int .i64 y3934, .int .i64 y3935, .int .i64 y3936, .int .i64 y3937, .int .i64 y3938, .int .i64 y3939, .slice A3941 l3940.length c3942], true⟩] [⟨A_, c_, 26, 5, k, xs⟩] w3975 := ⟨hW3999.cells, hF4000.step⟩
    refine ⟨fun _ => hT4001, ?_⟩
    refine anyC_op (i := 7) (by kernel_rfl) (wpOp_call hE3998 (f := 47) (vs := [.agg #[.int .i64 k3933, .int .i64 y3934, .int .i64 y3935, .int .i64 y3936, .int .i64 y3937, .int .i64 y3938, .int .i64 y3939, .slice A3941 l3940.length c3942], .int .i64 v, .agg #[.int .i64 n3977, .slice A3982 s3978.length c3983, .bool b3979, .slice A3984 l3980.length c3985, .slice A3986 u3981.length c3987]]) (d := 27) (by kernel_rfl) Try.call47 ( hW_ _ _ _ _ _ _ (List.mem_of_getElem? he3931) (hr3932.move hW3999.step nilM hW3999.imm) hr3976) ?_)
    rintro e_ w4005 ⟨cs4004, rfl, hr4003, hs4002⟩
    have hr4006 := hr4003.move (Step.refl _ Nil) nilM (hW3999.laid (G := F) hs4002)
    obtain ⟨n4007, s4008, b4009, l4010, u4011, A4012, c4013, A4014, c4015, A4016, c4017, xs4018, ht4024, hcs4019, h4020, h4021, h4022, h4023⟩ := hr4006.open_
    rw [hcs4019] at hr4006
    have hsm4025 := h4020.small
    have hsm4026 := h4021.small
    rw [hcs4019]
    refine ⟨_, rfl, fun a4027 hE4028 => ?_⟩
    have hW4029 := hW3999.next_nil hs4002
    have hF4030 := Fr.nil [⟨b3876, 0, [.int .i64 n3856, .slice A3861 s3857.length c3862, .bool b3858, .slice A3863 l3859.length c3864, .slice A3865 u3860.length c3866], true⟩, ⟨b3884, 0, [.int .i64 0, .slice none 0 0, .bool false, .slice none 0 0, .slice none 0 0], true⟩, ⟨b3894, 0, [.int .i64 0, .slice none 0 0, .bool false, .slice A_ k c_, .slice none 0 0], true⟩, ⟨b3952, 0, [.int .i64 k3933, .int .i64 y3934, .int .i64 y3935, .int .i64 y3936, .int .i64 y3937, .int .i64 y3938, .int .i64 y3939, .slice A3941 l3940.length c3942], true⟩] [⟨A_, c_, 26, 5, k, xs⟩] hs4002
    clear hE3998
    have hT4031 : TT w3966 [⟨b3876, 0, [.int .i64 n3856, .slice A3861 s3857.length c3862, .bool b3858, .slice A3863 l3859.length c3864, .slice A3865 u3860.length c3866], true⟩, ⟨b3884, 0, [.int .i64 0, .slice none 0 0, .bool false, .slice none 0 0, .slice none 0 0], true⟩, ⟨b3894, 0, [.int .i64 0, .slice none 0 0, .bool false, .slice A_ k c_, .slice none 0 0], true⟩, ⟨b3952, 0, [.int .i64 k3933, .int .i64 y3934, .int .i64 y3935, .int .i64 y3936, .int .i64 y3937, .int .i64 y3938, .int .i64 y3939, .slice A3941 l3940.length c3942], true⟩] [⟨A_, c_, 26, 5, k, xs⟩] w4005 := ⟨hW4029.cells, (Fr.trans hF4000 hF4030).step⟩
    refine ⟨fun _ => hT4031, ?_⟩
    refine anyC_op (i := 8) (by kernel_rfl) (wpOp_lit hW4029 hE4028 (e := 26) (size := 5) (len := 1) (cs := [.int .i64 n4007, .slice A4012 s4008.length c4013, .bool b4009, .slice A4014 l4010.length c4015, .slice A4016 u4011.length c4017]) (d := 28) (by kernel_rfl) (by kernel_rfl) fun b4032 a4033 w4034 hb4035 hz4036 hF4037 hW4038 hE4039 => ?_)
    clear hE4028 hW4029
    have hT4040 : TT w3966 [⟨b3876, 0, [.int .i64 n3856, .slice A3861 s3857.length c3862, .bool b3858, .slice A3863 l3859.length c3864, .slice A3865 u3860.length c3866], true⟩, ⟨b3884, 0, [.int .i64 0, .slice none 0 0, .bool false, .slice none 0 0, .slice none 0 0], true⟩, ⟨b3894, 0, [.int .i64 0, .slice none 0 0, .bool false, .slice A_ k c_, .slice none 0 0], true⟩, ⟨b3952, 0, [.int .i64 k3933, .int .i64 y3934, .int .i64 y3935, .int .i64 y3936, .int .i64 y3937, .int .i64 y3938, .int .i64 y3939, .slice A3941 l3940.length c3942], true⟩] [⟨A_, c_, 26, 5, k, xs⟩] w4034 := ⟨hW4038.cells, (Fr.trans (Fr.trans hF4000 hF4030) hF4037).step⟩
    refine ⟨fun _ => hT4040, ?_⟩
    refine anyC_op (i := 9) (by kernel_rfl) (wpOp_append hW4038 hE4039 (k := 0) (d := 29) (t := 23) (e := 26) (size := 5) (bytes := 88) (A := A_) (As := (some ⟨b4032, 0, none⟩)) (m0 := k) (c := c_) (m := 1) (cs := 1) (xs := xs) (news := [.int .i64 n4007, .slice A4012 s4008.length c4013, .bool b4009, .slice A4014 l4010.length c4015, .slice A4016 u4011.length c4017]) (by kernel_rfl) (by kernel_rfl) rfl (own_src (hW4038.own 1 _ rfl) (allOne_ok (by kernel_rfl))) (own_cap (hW4038.own 1 _ rfl)) (by omega) fun A4041 c4042 a4043 w4044 hF4045 hW4046 hE4047 => ?_)
    clear hE4039 hW4038
    have hT4048 : TT w3966 [⟨b3876, 0, [.int .i64 n3856, .slice A3861 s3857.length c3862, .bool b3858, .slice A3863 l3859.length c3864, .slice A3865 u3860.length c3866], true⟩, ⟨b3884, 0, [.int .i64 0, .slice none 0 0, .bool false, .slice none 0 0, .slice none 0 0], true⟩, ⟨b3894, 0, [.int .i64 0, .slice none 0 0, .bool false, .slice A_ k c_, .slice none 0 0], true⟩, ⟨b3952, 0, [.int .i64 k3933, .int .i64 y3934, .int .i64 y3935, .int .i64 y3936, .int .i64 y3937, .int .i64 y3938, .int .i64 y3939, .slice A3941 l3940.length c3942], true⟩] [⟨A_, c_, 26, 5, k, xs⟩] w4044 := ⟨hW4046.cells, (Fr.trans (Fr.trans (Fr.trans hF4000 hF4030) hF4037) hF4045).step⟩
    refine ⟨fun _ => hT4048, ?_⟩
    refine go_runsD [10] [0, 1, 5, 6, 7, 13, 14, 15, 29, 30] 1 (by kernel_rfl) (panicFree_block (panicFree_then (panicFree_then (panicFree_block (panicFree_then panicFree_body))))) (fun _ h => h.cells) hT4048 hE4047 (by kernel_rfl) (env' := [(0, .v (.slice A l.length c)), (1, .v (.int .i64 v)), (5, .p 0 0), (6, .p 1 0), (7, .p 2 0), (13, .v (.slice A l.length c)), (14, .v (.int .i64 ((l.length : Nat) : Int))), (15, .v (.int .i64 ((k : Nat) : Int))), (29, .v (.slice A4041 (k + 1) c4042)), (30, .p 2 3)]) (by kernel_rfl) rfl fun a4049 hE4050 => ?_
    clear hE4047
    refine anyC_op (i := 11) (by kernel_rfl) (wpOp_store hW4046 hE4050 (oi := 2) (cs := [.int .i64 0, .slice none 0 0, .bool false, .slice A4041 (k + 1) c4042, .slice none 0 0]) (by kernel_rfl) fun w4051 hF4052 hW4053 hE4054 => ?_)
    clear hE4050 hW4046
    refine ⟨fun h => absurd rfl h, ?_⟩
    refine anyC_done (by kernel_rfl) ?_ _
    refine block_normal ?_
    refine then_normal ?_
    refine go_region [0, 1] (by kernel_rfl) ?_
    refine go_runs [0, 1] [] [0, 1, 5, 6, 7, 13, 14, 15] hW4053 hE4054 (env' := [(0, .v (.slice A l.length c)), (1, .v (.int .i64 v)), (5, .p 0 0), (6, .p 1 0), (7, .p 2 0), (13, .v (.slice A l.length c)), (14, .v (.int .i64 ((l.length : Nat) : Int))), (15, .v (.int .i64 (IntKind.i64.wrap (((k : Nat) : Int) + 1))))]) (by kernel_rfl) rfl fun a4055 hE4056 => ?_
    clear hE4054
    refine wpOps_nil ?_
    refine then_normal ?_
    have hE4057 := EnvOk.pick hE4056 (ks := [0, 1, 5, 6, 7, 13, 14, 15]) (env' := [(0, .v (.slice A l.length c)), (1, .v (.int .i64 v)), (5, .p 0 0), (6, .p 1 0), (7, .p 2 0), (13, .v (.slice A l.length c)), (14, .v (.int .i64 ((l.length : Nat) : Int))), (15, .v (.int .i64 (IntKind.i64.wrap (((k : Nat) : Int) + 1))))]) (by kernel_rfl)
    have hE4058 : EnvOk 54 [⟨b3876, 0, [.int .i64 n3856, .slice A3861 s3857.length c3862, .bool b3858, .slice A3863 l3859.length c3864, .slice A3865 u3860.length c3866], true⟩, ⟨b3884, 0, [.int .i64 0, .slice none 0 0, .bool false, .slice none 0 0, .slice none 0 0], true⟩, ⟨b3894, 0, [.int .i64 0, .slice none 0 0, .bool false, .slice A4041 (k + 1) c4042, .slice none 0 0], true⟩] _ _ := hE4057.cutTb 3 (by kernel_rfl)
    have hW4059 : WOk _ _ _ [⟨b3876, 0, [.int .i64 n3856, .slice A3861 s3857.length c3862, .bool b3858, .slice A3863 l3859.length c3864, .slice A3865 u3860.length c3866], true⟩, ⟨b3884, 0, [.int .i64 0, .slice none 0 0, .bool false, .slice none 0 0, .slice none 0 0], true⟩, ⟨b3894, 0, [.int .i64 0, .slice none 0 0, .bool false, .slice A4041 (k + 1) c4042, .slice none 0 0], true⟩] _ := hW4053.cutTb 3
    have hF4060 : Fr _ _ _ _ [⟨b3876, 0, [.int .i64 n3856, .slice A3861 s3857.length c3862, .bool b3858, .slice A3863 l3859.length c3864, .slice A3865 u3860.length c3866], true⟩, ⟨b3884, 0, [.int .i64 0, .slice none 0 0, .bool false, .slice none 0 0, .slice none 0 0], true⟩, ⟨b3894, 0, [.int .i64 0, .slice none 0 0, .bool false, .slice A4041 (k + 1) c4042, .slice none 0 0], true⟩] _ := Fr.cutTb w4051 [⟨b3876, 0, [.int .i64 n3856, .slice A3861 s3857.length c3862, .bool b3858, .slice A3863 l3859.length c3864, .slice A3865 u3860.length c3866], true⟩, ⟨b3884, 0, [.int .i64 0, .slice none 0 0, .bool false, .slice none 0 0, .slice none 0 0], true⟩, ⟨b3894, 0, [.int .i64 0, .slice none 0 0, .bool false, .slice A4041 (k + 1) c4042, .slice none 0 0], true⟩, ⟨b3952, 0, [.int .i64 k3933, .int .i64 y3934, .int .i64 y3935, .int .i64 y3936, .int .i64 y3937, .int .i64 y3938, .int .i64 y3939, .slice A3941 l3940.length c3942], true⟩] [⟨A4041, c4042, 26, 5, k + 1, xs ++ [.int .i64 n4007, .slice A4012 s4008.length c4013, .bool b4009, .slice A4014 l4010.length c4015, .slice A4016 u4011.length c4017]⟩, ⟨some ⟨b4032, 0, none⟩, 1, 26, 5, 1, [.int .i64 n4007, .slice A4012 s4008.length c4013, .bool b4009, .slice A4014 l4010.length c4015, .slice A4016 u4011.length c4017]⟩] 3
    have hW4061 : WOk _ _ _ _ [⟨A4041, c4042, 26, 5, k + 1, xs ++ [.int .i64 n4007, .slice A4012 s4008.length c4013, .bool b4009, .slice A4014 l4010.length c4015, .slice A4016 u4011.length c4017]⟩] := hW4059.rows 1
    have hF4062 : Fr _ _ _ _ _ [⟨A4041, c4042, 26, 5, k + 1, xs ++ [.int .i64 n4007, .slice A4012 s4008.length c4013, .bool b4009, .slice A4014 l4010.length c4015, .slice A4016 u4011.length c4017]⟩] := Fr.rows w4051 [⟨b3876, 0, [.int .i64 n3856, .slice A3861 s3857.length c3862, .bool b3858, .slice A3863 l3859.length c3864, .slice A3865 u3860.length c3866], true⟩, ⟨b3884, 0, [.int .i64 0, .slice none 0 0, .bool false, .slice none 0 0, .slice none 0 0], true⟩, ⟨b3894, 0, [.int .i64 0, .slice none 0 0, .bool false, .slice A4041 (k + 1) c4042, .slice none 0 0], true⟩] [⟨A4041, c4042, 26, 5, k + 1, xs ++ [.int .i64 n4007, .slice A4012 s4008.length c4013, .bool b4009, .slice A4014 l4010.length c4015, .slice A4016 u4011.length c4017]⟩, ⟨some ⟨b4032, 0, none⟩, 1, 26, 5, 1, [.int .i64 n4007, .slice A4012 s4008.length c4013, .bool b4009, .slice A4014 l4010.length c4015, .slice A4016 u4011.length c4017]⟩] 1
    have hE4063 := EnvOk.pick hE4058 (ks := [0, 1, 5, 6, 7, 13, 14, 15]) (env' := [(0, .v (.slice A l.length c)), (1, .v (.int .i64 v)), (5, .p 0 0), (6, .p 1 0), (7, .p 2 0), (13, .v (.slice A l.length c)), (14, .v (.int .i64 ((l.length : Nat) : Int))), (15, .v (.int .i64 (IntKind.i64.wrap (((k : Nat) : Int) + 1))))]) (by kernel_rfl)
    have he4064 : IntKind.i64.wrap (((k : Nat) : Int) + 1) = ((k + 1 : Nat) : Int) := wrap_succ (by omega)
    rw [he4064] at hE4063
    exact ⟨l.length - (k + 1), by omega, k + 1, A4041, c4042, xs ++ [Value.int .i64 n4007, .slice A4012 s4008.length c4013, .bool b4009, .slice A4014 l4010.length c4015, .slice A4016 u4011.length c4017], (css ++ [[Value.int .i64 n4007, .slice A4012 s4008.length c4013, .bool b4009, .slice A4014 l4010.length c4015, .slice A4016 u4011.length c4017]]), rfl, by omega, by rw [take_succ_of (fits_get he3931)]; exact (hT.move (Fr.trans (Fr.trans (Fr.trans (Fr.trans (Fr.trans (Fr.trans (Fr.trans (Fr.trans (Fr.trans hF3957 hF3963) hF3967) hF4000) hF4030) hF4037) hF4045) hF4052) hF4060) hF4062).step immM (Fr.trans (Fr.trans (Fr.trans (Fr.trans (Fr.trans (Fr.trans (Fr.trans (Fr.trans (Fr.trans hF3957 hF3963) hF3967) hF4000) hF4030) hF4037) hF4045) hF4052) hF4060) hF4062).to').snoc (hr4006.move (Fr.trans (Fr.trans (Fr.trans (Fr.trans hF4037 hF4045) hF4052) hF4060) hF4062).step immM (Fr.trans (Fr.trans (Fr.trans (Fr.trans hF4037 hF4045) hF4052) hF4060) hF4062).to'), hE4063, hW4061, (Fr.trans (Fr.trans (Fr.trans (Fr.trans (Fr.trans (Fr.trans (Fr.trans (Fr.trans (Fr.trans (Fr.trans hF3917 hF3957) hF3963) hF3967) hF4000) hF4030) hF4037) hF4045) hF4052) hF4060) hF4062)⟩
  ·
    have hf4065 := of_decide_eq_false hc3921
    refine wp_exit ?_
    refine then_exit ?_
    refine then_exit ?_
    refine block_exit ?_
    refine then_normal ?_
    refine wp_seq ?_
    refine go_seq_region [0, 1, 2, 3, 4, 5] (by kernel_rfl) ?_
    refine go_runs [0, 1, 2] [3, 4, 5] [6, 7, 32, 34] hW3914 hE3920 (env' := [(6, .p 1 0), (7, .p 2 0), (32, .v (.slice A l.length c)), (34, .v (.slice A3865 u3860.length c3866))]) (by kernel_rfl) rfl fun a4066 hE4067 => ?_
    clear hE3920
    refine of_op (wpOp_call hE4067 (f := 49) (vs := [.slice A l.length c, .slice A3865 u3860.length c3866]) (d := 35) (by kernel_rfl) Try.call49 (sUnknown _ _ l _ _ u3860 _ _ ⟨xfs, (h1.move hW3914.step nilM hW3914.imm), (fun i_ x_ h_ => ((h2 i_ x_ h_).move hW3914.step nilM hW3914.imm))⟩ (h3872.move hW3914.step nilM hW3914.imm)) ?_)
    rintro e_ w4072 ⟨A4070, c4071, rfl, hr4069, hs4068⟩
    have hr4073 := hr4069.move (Step.refl _ Nil) nilM (hW3914.laid (G := F) hs4068)
    refine ⟨_, rfl, fun a4074 hE4075 => ?_⟩
    have hW4076 := hW3914.next_nil hs4068
    have hF4077 := Fr.nil [⟨b3876, 0, [.int .i64 n3856, .slice A3861 s3857.length c3862, .bool b3858, .slice A3863 l3859.length c3864, .slice A3865 u3860.length c3866], true⟩, ⟨b3884, 0, [.int .i64 0, .slice none 0 0, .bool false, .slice none 0 0, .slice none 0 0], true⟩, ⟨b3894, 0, [.int .i64 0, .slice none 0 0, .bool false, .slice A_ k c_, .slice none 0 0], true⟩] [⟨A_, c_, 26, 5, k, xs⟩] hs4068
    clear hE4067
    refine go_runs [4, 5] [] [6, 7, 35, 36, 37] hW4076 hE4075 (env' := [(6, .p 1 0), (7, .p 2 0), (35, .v (.slice A4070 ((unknownT l u3860).length) c4071)), (36, .v (.int .i64 (((unknownT l u3860).length : Nat) : Int))), (37, .v (.int .i64 0))]) (by kernel_rfl) rfl fun a4078 hE4079 => ?_
    clear hE4075
    refine wpOps_nil ?_
    refine then_normal ?_
    refine wp_block ?_
    obtain ⟨cs4080, h4081, h4082⟩ := hr4073.ex
    have hsm4083 := h4081.small
    have hk0 : k = (fitsW W l (Tree.mk n3856 s3857 b3858 l3859 u3860) 0).length := by rw [fits_len]; omega
    have hW4084 := hW4076.addNil 61 2
    have hF4085 := Fr.addNil w4072 [⟨b3876, 0, [.int .i64 n3856, .slice A3861 s3857.length c3862, .bool b3858, .slice A3863 l3859.length c3864, .slice A3865 u3860.length c3866], true⟩, ⟨b3884, 0, [.int .i64 0, .slice none 0 0, .bool false, .slice none 0 0, .slice none 0 0], true⟩, ⟨b3894, 0, [.int .i64 0, .slice none 0 0, .bool false, .slice A_ k c_, .slice none 0 0], true⟩] [⟨A_, c_, 26, 5, k, xs⟩] 61 2
    clear hW4076
    have hE4094 := EnvOk.pick hE4079 (ks := [6, 7, 35, 36, 37]) (env' := [(6, .p 1 0), (7, .p 2 0), (35, .v (.slice A4070 ((unknownT l u3860).length) c4071)), (36, .v (.int .i64 (((unknownT l u3860).length : Nat) : Int))), (37, .v (.int .i64 0))]) (by kernel_rfl)
    refine wp_loop_ghost (fun n_ a_ w_ => ∃ (q : Nat) (A5_ : Option Addr) (c5_ : Nat) (ys : List Value) (dss : List (List Value)), n_ = (unknownT l u3860).length - q ∧ q ≤ (unknownT l u3860).length ∧ (Tags w_ (Imm F w w_ [⟨b3876, 0, [.int .i64 n3856, .slice A3861 s3857.length c3862, .bool b3858, .slice A3863 l3859.length c3864, .slice A3865 u3860.length c3866], true⟩, ⟨b3884, 0, [.int .i64 0, .slice none 0 0, .bool false, .slice none 0 0, .slice none 0 0], true⟩, ⟨b3894, 0, [.int .i64 0, .slice none 0 0, .bool false, .slice A_ k c_, .slice A5_ q c5_], true⟩] [⟨A_, c_, 26, 5, k, xs⟩, ⟨A5_, c5_, 61, 2, q, ys⟩]) ys ((wholeU (unknownT l u3860)).take q) dss) ∧ EnvOk 54 [⟨b3876, 0, [.int .i64 n3856, .slice A3861 s3857.length c3862, .bool b3858, .slice A3863 l3859.length c3864, .slice A3865 u3860.length c3866], true⟩, ⟨b3884, 0, [.int .i64 0, .slice none 0 0, .bool false, .slice none 0 0, .slice none 0 0], true⟩, ⟨b3894, 0, [.int .i64 0, .slice none 0 0, .bool false, .slice A_ k c_, .slice A5_ q c5_], true⟩] [(6, .p 1 0), (7, .p 2 0), (35, .v (.slice A4070 ((unknownT l u3860).length) c4071)), (36, .v (.int .i64 (((unknownT l u3860).length : Nat) : Int))), (37, .v (.int .i64 ((q : Nat) : Int)))] a_ ∧ WOk w Nil w_ [⟨b3876, 0, [.int .i64 n3856, .slice A3861 s3857.length c3862, .bool b3858, .slice A3863 l3859.length c3864, .slice A3865 u3860.length c3866], true⟩, ⟨b3884, 0, [.int .i64 0, .slice none 0 0, .bool false, .slice none 0 0, .slice none 0 0], true⟩, ⟨b3894, 0, [.int .i64 0, .slice none 0 0, .bool false, .slice A_ k c_, .slice A5_ q c5_], true⟩] [⟨A_, c_, 26, 5, k, xs⟩, ⟨A5_, c5_, 61, 2, q, ys⟩] ∧ Fr w4072 [⟨b3876, 0, [.int .i64 n3856, .slice A3861 s3857.length c3862, .bool b3858, .slice A3863 l3859.length c3864, .slice A3865 u3860.length c3866], true⟩, ⟨b3884, 0, [.int .i64 0, .slice none 0 0, .bool false, .slice none 0 0, .slice none 0 0], true⟩, ⟨b3894, 0, [.int .i64 0, .slice none 0 0, .bool false, .slice A_ k c_, .slice none 0 0], true⟩] [⟨A_, c_, 26, 5, k, xs⟩, ⟨none, 0, 61, 2, 0, []⟩] w_ [⟨b3876, 0, [.int .i64 n3856, .slice A3861 s3857.length c3862, .bool b3858, .slice A3863 l3859.length c3864, .slice A3865 u3860.length c3866], true⟩, ⟨b3884, 0, [.int .i64 0, .slice none 0 0, .bool false, .slice none 0 0, .slice none 0 0], true⟩, ⟨b3894, 0, [.int .i64 0, .slice none 0 0, .bool false, .slice A_ k c_, .slice A5_ q c5_], true⟩] [⟨A_, c_, 26, 5, k, xs⟩, ⟨A5_, c5_, 61, 2, q, ys⟩]) ((unknownT l u3860).length) ⟨0, none, 0, [], [], by omega, by omega, Tags.nil _ _, hE4094, hW4084, Fr.refl _ _ _⟩ ?_
    clear hE4094 hE4079 hW4084
    rintro n4086 a4087 w4088 ⟨q, A5_, c5_, ys, dss, hn4091, hk4092, hU, hE4089, hW4090, hF4093⟩
    refine go_seq_region [0] (by kernel_rfl) ?_
    refine go_runs [0] [] [6, 7, 35, 36, 37, 38] hW4090 hE4089 (env' := [(6, .p 1 0), (7, .p 2 0), (35, .v (.slice A4070 ((unknownT l u3860).length) c4071)), (36, .v (.int .i64 (((unknownT l u3860).length : Nat) : Int))), (37, .v (.int .i64 ((q : Nat) : Int))), (38, .v (.bool (decide (((q : Nat) : Int) < (((unknownT l u3860).length : Nat) : Int)))))]) (by kernel_rfl) rfl fun a4095 hE4096 => ?_
    clear hE4089
    refine wpOps_nil ?_
    refine then_normal ?_
    refine wp_seq ?_
    refine cond_of hE4096 (b := decide (((q : Nat) : Int) < (((unknownT l u3860).length : Nat) : Int))) (by kernel_rfl) (fun hc4097 => ?_) (fun hc4097 => ?_)
    ·
      have hf4098 := of_decide_eq_true hc4097
      refine wp_skip ?_
      refine then_normal ?_
      refine wp_seq ?_
      refine wp_block ?_
      refine go_seq_region [0, 1, 2, 3] (by kernel_rfl) ?_
      obtain ⟨b4099, o4100, hA4101, hl4102, hat4103⟩ := Slots.get h4081 (i := q) (by omega)
      obtain ⟨⟨k4104, s4105⟩, he4106⟩ : ∃ x, (unknownT l u3860)[q]? = some x := ⟨_, List.getElem?_eq_getElem (by omega)⟩
      obtain ⟨⟨A4107, c4108, hcs4109, hb4110⟩, h4111, h4112⟩ := h4082 q k4104 s4105 he4106
      rw [hcs4109] at hat4103
      refine of_op (wpOp_index hE4096 (t := 24) (A := A4070) (m := (unknownT l u3860).length) (q := ((q : Nat) : Int)) (d := 39) (by kernel_rfl) (e := 61) (size := 2) (bytes := 32) (by kernel_rfl) hA4101 rfl (by omega) fun a4113 hE4114 => ?_)
      clear hE4096
      refine of_op (wpOp_load hE4114 (t := 61) (b := b4099) (o := o4100 + q * 2) (d := 40) (by kernel_rfl) (cs := [.int .u32 k4104, .slice A4107 s4105.length c4108]) (v := .agg #[.int .u32 k4104, .slice A4107 s4105.length c4108]) (by kernel_rfl) (AtF.move hat4103 (Fr.trans hF4085 hF4093).step immM (Fr.trans hF4085 hF4093).to').at_ fun a4115 hE4116 => ?_)
      clear hE4114
      refine of_op (wpOp_alloc hW4090 hE4116 (d := 11) (cs := [.int .u32 0, .slice none 0 0]) (by kernel_rfl) fun b4117 a4118 w4119 hb4120 hz4121 hF4122 hW4123 hE4124 => ?_)
      clear hE4116 hW4090
      refine of_op (wpOp_store hW4123 hE4124 (oi := 3) (cs := [.int .u32 k4104, .slice A4107 s4105.length c4108]) (by kernel_rfl) fun w4125 hF4126 hW4127 hE4128 => ?_)
      clear hE4124 hW4123
      refine wpOps_nil ?_
      refine then_normal ?_
      refine go_drawK 11 (by kernel_rfl) hW4127 fun w4129 hF4130 hW4131 hT4132 => ?_
      clear hW4127
      refine go_runsD [0, 1, 2, 3, 4, 5] [6, 7, 35, 36, 37, 42, 44, 46] 6 (by kernel_rfl) (panicFree_block (panicFree_then (panicFree_then (panicFree_block (panicFree_then panicFree_body))))) (fun _ h => h.cells) hT4132 hE4128 (by kernel_rfl) (env' := [(6, .p 1 0), (7, .p 2 0), (35, .v (.slice A4070 ((unknownT l u3860).length) c4071)), (36, .v (.int .i64 (((unknownT l u3860).length : Nat) : Int))), (37, .v (.int .i64 ((q : Nat) : Int))), (42, .v (.slice A5_ q c5_)), (44, .v (.int .u32 k4104)), (46, .v (.slice A4107 s4105.length c4108))]) (by kernel_rfl) rfl fun a4133 hE4134 => ?_
      clear hE4128
      have hwl4136 := whole_le s4105
      refine anyC_op (i := 6) (by kernel_rfl) (wpOp_call hE4134 (f := 50) (vs := [.slice A4107 s4105.length c4108]) (d := 47) (by kernel_rfl) Try.call50 (sWhole _ _ s4105 (hb4110.move (Fr.trans (Fr.trans (Fr.trans (Fr.trans hF4085 hF4093) hF4122) hF4126) hF4130).step immM (Fr.trans (Fr.trans (Fr.trans (Fr.trans hF4085 hF4093) hF4122) hF4126) hF4130).to').le _) ?_)
      rintro e_ w4137 ⟨rfl, hs4135⟩
      refine ⟨_, rfl, fun a4138 hE4139 => ?_⟩
      have hW4140 := hW4131.next_nil hs4135
      have hF4141 := Fr.nil [⟨b3876, 0, [.int .i64 n3856, .slice A3861 s3857.length c3862, .bool b3858, .slice A3863 l3859.length c3864, .slice A3865 u3860.length c3866], true⟩, ⟨b3884, 0, [.int .i64 0, .slice none 0 0, .bool false, .slice none 0 0, .slice none 0 0], true⟩, ⟨b3894, 0, [.int .i64 0, .slice none 0 0, .bool false, .slice A_ k c_, .slice A5_ q c5_], true⟩, ⟨b4117, 0, [.int .u32 k4104, .slice A4107 s4105.length c4108], true⟩] [⟨A_, c_, 26, 5, k, xs⟩, ⟨A5_, c5_, 61, 2, q, ys⟩] hs4135
      clear hE4134
      have hT4142 : TT w4129 [⟨b3876, 0, [.int .i64 n3856, .slice A3861 s3857.length c3862, .bool b3858, .slice A3863 l3859.length c3864, .slice A3865 u3860.length c3866], true⟩, ⟨b3884, 0, [.int .i64 0, .slice none 0 0, .bool false, .slice none 0 0, .slice none 0 0], true⟩, ⟨b3894, 0, [.int .i64 0, .slice none 0 0, .bool false, .slice A_ k c_, .slice A5_ q c5_], true⟩, ⟨b4117, 0, [.int .u32 k4104, .slice A4107 s4105.length c4108], true⟩] [⟨A_, c_, 26, 5, k, xs⟩, ⟨A5_, c5_, 61, 2, q, ys⟩] w4137 := ⟨hW4140.cells, hF4141.step⟩
      refine ⟨fun _ => hT4142, ?_⟩
      refine go_runsD [7] [6, 7, 35, 36, 37, 42, 48] 4 (by kernel_rfl) (panicFree_block (panicFree_then (panicFree_then (panicFree_block (panicFree_then panicFree_body))))) (fun _ h => h.cells) hT4142 hE4139 (by kernel_rfl) (env' := [(6, .p 1 0), (7, .p 2 0), (35, .v (.slice A4070 ((unknownT l u3860).length) c4071)), (36, .v (.int .i64 (((unknownT l u3860).length : Nat) : Int))), (37, .v (.int .i64 ((q : Nat) : Int))), (42, .v (.slice A5_ q c5_)), (48, .v (.agg #[.int .u32 k4104, .slice A4107 ((whole s4105).length) c4108]))]) (by kernel_rfl) rfl fun a4143 hE4144 => ?_
      clear hE4139
      refine anyC_op (i := 8) (by kernel_rfl) (wpOp_lit hW4140 hE4144 (e := 61) (size := 2) (len := 1) (cs := [.int .u32 k4104, .slice A4107 ((whole s4105).length) c4108]) (d := 49) (by kernel_rfl) (by kernel_rfl) fun b4145 a4146 w4147 hb4148 hz4149 hF4150 hW4151 hE4152 => ?_)
      clear hE4144 hW4140
      have hT4153 : TT w4129 [⟨b3876, 0, [.int .i64 n3856, .slice A3861 s3857.length c3862, .bool b3858, .slice A3863 l3859.length c3864, .slice A3865 u3860.length c3866], true⟩, ⟨b3884, 0, [.int .i64 0, .slice none 0 0, .bool false, .slice none 0 0, .slice none 0 0], true⟩, ⟨b3894, 0, [.int .i64 0, .slice none 0 0, .bool false, .slice A_ k c_, .slice A5_ q c5_], true⟩, ⟨b4117, 0, [.int .u32 k4104, .slice A4107 s4105.length c4108], true⟩] [⟨A_, c_, 26, 5, k, xs⟩, ⟨A5_, c5_, 61, 2, q, ys⟩] w4147 := ⟨hW4151.cells, (Fr.trans hF4141 hF4150).step⟩
      refine ⟨fun _ => hT4153, ?_⟩
      refine anyC_op (i := 9) (by kernel_rfl) (wpOp_append hW4151 hE4152 (k := 1) (d := 50) (t := 24) (e := 61) (size := 2) (bytes := 32) (A := A5_) (As := (some ⟨b4145, 0, none⟩)) (m0 := q) (c := c5_) (m := 1) (cs := 1) (xs := ys) (news := [.int .u32 k4104, .slice A4107 ((whole s4105).length) c4108]) (by kernel_rfl) (by kernel_rfl) rfl (own_src (hW4151.own 2 _ rfl) (allOne_ok (by kernel_rfl))) (own_cap (hW4151.own 2 _ rfl)) (by omega) fun A4154 c4155 a4156 w4157 hF4158 hW4159 hE4160 => ?_)
      clear hE4152 hW4151
      have hT4161 : TT w4129 [⟨b3876, 0, [.int .i64 n3856, .slice A3861 s3857.length c3862, .bool b3858, .slice A3863 l3859.length c3864, .slice A3865 u3860.length c3866], true⟩, ⟨b3884, 0, [.int .i64 0, .slice none 0 0, .bool false, .slice none 0 0, .slice none 0 0], true⟩, ⟨b3894, 0, [.int .i64 0, .slice none 0 0, .bool false, .slice A_ k c_, .slice A5_ q c5_], true⟩, ⟨b4117, 0, [.int .u32 k4104, .slice A4107 s4105.length c4108], true⟩] [⟨A_, c_, 26, 5, k, xs⟩, ⟨A5_, c5_, 61, 2, q, ys⟩] w4157 := ⟨hW4159.cells, (Fr.trans (Fr.trans hF4141 hF4150) hF4158).step⟩
      refine ⟨fun _ => hT4161, ?_⟩
      refine go_runsD [10] [6, 7, 35, 36, 37, 50, 51] 1 (by kernel_rfl) (panicFree_block (panicFree_then (panicFree_then (panicFree_block (panicFree_then panicFree_body))))) (fun _ h => h.cells) hT4161 hE4160 (by kernel_rfl) (env' := [(6, .p 1 0), (7, .p 2 0), (35, .v (.slice A4070 ((unknownT l u3860).length) c4071)), (36, .v (.int .i64 (((unknownT l u3860).length : Nat) : Int))), (37, .v (.int .i64 ((q : Nat) : Int))), (50, .v (.slice A4154 (q + 1) c4155)), (51, .p 2 4)]) (by kernel_rfl) rfl fun a4162 hE4163 => ?_
      clear hE4160
      refine anyC_op (i := 11) (by kernel_rfl) (wpOp_store hW4159 hE4163 (oi := 2) (cs := [.int .i64 0, .slice none 0 0, .bool false, .slice A_ k c_, .slice A4154 (q + 1) c4155]) (by kernel_rfl) fun w4164 hF4165 hW4166 hE4167 => ?_)
      clear hE4163 hW4159
      refine ⟨fun h => absurd rfl h, ?_⟩
      refine anyC_done (by kernel_rfl) ?_ _
      refine block_normal ?_
      refine then_normal ?_
      refine go_region [0, 1] (by kernel_rfl) ?_
      refine go_runs [0, 1] [] [6, 7, 35, 36, 37] hW4166 hE4167 (env' := [(6, .p 1 0), (7, .p 2 0), (35, .v (.slice A4070 ((unknownT l u3860).length) c4071)), (36, .v (.int .i64 (((unknownT l u3860).length : Nat) : Int))), (37, .v (.int .i64 (IntKind.i64.wrap (((q : Nat) : Int) + 1))))]) (by kernel_rfl) rfl fun a4168 hE4169 => ?_
      clear hE4167
      refine wpOps_nil ?_
      refine then_normal ?_
      have hE4170 := EnvOk.pick hE4169 (ks := [6, 7, 35, 36, 37]) (env' := [(6, .p 1 0), (7, .p 2 0), (35, .v (.slice A4070 ((unknownT l u3860).length) c4071)), (36, .v (.int .i64 (((unknownT l u3860).length : Nat) : Int))), (37, .v (.int .i64 (IntKind.i64.wrap (((q : Nat) : Int) + 1))))]) (by kernel_rfl)
      have hE4171 : EnvOk 54 [⟨b3876, 0, [.int .i64 n3856, .slice A3861 s3857.length c3862, .bool b3858, .slice A3863 l3859.length c3864, .slice A3865 u3860.length c3866], true⟩, ⟨b3884, 0, [.int .i64 0, .slice none 0 0, .bool false, .slice none 0 0, .slice none 0 0], true⟩, ⟨b3894, 0, [.int .i64 0, .slice none 0 0, .bool false, .slice A_ k c_, .slice A4154 (q + 1) c4155], true⟩] _ _ := hE4170.cutTb 3 (by kernel_rfl)
      have hW4172 : WOk _ _ _ [⟨b3876, 0, [.int .i64 n3856, .slice A3861 s3857.length c3862, .bool b3858, .slice A3863 l3859.length c3864, .slice A3865 u3860.length c3866], true⟩, ⟨b3884, 0, [.int .i64 0, .slice none 0 0, .bool false, .slice none 0 0, .slice none 0 0], true⟩, ⟨b3894, 0, [.int .i64 0, .slice none 0 0, .bool false, .slice A_ k c_, .slice A4154 (q + 1) c4155], true⟩] _ := hW4166.cutTb 3
      have hF4173 : Fr _ _ _ _ [⟨b3876, 0, [.int .i64 n3856, .slice A3861 s3857.length c3862, .bool b3858, .slice A3863 l3859.length c3864, .slice A3865 u3860.length c3866], true⟩, ⟨b3884, 0, [.int .i64 0, .slice none 0 0, .bool false, .slice none 0 0, .slice none 0 0], true⟩, ⟨b3894, 0, [.int .i64 0, .slice none 0 0, .bool false, .slice A_ k c_, .slice A4154 (q + 1) c4155], true⟩] _ := Fr.cutTb w4164 [⟨b3876, 0, [.int .i64 n3856, .slice A3861 s3857.length c3862, .bool b3858, .slice A3863 l3859.length c3864, .slice A3865 u3860.length c3866], true⟩, ⟨b3884, 0, [.int .i64 0, .slice none 0 0, .bool false, .slice none 0 0, .slice none 0 0], true⟩, ⟨b3894, 0, [.int .i64 0, .slice none 0 0, .bool false, .slice A_ k c_, .slice A4154 (q + 1) c4155], true⟩, ⟨b4117, 0, [.int .u32 k4104, .slice A4107 s4105.length c4108], true⟩] [⟨A_, c_, 26, 5, k, xs⟩, ⟨A4154, c4155, 61, 2, q + 1, ys ++ [.int .u32 k4104, .slice A4107 ((whole s4105).length) c4108]⟩, ⟨some ⟨b4145, 0, none⟩, 1, 61, 2, 1, [.int .u32 k4104, .slice A4107 ((whole s4105).length) c4108]⟩] 3
      have hW4174 : WOk _ _ _ _ [⟨A_, c_, 26, 5, k, xs⟩, ⟨A4154, c4155, 61, 2, q + 1, ys ++ [.int .u32 k4104, .slice A4107 ((whole s4105).length) c4108]⟩] := hW4172.rows 2
      have hF4175 : Fr _ _ _ _ _ [⟨A_, c_, 26, 5, k, xs⟩, ⟨A4154, c4155, 61, 2, q + 1, ys ++ [.int .u32 k4104, .slice A4107 ((whole s4105).length) c4108]⟩] := Fr.rows w4164 [⟨b3876, 0, [.int .i64 n3856, .slice A3861 s3857.length c3862, .bool b3858, .slice A3863 l3859.length c3864, .slice A3865 u3860.length c3866], true⟩, ⟨b3884, 0, [.int .i64 0, .slice none 0 0, .bool false, .slice none 0 0, .slice none 0 0], true⟩, ⟨b3894, 0, [.int .i64 0, .slice none 0 0, .bool false, .slice A_ k c_, .slice A4154 (q + 1) c4155], true⟩] [⟨A_, c_, 26, 5, k, xs⟩, ⟨A4154, c4155, 61, 2, q + 1, ys ++ [.int .u32 k4104, .slice A4107 ((whole s4105).length) c4108]⟩, ⟨some ⟨b4145, 0, none⟩, 1, 61, 2, 1, [.int .u32 k4104, .slice A4107 ((whole s4105).length) c4108]⟩] 2
      have hE4176 := EnvOk.pick hE4171 (ks := [6, 7, 35, 36, 37]) (env' := [(6, .p 1 0), (7, .p 2 0), (35, .v (.slice A4070 ((unknownT l u3860).length) c4071)), (36, .v (.int .i64 (((unknownT l u3860).length : Nat) : Int))), (37, .v (.int .i64 (IntKind.i64.wrap (((q : Nat) : Int) + 1))))]) (by kernel_rfl)
      have he4177 : IntKind.i64.wrap (((q : Nat) : Int) + 1) = ((q + 1 : Nat) : Int) := wrap_succ (by omega)
      rw [he4177] at hE4176
      exact ⟨(unknownT l u3860).length - (q + 1), by omega, q + 1, A4154, c4155, ys ++ [Value.int .u32 k4104, .slice A4107 ((whole s4105).length) c4108], (dss ++ [[Value.int .u32 k4104, .slice A4107 ((whole s4105).length) c4108]]), rfl, by omega, by rw [take_succ_of (wholeU_get he4106)]; exact (hU.move (Fr.trans (Fr.trans (Fr.trans (Fr.trans (Fr.trans (Fr.trans (Fr.trans (Fr.trans hF4122 hF4126) hF4130) hF4141) hF4150) hF4158) hF4165) hF4173) hF4175).step immM (Fr.trans (Fr.trans (Fr.trans (Fr.trans (Fr.trans (Fr.trans (Fr.trans (Fr.trans hF4122 hF4126) hF4130) hF4141) hF4150) hF4158) hF4165) hF4173) hF4175).to').snoc (c := [.int .u32 k4104, .slice A4107 ((whole s4105).length) c4108]) (x := (k4104, whole s4105)) ⟨⟨_, _, rfl, ((hb4110.move (Fr.trans (Fr.trans (Fr.trans (Fr.trans (Fr.trans (Fr.trans (Fr.trans (Fr.trans (Fr.trans (Fr.trans hF4085 hF4093) hF4122) hF4126) hF4130) hF4141) hF4150) hF4158) hF4165) hF4173) hF4175).step immM (Fr.trans (Fr.trans (Fr.trans (Fr.trans (Fr.trans (Fr.trans (Fr.trans (Fr.trans (Fr.trans (Fr.trans hF4085 hF4093) hF4122) hF4126) hF4130) hF4141) hF4150) hF4158) hF4165) hF4173) hF4175).to').take 32767)⟩, h4111, h4112⟩, hE4176, hW4174, (Fr.trans (Fr.trans (Fr.trans (Fr.trans (Fr.trans (Fr.trans (Fr.trans (Fr.trans (Fr.trans hF4093 hF4122) hF4126) hF4130) hF4141) hF4150) hF4158) hF4165) hF4173) hF4175)⟩
    ·
      have hf4178 := of_decide_eq_false hc4097
      refine wp_exit ?_
      refine then_exit ?_
      refine then_exit ?_
      refine block_exit ?_
      refine then_normal ?_
      refine go_seq_region [0, 1] (by kernel_rfl) ?_
      refine go_runs [0] [1] [6, 53] hW4090 hE4096 (env' := [(6, .p 1 0), (53, .v (.agg #[.int .i64 0, .slice none 0 0, .bool false, .slice A_ k c_, .slice A5_ q c5_]))]) (by kernel_rfl) rfl fun a4179 hE4180 => ?_
      clear hE4096
      refine of_op (wpOp_store hW4090 hE4180 (oi := 1) (cs := [.int .i64 0, .slice none 0 0, .bool false, .slice A_ k c_, .slice A5_ q c5_]) (by kernel_rfl) fun w4181 hF4182 hW4183 hE4184 => ?_)
      clear hE4180 hW4090
      refine wpOps_nil ?_
      refine then_normal ?_
      refine wp_ret ?_
      refine leave hE4184 hW4183.cells (v := .agg #[.int .i64 0, .slice none 0 0, .bool false, .slice A_ k c_, .slice A5_ q c5_]) (by kernel_rfl) ?_
      have hq0 : q = (wholeU (unknownT l u3860)).length := by rw [wholeU_len]; omega
      have hT' := (hT.move (Fr.trans (Fr.trans (Fr.trans hF4077 hF4085) hF4093) hF4182).step immM (Fr.trans (Fr.trans (Fr.trans hF4077 hF4085) hF4093) hF4182).to')
      have hU' := (hU.move hF4182.step immM hF4182.to')
      rw [show (fitsW W l (Tree.mk n3856 s3857 b3858 l3859 u3860) 0).take k = (fitsW W l (Tree.mk n3856 s3857 b3858 l3859 u3860) 0) by rw [hk0, List.take_length]] at hT'
      rw [show (wholeU (unknownT l u3860)).take q = (wholeU (unknownT l u3860)) by rw [hq0, List.take_length]] at hU'
      exact tree_end hW4183 rfl (Octs.nil _ _) hk0 (trees_fp hW4183 (k := 0) rfl hT' hk0 (by rw [fits_len]; omega)) hq0 (tags_fp hW4183 (k := 1) rfl hU' hq0 (by rw [wholeU_len]; omega)) rfl

theorem sFitOK : ∀ d, FitOK d
  | 0 => fun A c l v ct t w F hl hpl hd ht => sFit (fun _ _ => .zero) A c l v ct t w F (fun cf f ct t w F hm hf ht => by
      obtain ⟨i, hi⟩ := List.mem_iff_getElem?.1 hm
      have h := depths_get hi
      obtain ⟨k, x1, x2, x3, x4, x5, x6, l, A, c, xs, rfl, _⟩ := hf.open_
      rw [depth_mk] at h; omega) hl ht
  | d + 1 => fun A c l v ct t w F hl hpl hd ht => sFit (fittedW (fitT v d) v) A c l v ct t w F (fun cf f ct t w F hm hf ht => sFitted (sFitOK d) cf f v ct t w F hf (plains_mem hpl hm) (by
      obtain ⟨i, hi⟩ := List.mem_iff_getElem?.1 hm
      have h := depths_get hi
      obtain ⟨k, x1, x2, x3, x4, x5, x6, l, A, c, xs, rfl, _⟩ := hf.open_
      rw [depth_mk] at h
      show depths l ≤ d
      omega) ht) hl ht

end Go.Proofs.Ytbjopfcbpobnpaa.ME
