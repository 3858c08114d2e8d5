/- Contracts: printed by tools/sp.py. Own work. -/
import Derived.Test.YtlkiilgbpliakaaSy
namespace Go.Proofs.Ytlkiilgbpliakaa.ME
open Go
set_option linter.unusedVariables false
set_option linter.unusedSimpArgs false
set_option maxRecDepth 20000

/-- the fitting of a part whose fields are at most d deep -/
def FitOK (d : Nat) : Prop := ∀ (A : Option Addr) (c : Nat) (l : List Fld) (v : Int) (ct : List Value) (t : Tree) (w : World) (F : Nat → Nat → Prop), FldsR w F A c l → plains l → depths l ≤ d → TreeR w F ct t →
    Calls Try.prog 13 #[.slice A l.length c, .int .i64 v, .agg ct.toArray] w (GivesT w F (fitT v d l t))

theorem sFitted0 {d : Nat} (hfit : FitOK d) (cf : List Value) (f : Fld) (v : Int) (ct : List Value) (t : Tree) (w : World) (F : Nat → Nat → Prop) (hf : FldR w F cf f) (hpl : plains f.sub) (hd : depths f.sub ≤ d) (hk11 : f.kind ≠ 11) (ht : TreeR w F ct t) :
    Calls Try.prog 32 #[.agg cf.toArray, .int .i64 v, .agg ct.toArray] w (GivesT w F (fitted0 (fitT v d) f (f.nul v t) t)) := by
  obtain ⟨n3090, s3091, b3092, l3093, u3094, A3095, c3096, A3097, c3098, A3099, c3100, xs3101, rfl, rfl, h3103, h3104, h3105, h3106⟩ := ht.open_
  have hsm3108 := h3103.small
  have hsm3109 := h3104.small
  obtain ⟨k3110, y3111, y3112, y3113, y3114, y3115, y3116, l3117, A3118, c3119, xs3120, rfl, rfl, h3122, h3123⟩ := hf.open_
  have hsm3124 := h3122.small
  have hk11 : k3110 ≠ 11 := hk11
  refine enter (n := 82) Try.func32 rfl Try.ntmps32 (by kernel_rfl) fun a hE => ?_
  have hW := WOk.start w Nil
  refine go_seq_region [0, 1, 2] (by kernel_rfl) ?_
  refine of_op (wpOp_box hW hE (d := 3) (cs := [.int .i64 k3110, .int .i64 y3111, .int .i64 y3112, .int .i64 y3113, .int .i64 y3114, .int .i64 y3115, .int .i64 y3116, .slice A3118 l3117.length c3119]) (by kernel_rfl) fun b3125 a3126 w3127 hb3128 hz3129 hF3130 hW3131 hE3132 => ?_)
  clear hE hW
  refine of_op (wpOp_box hW3131 hE3132 (d := 5) (cs := [.int .i64 n3090, .slice A3095 s3091.length c3096, .bool b3092, .slice A3097 l3093.length c3098, .slice A3099 u3094.length c3100]) (by kernel_rfl) fun b3133 a3134 w3135 hb3136 hz3137 hF3138 hW3139 hE3140 => ?_)
  clear hE3132 hW3131
  refine of_op (wpOp_alloc hW3139 hE3140 (d := 6) (cs := [.int .i64 0, .slice none 0 0, .bool false, .slice none 0 0, .slice none 0 0]) (by kernel_rfl) fun b3141 a3142 w3143 hb3144 hz3145 hF3146 hW3147 hE3148 => ?_)
  clear hE3140 hW3139
  refine wpOps_nil ?_
  refine then_normal ?_
  refine go_seq_region [0, 1, 2, 3, 4] (by kernel_rfl) ?_
  refine go_runs [0, 1, 2] [3, 4] [1, 3, 5, 6, 13, 14, 15] hW3147 hE3148 (env' := [(1, .v (.int .i64 v)), (3, .p 0 0), (5, .p 1 0), (6, .p 2 0), (13, .v (.agg #[.int .i64 k3110, .int .i64 y3111, .int .i64 y3112, .int .i64 y3113, .int .i64 y3114, .int .i64 y3115, .int .i64 y3116, .slice A3118 l3117.length c3119])), (14, .v (.int .i64 v)), (15, .v (.agg #[.int .i64 n3090, .slice A3095 s3091.length c3096, .bool b3092, .slice A3097 l3093.length c3098, .slice A3099 u3094.length c3100]))]) (by kernel_rfl) rfl fun a3149 hE3150 => ?_
  clear hE3148
  refine of_op (wpOp_call hE3150 (f := 62) (vs := [.agg #[.int .i64 k3110, .int .i64 y3111, .int .i64 y3112, .int .i64 y3113, .int .i64 y3114, .int .i64 y3115, .int .i64 y3116, .slice A3118 l3117.length c3119], .int .i64 v, .agg #[.int .i64 n3090, .slice A3095 s3091.length c3096, .bool b3092, .slice A3097 l3093.length c3098, .slice A3099 u3094.length c3100]]) (d := 16) (by kernel_rfl) Try.call62 (sNull k3110 y3111 y3112 y3113 y3114 y3115 y3116 l3117 _ _ v n3090 s3091 b3092 l3093 u3094 _ _ _ _ _ _ _) ?_)
  rintro e_ w3152 ⟨rfl, hs3151⟩
  refine ⟨_, rfl, fun a3153 hE3154 => ?_⟩
  have hW3155 := hW3147.next_nil hs3151
  have hF3156 := Fr.nil [⟨b3125, 0, [.int .i64 k3110, .int .i64 y3111, .int .i64 y3112, .int .i64 y3113, .int .i64 y3114, .int .i64 y3115, .int .i64 y3116, .slice A3118 l3117.length c3119], true⟩, ⟨b3133, 0, [.int .i64 n3090, .slice A3095 s3091.length c3096, .bool b3092, .slice A3097 l3093.length c3098, .slice A3099 u3094.length c3100], true⟩, ⟨b3141, 0, [.int .i64 0, .slice none 0 0, .bool false, .slice none 0 0, .slice none 0 0], true⟩] [] hs3151
  clear hE3150 hW3147
  refine go_runs [4] [] [1, 3, 5, 6, 7] hW3155 hE3154 (env' := [(1, .v (.int .i64 v)), (3, .p 0 0), (5, .p 1 0), (6, .p 2 0), (7, .v (.bool (Fld.nul (Fld.mk k3110 y3111 y3112 y3113 y3114 y3115 y3116 l3117) v (Tree.mk n3090 s3091 b3092 l3093 u3094))))]) (by kernel_rfl) rfl fun a3157 hE3158 => ?_
  clear hE3154
  refine wpOps_nil ?_
  refine then_normal ?_
  refine wp_seq ?_
  refine go_seq_region [0, 1] (by kernel_rfl) ?_
  refine go_runs [0, 1] [] [1, 3, 5, 6, 7, 18] hW3155 hE3158 (env' := [(1, .v (.int .i64 v)), (3, .p 0 0), (5, .p 1 0), (6, .p 2 0), (7, .v (.bool (Fld.nul (Fld.mk k3110 y3111 y3112 y3113 y3114 y3115 y3116 l3117) v (Tree.mk n3090 s3091 b3092 l3093 u3094)))), (18, .v (.int .i64 k3110))]) (by kernel_rfl) rfl fun a3159 hE3160 => ?_
  clear hE3158
  refine wpOps_nil ?_
  refine then_normal ?_
  refine wp_block ?_
  refine wp_seq ?_
  refine go_seq_region [0, 1] (by kernel_rfl) ?_
  refine go_runs [0, 1] [] [1, 3, 5, 6, 7, 18, 19] hW3155 hE3160 (env' := [(1, .v (.int .i64 v)), (3, .p 0 0), (5, .p 1 0), (6, .p 2 0), (7, .v (.bool (Fld.nul (Fld.mk k3110 y3111 y3112 y3113 y3114 y3115 y3116 l3117) v (Tree.mk n3090 s3091 b3092 l3093 u3094)))), (18, .v (.int .i64 k3110)), (19, .v (.bool (k3110 == 8)))]) (by kernel_rfl) rfl fun a3161 hE3162 => ?_
  clear hE3160
  refine wpOps_nil ?_
  refine then_normal ?_
  refine cond_of hE3162 (b := k3110 == 8) (by kernel_rfl) (fun hc3163 => ?_) (fun hc3163 => ?_)
  ·
    have hf3164 : k3110 = 8 := by simpa using hc3163
    refine wp_skip ?_
    refine then_normal ?_
    refine cond_true hE3162 (b := k3110 == 8) (by kernel_rfl) (hc3163) ?_
    refine go_seq_region [0, 1, 2, 3, 4, 5] (by kernel_rfl) ?_
    refine go_runs [0, 1] [2, 3, 4, 5] [6, 7, 23] hW3155 hE3162 (env' := [(6, .p 2 0), (7, .v (.bool (Fld.nul (Fld.mk k3110 y3111 y3112 y3113 y3114 y3115 y3116 l3117) v (Tree.mk n3090 s3091 b3092 l3093 u3094)))), (23, .v (.slice A3095 s3091.length c3096))]) (by kernel_rfl) rfl fun a3165 hE3166 => ?_
    clear hE3162
    have hwl3168 := whole_le s3091
    refine of_op (wpOp_call hE3166 (f := 35) (vs := [.slice A3095 s3091.length c3096]) (d := 24) (by kernel_rfl) Try.call35 (sWhole _ _ s3091 (h3103.move hW3155.step nilM hW3155.imm).le _) ?_)
    rintro e_ w3169 ⟨rfl, hs3167⟩
    refine ⟨_, rfl, fun a3170 hE3171 => ?_⟩
    have hW3172 := hW3155.next_nil hs3167
    have hF3173 := Fr.nil [⟨b3125, 0, [.int .i64 k3110, .int .i64 y3111, .int .i64 y3112, .int .i64 y3113, .int .i64 y3114, .int .i64 y3115, .int .i64 y3116, .slice A3118 l3117.length c3119], true⟩, ⟨b3133, 0, [.int .i64 n3090, .slice A3095 s3091.length c3096, .bool b3092, .slice A3097 l3093.length c3098, .slice A3099 u3094.length c3100], true⟩, ⟨b3141, 0, [.int .i64 0, .slice none 0 0, .bool false, .slice none 0 0, .slice none 0 0], true⟩] [] hs3167
    clear hE3166 hW3155
    refine go_runs [3, 4] [5] [6, 26] hW3172 hE3171 (env' := [(6, .p 2 0), (26, .v (.agg #[.int .i64 0, .slice A3095 ((whole s3091).length) c3096, .bool (Fld.nul (Fld.mk k3110 y3111 y3112 y3113 y3114 y3115 y3116 l3117) v (Tree.mk n3090 s3091 b3092 l3093 u3094)), .slice none 0 0, .slice none 0 0]))]) (by kernel_rfl) rfl fun a3174 hE3175 => ?_
    clear hE3171
    refine of_op (wpOp_store hW3172 hE3175 (oi := 2) (cs := [.int .i64 0, .slice A3095 ((whole s3091).length) c3096, .bool (Fld.nul (Fld.mk k3110 y3111 y3112 y3113 y3114 y3115 y3116 l3117) v (Tree.mk n3090 s3091 b3092 l3093 u3094)), .slice none 0 0, .slice none 0 0]) (by kernel_rfl) fun w3176 hF3177 hW3178 hE3179 => ?_)
    clear hE3175 hW3172
    refine wpOps_nil ?_
    refine then_normal ?_
    refine wp_ret ?_
    refine block_ret ?_
    refine then_ret ?_
    refine leave hE3179 hW3178.cells (v := .agg #[.int .i64 0, .slice A3095 ((whole s3091).length) c3096, .bool (Fld.nul (Fld.mk k3110 y3111 y3112 y3113 y3114 y3115 y3116 l3117) v (Tree.mk n3090 s3091 b3092 l3093 u3094)), .slice none 0 0, .slice none 0 0]) (by kernel_rfl) ?_
    exact tree_end hW3178 rfl (((h3103.take 32767).move hW3178.step nilM hW3178.imm).move (Step.refl _ Nil) nilM immOut) rfl (noTrees _ _) rfl (TagsR.nil _ _) (fitted_8 (by omega))
  ·
    have hf3180 : k3110 ≠ 8 := by simpa using hc3163
    refine go_region [0, 1] (by kernel_rfl) ?_
    refine go_runs [0, 1] [] [1, 3, 5, 6, 7, 18, 19] hW3155 hE3162 (env' := [(1, .v (.int .i64 v)), (3, .p 0 0), (5, .p 1 0), (6, .p 2 0), (7, .v (.bool (Fld.nul (Fld.mk k3110 y3111 y3112 y3113 y3114 y3115 y3116 l3117) v (Tree.mk n3090 s3091 b3092 l3093 u3094)))), (18, .v (.int .i64 k3110)), (19, .v (.bool (k3110 == 9)))]) (by kernel_rfl) rfl fun a3181 hE3182 => ?_
    clear hE3162
    refine wpOps_nil ?_
    refine then_normal ?_
    refine cond_of hE3182 (b := k3110 == 9) (by kernel_rfl) (fun hc3183 => ?_) (fun hc3183 => ?_)
    ·
      have hf3184 : k3110 = 9 := by simpa using hc3183
      refine go_seq_region [0, 1, 2, 3, 4, 5] (by kernel_rfl) ?_
      refine go_runs [0, 1] [2, 3, 4, 5] [6, 7, 23] hW3155 hE3182 (env' := [(6, .p 2 0), (7, .v (.bool (Fld.nul (Fld.mk k3110 y3111 y3112 y3113 y3114 y3115 y3116 l3117) v (Tree.mk n3090 s3091 b3092 l3093 u3094)))), (23, .v (.slice A3095 s3091.length c3096))]) (by kernel_rfl) rfl fun a3185 hE3186 => ?_
      clear hE3182
      have hwl3188 := whole_le s3091
      refine of_op (wpOp_call hE3186 (f := 35) (vs := [.slice A3095 s3091.length c3096]) (d := 24) (by kernel_rfl) Try.call35 (sWhole _ _ s3091 (h3103.move hW3155.step nilM hW3155.imm).le _) ?_)
      rintro e_ w3189 ⟨rfl, hs3187⟩
      refine ⟨_, rfl, fun a3190 hE3191 => ?_⟩
      have hW3192 := hW3155.next_nil hs3187
      have hF3193 := Fr.nil [⟨b3125, 0, [.int .i64 k3110, .int .i64 y3111, .int .i64 y3112, .int .i64 y3113, .int .i64 y3114, .int .i64 y3115, .int .i64 y3116, .slice A3118 l3117.length c3119], true⟩, ⟨b3133, 0, [.int .i64 n3090, .slice A3095 s3091.length c3096, .bool b3092, .slice A3097 l3093.length c3098, .slice A3099 u3094.length c3100], true⟩, ⟨b3141, 0, [.int .i64 0, .slice none 0 0, .bool false, .slice none 0 0, .slice none 0 0], true⟩] [] hs3187
      clear hE3186 hW3155
      refine go_runs [3, 4] [5] [6, 26] hW3192 hE3191 (env' := [(6, .p 2 0), (26, .v (.agg #[.int .i64 0, .slice A3095 ((whole s3091).length) c3096, .bool (Fld.nul (Fld.mk k3110 y3111 y3112 y3113 y3114 y3115 y3116 l3117) v (Tree.mk n3090 s3091 b3092 l3093 u3094)), .slice none 0 0, .slice none 0 0]))]) (by kernel_rfl) rfl fun a3194 hE3195 => ?_
      clear hE3191
      refine of_op (wpOp_store hW3192 hE3195 (oi := 2) (cs := [.int .i64 0, .slice A3095 ((whole s3091).length) c3096, .bool (Fld.nul (Fld.mk k3110 y3111 y3112 y3113 y3114 y3115 y3116 l3117) v (Tree.mk n3090 s3091 b3092 l3093 u3094)), .slice none 0 0, .slice none 0 0]) (by kernel_rfl) fun w3196 hF3197 hW3198 hE3199 => ?_)
      clear hE3195 hW3192
      refine wpOps_nil ?_
      refine then_normal ?_
      refine wp_ret ?_
      refine block_ret ?_
      refine then_ret ?_
      refine leave hE3199 hW3198.cells (v := .agg #[.int .i64 0, .slice A3095 ((whole s3091).length) c3096, .bool (Fld.nul (Fld.mk k3110 y3111 y3112 y3113 y3114 y3115 y3116 l3117) v (Tree.mk n3090 s3091 b3092 l3093 u3094)), .slice none 0 0, .slice none 0 0]) (by kernel_rfl) ?_
      exact tree_end hW3198 rfl (((h3103.take 32767).move hW3198.step nilM hW3198.imm).move (Step.refl _ Nil) nilM immOut) rfl (noTrees _ _) rfl (TagsR.nil _ _) (fitted_8 (by omega))
    ·
      have hf3200 : k3110 ≠ 9 := by simpa using hc3183
      refine go_seq_region [0, 1] (by kernel_rfl) ?_
      refine go_runs [0, 1] [] [1, 3, 5, 6, 7, 18, 27] hW3155 hE3182 (env' := [(1, .v (.int .i64 v)), (3, .p 0 0), (5, .p 1 0), (6, .p 2 0), (7, .v (.bool (Fld.nul (Fld.mk k3110 y3111 y3112 y3113 y3114 y3115 y3116 l3117) v (Tree.mk n3090 s3091 b3092 l3093 u3094)))), (18, .v (.int .i64 k3110)), (27, .v (.bool (k3110 == 10)))]) (by kernel_rfl) rfl fun a3201 hE3202 => ?_
      clear hE3182
      refine wpOps_nil ?_
      refine then_normal ?_
      refine cond_of hE3202 (b := k3110 == 10) (by kernel_rfl) (fun hc3203 => ?_) (fun hc3203 => ?_)
      ·
        have hf3204 : k3110 = 10 := by simpa using hc3203
        refine go_seq_region [0, 1, 2, 3, 4, 5, 6] (by kernel_rfl) ?_
        refine go_runs [0, 1, 2, 3] [4, 5, 6] [6, 7, 30, 31, 32] hW3155 hE3202 (env' := [(6, .p 2 0), (7, .v (.bool (Fld.nul (Fld.mk k3110 y3111 y3112 y3113 y3114 y3115 y3116 l3117) v (Tree.mk n3090 s3091 b3092 l3093 u3094)))), (30, .v (.slice A3118 l3117.length c3119)), (31, .v (.int .i64 v)), (32, .v (.agg #[.int .i64 n3090, .slice A3095 s3091.length c3096, .bool b3092, .slice A3097 l3093.length c3098, .slice A3099 u3094.length c3100]))]) (by kernel_rfl) rfl fun a3205 hE3206 => ?_
        clear hE3202
        refine of_op (wpOp_call hE3206 (f := 13) (vs := [.slice A3118 l3117.length c3119, .int .i64 v, .agg #[.int .i64 n3090, .slice A3095 s3091.length c3096, .bool b3092, .slice A3097 l3093.length c3098, .slice A3099 u3094.length c3100]]) (d := 33) (by kernel_rfl) Try.call13 ( hfit _ _ l3117 v _ (Tree.mk n3090 s3091 b3092 l3093 u3094) _ _ ⟨xs3120, (h3122.move hW3155.step nilM hW3155.imm), (fun i_ x_ h_ => ((h3123 i_ x_ h_).move hW3155.step nilM hW3155.imm))⟩ hpl hd (ht.move hW3155.step nilM hW3155.imm)) ?_)
        rintro e_ w3210 ⟨cs3209, rfl, hr3208, hs3207⟩
        have hr3211 := hr3208.move (Step.refl _ Nil) nilM (hW3155.laid (G := F) hs3207)
        obtain ⟨n3212, s3213, b3214, l3215, u3216, A3217, c3218, A3219, c3220, A3221, c3222, xs3223, ht3229, hcs3224, h3225, h3226, h3227, h3228⟩ := hr3211.open_
        rw [hcs3224] at hr3211
        have hsm3230 := h3225.small
        have hsm3231 := h3226.small
        rw [hcs3224]
        refine ⟨_, rfl, fun a3232 hE3233 => ?_⟩
        have hW3234 := hW3155.next_nil hs3207
        have hF3235 := Fr.nil [⟨b3125, 0, [.int .i64 k3110, .int .i64 y3111, .int .i64 y3112, .int .i64 y3113, .int .i64 y3114, .int .i64 y3115, .int .i64 y3116, .slice A3118 l3117.length c3119], true⟩, ⟨b3133, 0, [.int .i64 n3090, .slice A3095 s3091.length c3096, .bool b3092, .slice A3097 l3093.length c3098, .slice A3099 u3094.length c3100], true⟩, ⟨b3141, 0, [.int .i64 0, .slice none 0 0, .bool false, .slice none 0 0, .slice none 0 0], true⟩] [] hs3207
        clear hE3206
        refine of_op (wpOp_alloc hW3234 hE3233 (d := 8) (cs := [.int .i64 0, .slice none 0 0, .bool false, .slice none 0 0, .slice none 0 0]) (by kernel_rfl) fun b3236 a3237 w3238 hb3239 hz3240 hF3241 hW3242 hE3243 => ?_)
        clear hE3233 hW3234
        refine of_op (wpOp_store hW3242 hE3243 (oi := 3) (cs := [.int .i64 n3212, .slice A3217 s3213.length c3218, .bool b3214, .slice A3219 l3215.length c3220, .slice A3221 u3216.length c3222]) (by kernel_rfl) fun w3244 hF3245 hW3246 hE3247 => ?_)
        clear hE3243 hW3242
        refine wpOps_nil ?_
        refine then_normal ?_
        refine go_seq_region [0, 1, 2] (by kernel_rfl) ?_
        refine go_runs [0, 1] [2] [6, 8, 34, 35] hW3246 hE3247 (env' := [(6, .p 2 0), (8, .p 3 0), (34, .v (.bool (Fld.nul (Fld.mk k3110 y3111 y3112 y3113 y3114 y3115 y3116 l3117) v (Tree.mk n3090 s3091 b3092 l3093 u3094)))), (35, .p 3 2)]) (by kernel_rfl) rfl fun a3248 hE3249 => ?_
        clear hE3247
        refine of_op (wpOp_store hW3246 hE3249 (oi := 3) (cs := [.int .i64 n3212, .slice A3217 s3213.length c3218, .bool (Fld.nul (Fld.mk k3110 y3111 y3112 y3113 y3114 y3115 y3116 l3117) v (Tree.mk n3090 s3091 b3092 l3093 u3094)), .slice A3219 l3215.length c3220, .slice A3221 u3216.length c3222]) (by kernel_rfl) fun w3250 hF3251 hW3252 hE3253 => ?_)
        clear hE3249 hW3246
        refine wpOps_nil ?_
        refine then_normal ?_
        refine go_seq_region [0, 1] (by kernel_rfl) ?_
        refine go_runs [0] [1] [6, 36] hW3252 hE3253 (env' := [(6, .p 2 0), (36, .v (.agg #[.int .i64 n3212, .slice A3217 s3213.length c3218, .bool (Fld.nul (Fld.mk k3110 y3111 y3112 y3113 y3114 y3115 y3116 l3117) v (Tree.mk n3090 s3091 b3092 l3093 u3094)), .slice A3219 l3215.length c3220, .slice A3221 u3216.length c3222]))]) (by kernel_rfl) rfl fun a3254 hE3255 => ?_
        clear hE3253
        refine of_op (wpOp_store hW3252 hE3255 (oi := 2) (cs := [.int .i64 n3212, .slice A3217 s3213.length c3218, .bool (Fld.nul (Fld.mk k3110 y3111 y3112 y3113 y3114 y3115 y3116 l3117) v (Tree.mk n3090 s3091 b3092 l3093 u3094)), .slice A3219 l3215.length c3220, .slice A3221 u3216.length c3222]) (by kernel_rfl) fun w3256 hF3257 hW3258 hE3259 => ?_)
        clear hE3255 hW3252
        refine wpOps_nil ?_
        refine then_normal ?_
        refine wp_ret ?_
        refine block_ret ?_
        refine then_ret ?_
        refine leave hE3259 hW3258.cells (v := .agg #[.int .i64 n3212, .slice A3217 s3213.length c3218, .bool (Fld.nul (Fld.mk k3110 y3111 y3112 y3113 y3114 y3115 y3116 l3117) v (Tree.mk n3090 s3091 b3092 l3093 u3094)), .slice A3219 l3215.length c3220, .slice A3221 u3216.length c3222]) (by kernel_rfl) ?_
        exact tree_end hW3258 rfl ((h3225.move (Fr.trans (Fr.trans (Fr.trans hF3241 hF3245) hF3251) hF3257).step immM (Fr.trans (Fr.trans (Fr.trans hF3241 hF3245) hF3251) hF3257).to').move (Step.refl _ Nil) nilM immOut) rfl ⟨(h3226.move (Fr.trans (Fr.trans (Fr.trans hF3241 hF3245) hF3251) hF3257).step immM (Fr.trans (Fr.trans (Fr.trans hF3241 hF3245) hF3251) hF3257).to').move (Step.refl _ Nil) nilM immOut, fun i_ x_ h_ => ((fun i_ x_ h_ => ((h3227 i_ x_ h_).move (Fr.trans (Fr.trans (Fr.trans hF3241 hF3245) hF3251) hF3257).step immM (Fr.trans (Fr.trans (Fr.trans hF3241 hF3245) hF3251) hF3257).to')) i_ x_ h_).move (Step.refl _ Nil) nilM immOut⟩ rfl ((h3228.move (Fr.trans (Fr.trans (Fr.trans hF3241 hF3245) hF3251) hF3257).step immM (Fr.trans (Fr.trans (Fr.trans hF3241 hF3245) hF3251) hF3257).to').move (Step.refl _ Nil) nilM immOut) (fitted_10 (by assumption) (by assumption) (by assumption) ht3229)
      ·
        have hf3260 : k3110 ≠ 10 := by simpa using hc3203
        refine go_seq_region [0, 1] (by kernel_rfl) ?_
        refine go_runs [0, 1] [] [1, 3, 5, 6, 7, 37] hW3155 hE3202 (env' := [(1, .v (.int .i64 v)), (3, .p 0 0), (5, .p 1 0), (6, .p 2 0), (7, .v (.bool (Fld.nul (Fld.mk k3110 y3111 y3112 y3113 y3114 y3115 y3116 l3117) v (Tree.mk n3090 s3091 b3092 l3093 u3094)))), (37, .v (.bool (k3110 == 11)))]) (by kernel_rfl) rfl fun a3261 hE3262 => ?_
        clear hE3202
        refine wpOps_nil ?_
        refine then_normal ?_
        refine cond_false hE3262 (b := k3110 == 11) (by kernel_rfl) (by simpa using hk11) ?_
        refine wp_skip ?_
        refine block_normal ?_
        refine then_normal ?_
        refine go_seq_region [0, 1, 2, 3, 4, 5] (by kernel_rfl) ?_
        refine go_runs [0, 1, 2, 3, 4] [5] [6, 81] hW3155 hE3262 (env' := [(6, .p 2 0), (81, .v (.agg #[.int .i64 n3090, .slice A3095 s3091.length c3096, .bool false, .slice none 0 0, .slice none 0 0]))]) (by kernel_rfl) rfl fun a3263 hE3264 => ?_
        clear hE3262
        refine of_op (wpOp_store hW3155 hE3264 (oi := 2) (cs := [.int .i64 n3090, .slice A3095 s3091.length c3096, .bool false, .slice none 0 0, .slice none 0 0]) (by kernel_rfl) fun w3265 hF3266 hW3267 hE3268 => ?_)
        clear hE3264
        refine wpOps_nil ?_
        refine then_normal ?_
        refine wp_ret ?_
        refine leave hE3268 hW3267.cells (v := .agg #[.int .i64 n3090, .slice A3095 s3091.length c3096, .bool false, .slice none 0 0, .slice none 0 0]) (by kernel_rfl) ?_
        exact tree_end hW3267 rfl ((h3103.move hW3267.step nilM hW3267.imm).move (Step.refl _ Nil) nilM immOut) rfl (noTrees _ _) rfl (TagsR.nil _ _) (fitted_else (by assumption) (by assumption) (by assumption))

theorem sFitted11 {d : Nat} (hfit : FitOK d) (cf : List Value) (f : Fld) (v : Int) (ct : List Value) (t : Tree) (w : World) (F : Nat → Nat → Prop) (hf : FldR w F cf f) (hpl : f.plain) (hd : depths f.sub ≤ d) (hk11 : f.kind = 11) (ht : TreeR w F ct t) :
    Calls Try.prog 32 #[.agg cf.toArray, .int .i64 v, .agg ct.toArray] w (GivesT w F (fittedW (fitT v d) v f t)) := by
  obtain ⟨n3269, s3270, b3271, l3272, u3273, A3274, c3275, A3276, c3277, A3278, c3279, xs3280, rfl, rfl, h3282, h3283, h3284, h3285⟩ := ht.open_
  have hsm3287 := h3282.small
  have hsm3288 := h3283.small
  obtain ⟨k3289, y3290, y3291, y3292, y3293, y3294, y3295, l3296, A3297, c3298, xs3299, rfl, rfl, h3301, h3302⟩ := hf.open_
  have hsm3303 := h3301.small
  have hk11 : k3289 = 11 := hk11
  have hof : y3295 ≠ 11 := hpl.1
  refine enter (n := 82) Try.func32 rfl Try.ntmps32 (by kernel_rfl) fun a hE => ?_
  have hW := WOk.start w Nil
  refine go_seq_region [0, 1, 2] (by kernel_rfl) ?_
  refine of_op (wpOp_box hW hE (d := 3) (cs := [.int .i64 k3289, .int .i64 y3290, .int .i64 y3291, .int .i64 y3292, .int .i64 y3293, .int .i64 y3294, .int .i64 y3295, .slice A3297 l3296.length c3298]) (by kernel_rfl) fun b3304 a3305 w3306 hb3307 hz3308 hF3309 hW3310 hE3311 => ?_)
  clear hE hW
  refine of_op (wpOp_box hW3310 hE3311 (d := 5) (cs := [.int .i64 n3269, .slice A3274 s3270.length c3275, .bool b3271, .slice A3276 l3272.length c3277, .slice A3278 u3273.length c3279]) (by kernel_rfl) fun b3312 a3313 w3314 hb3315 hz3316 hF3317 hW3318 hE3319 => ?_)
  clear hE3311 hW3310
  refine of_op (wpOp_alloc hW3318 hE3319 (d := 6) (cs := [.int .i64 0, .slice none 0 0, .bool false, .slice none 0 0, .slice none 0 0]) (by kernel_rfl) fun b3320 a3321 w3322 hb3323 hz3324 hF3325 hW3326 hE3327 => ?_)
  clear hE3319 hW3318
  refine wpOps_nil ?_
  refine then_normal ?_
  refine go_seq_region [0, 1, 2, 3, 4] (by kernel_rfl) ?_
  refine go_runs [0, 1, 2] [3, 4] [1, 3, 5, 6, 13, 14, 15] hW3326 hE3327 (env' := [(1, .v (.int .i64 v)), (3, .p 0 0), (5, .p 1 0), (6, .p 2 0), (13, .v (.agg #[.int .i64 k3289, .int .i64 y3290, .int .i64 y3291, .int .i64 y3292, .int .i64 y3293, .int .i64 y3294, .int .i64 y3295, .slice A3297 l3296.length c3298])), (14, .v (.int .i64 v)), (15, .v (.agg #[.int .i64 n3269, .slice A3274 s3270.length c3275, .bool b3271, .slice A3276 l3272.length c3277, .slice A3278 u3273.length c3279]))]) (by kernel_rfl) rfl fun a3328 hE3329 => ?_
  clear hE3327
  refine of_op (wpOp_call hE3329 (f := 62) (vs := [.agg #[.int .i64 k3289, .int .i64 y3290, .int .i64 y3291, .int .i64 y3292, .int .i64 y3293, .int .i64 y3294, .int .i64 y3295, .slice A3297 l3296.length c3298], .int .i64 v, .agg #[.int .i64 n3269, .slice A3274 s3270.length c3275, .bool b3271, .slice A3276 l3272.length c3277, .slice A3278 u3273.length c3279]]) (d := 16) (by kernel_rfl) Try.call62 (sNull k3289 y3290 y3291 y3292 y3293 y3294 y3295 l3296 _ _ v n3269 s3270 b3271 l3272 u3273 _ _ _ _ _ _ _) ?_)
  rintro e_ w3331 ⟨rfl, hs3330⟩
  refine ⟨_, rfl, fun a3332 hE3333 => ?_⟩
  have hW3334 := hW3326.next_nil hs3330
  have hF3335 := Fr.nil [⟨b3304, 0, [.int .i64 k3289, .int .i64 y3290, .int .i64 y3291, .int .i64 y3292, .int .i64 y3293, .int .i64 y3294, .int .i64 y3295, .slice A3297 l3296.length c3298], true⟩, ⟨b3312, 0, [.int .i64 n3269, .slice A3274 s3270.length c3275, .bool b3271, .slice A3276 l3272.length c3277, .slice A3278 u3273.length c3279], true⟩, ⟨b3320, 0, [.int .i64 0, .slice none 0 0, .bool false, .slice none 0 0, .slice none 0 0], true⟩] [] hs3330
  clear hE3329 hW3326
  refine go_runs [4] [] [1, 3, 5, 6, 7] hW3334 hE3333 (env' := [(1, .v (.int .i64 v)), (3, .p 0 0), (5, .p 1 0), (6, .p 2 0), (7, .v (.bool (Fld.nul (Fld.mk k3289 y3290 y3291 y3292 y3293 y3294 y3295 l3296) v (Tree.mk n3269 s3270 b3271 l3272 u3273))))]) (by kernel_rfl) rfl fun a3336 hE3337 => ?_
  clear hE3333
  refine wpOps_nil ?_
  refine then_normal ?_
  refine wp_seq ?_
  refine go_seq_region [0, 1] (by kernel_rfl) ?_
  refine go_runs [0, 1] [] [1, 3, 5, 6, 7, 18] hW3334 hE3337 (env' := [(1, .v (.int .i64 v)), (3, .p 0 0), (5, .p 1 0), (6, .p 2 0), (7, .v (.bool (Fld.nul (Fld.mk k3289 y3290 y3291 y3292 y3293 y3294 y3295 l3296) v (Tree.mk n3269 s3270 b3271 l3272 u3273)))), (18, .v (.int .i64 k3289))]) (by kernel_rfl) rfl fun a3338 hE3339 => ?_
  clear hE3337
  refine wpOps_nil ?_
  refine then_normal ?_
  refine wp_block ?_
  refine wp_seq ?_
  refine go_seq_region [0, 1] (by kernel_rfl) ?_
  refine go_runs [0, 1] [] [1, 3, 5, 6, 7, 18, 19] hW3334 hE3339 (env' := [(1, .v (.int .i64 v)), (3, .p 0 0), (5, .p 1 0), (6, .p 2 0), (7, .v (.bool (Fld.nul (Fld.mk k3289 y3290 y3291 y3292 y3293 y3294 y3295 l3296) v (Tree.mk n3269 s3270 b3271 l3272 u3273)))), (18, .v (.int .i64 k3289)), (19, .v (.bool (k3289 == 8)))]) (by kernel_rfl) rfl fun a3340 hE3341 => ?_
  clear hE3339
  refine wpOps_nil ?_
  refine then_normal ?_
  refine cond_false hE3341 (b := k3289 == 8) (by kernel_rfl) (by simp [hk11]) ?_
  refine go_region [0, 1] (by kernel_rfl) ?_
  refine go_runs [0, 1] [] [1, 3, 5, 6, 7, 18, 19] hW3334 hE3341 (env' := [(1, .v (.int .i64 v)), (3, .p 0 0), (5, .p 1 0), (6, .p 2 0), (7, .v (.bool (Fld.nul (Fld.mk k3289 y3290 y3291 y3292 y3293 y3294 y3295 l3296) v (Tree.mk n3269 s3270 b3271 l3272 u3273)))), (18, .v (.int .i64 k3289)), (19, .v (.bool (k3289 == 9)))]) (by kernel_rfl) rfl fun a3342 hE3343 => ?_
  clear hE3341
  refine wpOps_nil ?_
  refine then_normal ?_
  refine cond_false hE3343 (b := k3289 == 9) (by kernel_rfl) (by simp [hk11]) ?_
  refine go_seq_region [0, 1] (by kernel_rfl) ?_
  refine go_runs [0, 1] [] [1, 3, 5, 6, 7, 18, 27] hW3334 hE3343 (env' := [(1, .v (.int .i64 v)), (3, .p 0 0), (5, .p 1 0), (6, .p 2 0), (7, .v (.bool (Fld.nul (Fld.mk k3289 y3290 y3291 y3292 y3293 y3294 y3295 l3296) v (Tree.mk n3269 s3270 b3271 l3272 u3273)))), (18, .v (.int .i64 k3289)), (27, .v (.bool (k3289 == 10)))]) (by kernel_rfl) rfl fun a3344 hE3345 => ?_
  clear hE3343
  refine wpOps_nil ?_
  refine then_normal ?_
  refine cond_false hE3345 (b := k3289 == 10) (by kernel_rfl) (by simp [hk11]) ?_
  refine go_seq_region [0, 1] (by kernel_rfl) ?_
  refine go_runs [0, 1] [] [1, 3, 5, 6, 7, 37] hW3334 hE3345 (env' := [(1, .v (.int .i64 v)), (3, .p 0 0), (5, .p 1 0), (6, .p 2 0), (7, .v (.bool (Fld.nul (Fld.mk k3289 y3290 y3291 y3292 y3293 y3294 y3295 l3296) v (Tree.mk n3269 s3270 b3271 l3272 u3273)))), (37, .v (.bool (k3289 == 11)))]) (by kernel_rfl) rfl fun a3346 hE3347 => ?_
  clear hE3345
  refine wpOps_nil ?_
  refine then_normal ?_
  refine cond_true hE3347 (b := k3289 == 11) (by kernel_rfl) (by simpa using hk11) ?_
  refine go_seq_region [0, 1, 2, 3, 4, 5, 6, 7, 8, 9, 10, 11, 12, 13, 14] (by kernel_rfl) ?_
  refine go_runs [0, 1] [2, 3, 4, 5, 6, 7, 8, 9, 10, 11, 12, 13, 14] [1, 3, 5, 6, 40] hW3334 hE3347 (env' := [(1, .v (.int .i64 v)), (3, .p 0 0), (5, .p 1 0), (6, .p 2 0), (40, .v (.bool (Fld.nul (Fld.mk k3289 y3290 y3291 y3292 y3293 y3294 y3295 l3296) v (Tree.mk n3269 s3270 b3271 l3272 u3273))))]) (by kernel_rfl) rfl fun a3348 hE3349 => ?_
  clear hE3347
  refine (Bool.eq_false_or_eq_true (Fld.nul (Fld.mk k3289 y3290 y3291 y3292 y3293 y3294 y3295 l3296) v (Tree.mk n3269 s3270 b3271 l3272 u3273))).elim (fun hc3350 => ?_) (fun hc3350 => ?_)
  ·
    have hE3352 := hE3349.cast (env' := [(1, .v (.int .i64 v)), (3, .p 0 0), (5, .p 1 0), (6, .p 2 0), (40, .v (.bool true))]) (by rw [hc3350])
    clear hE3349
    refine go_runs [2, 3, 4, 5, 6, 7, 8, 9, 10, 11, 12] [13, 14] [1, 3, 5, 6, 51] hW3334 hE3352 (env' := [(1, .v (.int .i64 v)), (3, .p 0 0), (5, .p 1 0), (6, .p 2 0), (51, .v (.agg #[.int .i64 0, .slice none 0 0, .bool true, .slice none 0 0, .slice none 0 0]))]) (by kernel_rfl) rfl fun a3353 hE3354 => ?_
    clear hE3352
    refine of_op (wpOp_alloc hW3334 hE3354 (d := 9) (cs := [.int .i64 0, .slice none 0 0, .bool false, .slice none 0 0, .slice none 0 0]) (by kernel_rfl) fun b3355 a3356 w3357 hb3358 hz3359 hF3360 hW3361 hE3362 => ?_)
    clear hE3354 hW3334
    refine of_op (wpOp_store hW3361 hE3362 (oi := 3) (cs := [.int .i64 0, .slice none 0 0, .bool true, .slice none 0 0, .slice none 0 0]) (by kernel_rfl) fun w3363 hF3364 hW3365 hE3366 => ?_)
    clear hE3362 hW3361
    refine wpOps_nil ?_
    refine then_normal ?_
    refine go_seq_region [0, 1, 2] (by kernel_rfl) ?_
    refine go_runs [0] [1, 2] [1, 3, 5, 6, 9, 52] hW3365 hE3366 (env' := [(1, .v (.int .i64 v)), (3, .p 0 0), (5, .p 1 0), (6, .p 2 0), (9, .p 3 0), (52, .v (.agg #[.int .i64 k3289, .int .i64 y3290, .int .i64 y3291, .int .i64 y3292, .int .i64 y3293, .int .i64 y3294, .int .i64 y3295, .slice A3297 l3296.length c3298]))]) (by kernel_rfl) rfl fun a3367 hE3368 => ?_
    clear hE3366
    refine of_op (wpOp_alloc hW3365 hE3368 (d := 10) (cs := [.int .i64 0, .int .i64 0, .int .i64 0, .int .i64 0, .int .i64 0, .int .i64 0, .int .i64 0, .slice none 0 0]) (by kernel_rfl) fun b3369 a3370 w3371 hb3372 hz3373 hF3374 hW3375 hE3376 => ?_)
    clear hE3368 hW3365
    refine of_op (wpOp_store hW3375 hE3376 (oi := 4) (cs := [.int .i64 k3289, .int .i64 y3290, .int .i64 y3291, .int .i64 y3292, .int .i64 y3293, .int .i64 y3294, .int .i64 y3295, .slice A3297 l3296.length c3298]) (by kernel_rfl) fun w3377 hF3378 hW3379 hE3380 => ?_)
    clear hE3376 hW3375
    refine wpOps_nil ?_
    refine then_normal ?_
    refine go_seq_region [0, 1, 2, 3, 4, 5, 6, 7] (by kernel_rfl) ?_
    refine go_runs [0, 1, 2] [3, 4, 5, 6, 7] [1, 5, 6, 9, 10, 54, 55] hW3379 hE3380 (env' := [(1, .v (.int .i64 v)), (5, .p 1 0), (6, .p 2 0), (9, .p 3 0), (10, .p 4 0), (54, .v (.int .i64 y3295)), (55, .p 4 0)]) (by kernel_rfl) rfl fun a3381 hE3382 => ?_
    clear hE3380
    refine of_op (wpOp_store hW3379 hE3382 (oi := 4) (cs := [.int .i64 y3295, .int .i64 y3290, .int .i64 y3291, .int .i64 y3292, .int .i64 y3293, .int .i64 y3294, .int .i64 y3295, .slice A3297 l3296.length c3298]) (by kernel_rfl) fun w3383 hF3384 hW3385 hE3386 => ?_)
    clear hE3382 hW3379
    refine go_runs [4] [5, 6, 7] [1, 5, 6, 9, 10, 56] hW3385 hE3386 (env' := [(1, .v (.int .i64 v)), (5, .p 1 0), (6, .p 2 0), (9, .p 3 0), (10, .p 4 0), (56, .p 4 3)]) (by kernel_rfl) rfl fun a3387 hE3388 => ?_
    clear hE3386
    refine of_op (wpOp_store hW3385 hE3388 (oi := 4) (cs := [.int .i64 y3295, .int .i64 y3290, .int .i64 y3291, .int .i64 (-1), .int .i64 y3293, .int .i64 y3294, .int .i64 y3295, .slice A3297 l3296.length c3298]) (by kernel_rfl) fun w3389 hF3390 hW3391 hE3392 => ?_)
    clear hE3388 hW3385
    refine go_runs [6] [7] [1, 5, 6, 9, 10, 57] hW3391 hE3392 (env' := [(1, .v (.int .i64 v)), (5, .p 1 0), (6, .p 2 0), (9, .p 3 0), (10, .p 4 0), (57, .p 4 4)]) (by kernel_rfl) rfl fun a3393 hE3394 => ?_
    clear hE3392
    refine of_op (wpOp_store hW3391 hE3394 (oi := 4) (cs := [.int .i64 y3295, .int .i64 y3290, .int .i64 y3291, .int .i64 (-1), .int .i64 (-1), .int .i64 y3294, .int .i64 y3295, .slice A3297 l3296.length c3298]) (by kernel_rfl) fun w3395 hF3396 hW3397 hE3398 => ?_)
    clear hE3394 hW3391
    refine wpOps_nil ?_
    refine then_normal ?_
    refine wp_seq ?_
    refine go_seq_region [0, 1, 2, 3, 4] (by kernel_rfl) ?_
    refine go_runs [0, 1] [2, 3, 4] [1, 6, 9, 10, 59] hW3397 hE3398 (env' := [(1, .v (.int .i64 v)), (6, .p 2 0), (9, .p 3 0), (10, .p 4 0), (59, .v (.slice A3276 l3272.length c3277))]) (by kernel_rfl) rfl fun a3399 hE3400 => ?_
    clear hE3398
    refine of_op (wpOp_call hE3400 (f := 63) (vs := [.slice A3276 l3272.length c3277]) (d := 60) (by kernel_rfl) Try.call63 (sThings _ _ l3272 (h3283.move hW3397.step nilM hW3397.imm).le _) ?_)
    rintro e_ w3402 ⟨rfl, hs3401⟩
    refine ⟨_, rfl, fun a3403 hE3404 => ?_⟩
    have hW3405 := hW3397.next_nil hs3401
    have hF3406 := Fr.nil [⟨b3304, 0, [.int .i64 k3289, .int .i64 y3290, .int .i64 y3291, .int .i64 y3292, .int .i64 y3293, .int .i64 y3294, .int .i64 y3295, .slice A3297 l3296.length c3298], true⟩, ⟨b3312, 0, [.int .i64 n3269, .slice A3274 s3270.length c3275, .bool b3271, .slice A3276 l3272.length c3277, .slice A3278 u3273.length c3279], true⟩, ⟨b3320, 0, [.int .i64 0, .slice none 0 0, .bool false, .slice none 0 0, .slice none 0 0], true⟩, ⟨b3355, 0, [.int .i64 0, .slice none 0 0, .bool true, .slice none 0 0, .slice none 0 0], true⟩, ⟨b3369, 0, [.int .i64 y3295, .int .i64 y3290, .int .i64 y3291, .int .i64 (-1), .int .i64 (-1), .int .i64 y3294, .int .i64 y3295, .slice A3297 l3296.length c3298], true⟩] [] hs3401
    clear hE3400 hW3397
    refine go_runs [3, 4] [] [1, 6, 9, 10, 60, 61, 62] hW3405 hE3404 (env' := [(1, .v (.int .i64 v)), (6, .p 2 0), (9, .p 3 0), (10, .p 4 0), (60, .v (.slice A3276 ((things l3272).length) c3277)), (61, .v (.int .i64 (((things l3272).length : Nat) : Int))), (62, .v (.int .i64 0))]) (by kernel_rfl) rfl fun a3407 hE3408 => ?_
    clear hE3404
    refine wpOps_nil ?_
    refine then_normal ?_
    refine wp_block ?_
    have hW3409 := hW3405.addNil 26 5
    have hF3410 := Fr.addNil w3402 [⟨b3304, 0, [.int .i64 k3289, .int .i64 y3290, .int .i64 y3291, .int .i64 y3292, .int .i64 y3293, .int .i64 y3294, .int .i64 y3295, .slice A3297 l3296.length c3298], true⟩, ⟨b3312, 0, [.int .i64 n3269, .slice A3274 s3270.length c3275, .bool b3271, .slice A3276 l3272.length c3277, .slice A3278 u3273.length c3279], true⟩, ⟨b3320, 0, [.int .i64 0, .slice none 0 0, .bool false, .slice none 0 0, .slice none 0 0], true⟩, ⟨b3355, 0, [.int .i64 0, .slice none 0 0, .bool true, .slice none 0 0, .slice none 0 0], true⟩, ⟨b3369, 0, [.int .i64 y3295, .int .i64 y3290, .int .i64 y3291, .int .i64 (-1), .int .i64 (-1), .int .i64 y3294, .int .i64 y3295, .slice A3297 l3296.length c3298], true⟩] [] 26 5
    clear hW3405
    have hsm3 : (things l3272).length ≤ 32767 := things_le _
    have hE3419 := EnvOk.pick hE3408 (ks := [1, 6, 9, 10, 60, 61, 62]) (env' := [(1, .v (.int .i64 v)), (6, .p 2 0), (9, .p 3 0), (10, .p 4 0), (60, .v (.slice A3276 ((things l3272).length) c3277)), (61, .v (.int .i64 (((things l3272).length : Nat) : Int))), (62, .v (.int .i64 0))]) (by kernel_rfl)
    refine wp_loop_ghost (fun n_ a_ w_ => ∃ (k : Nat) (A_ : Option Addr) (c_ : Nat) (xs : List Value) (css : List (List Value)), n_ = (things l3272).length - k ∧ k ≤ (things l3272).length ∧ (Trees w_ (Imm F w w_ [⟨b3304, 0, [.int .i64 k3289, .int .i64 y3290, .int .i64 y3291, .int .i64 y3292, .int .i64 y3293, .int .i64 y3294, .int .i64 y3295, .slice A3297 l3296.length c3298], true⟩, ⟨b3312, 0, [.int .i64 n3269, .slice A3274 s3270.length c3275, .bool b3271, .slice A3276 l3272.length c3277, .slice A3278 u3273.length c3279], true⟩, ⟨b3320, 0, [.int .i64 0, .slice none 0 0, .bool false, .slice none 0 0, .slice none 0 0], true⟩, ⟨b3355, 0, [.int .i64 0, .slice none 0 0, .bool true, .slice A_ k c_, .slice none 0 0], true⟩, ⟨b3369, 0, [.int .i64 y3295, .int .i64 y3290, .int .i64 y3291, .int .i64 (-1), .int .i64 (-1), .int .i64 y3294, .int .i64 y3295, .slice A3297 l3296.length c3298], true⟩] [⟨A_, c_, 26, 5, k, xs⟩]) xs ((fitL (fitT v d) v (Fld.mk y3295 y3290 y3291 (-1) (-1) y3294 y3295 l3296) l3272).take k) css) ∧ EnvOk 82 [⟨b3304, 0, [.int .i64 k3289, .int .i64 y3290, .int .i64 y3291, .int .i64 y3292, .int .i64 y3293, .int .i64 y3294, .int .i64 y3295, .slice A3297 l3296.length c3298], true⟩, ⟨b3312, 0, [.int .i64 n3269, .slice A3274 s3270.length c3275, .bool b3271, .slice A3276 l3272.length c3277, .slice A3278 u3273.length c3279], true⟩, ⟨b3320, 0, [.int .i64 0, .slice none 0 0, .bool false, .slice none 0 0, .slice none 0 0], true⟩, ⟨b3355, 0, [.int .i64 0, .slice none 0 0, .bool true, .slice A_ k c_, .slice none 0 0], true⟩, ⟨b3369, 0, [.int .i64 y3295, .int .i64 y3290, .int .i64 y3291, .int .i64 (-1), .int .i64 (-1), .int .i64 y3294, .int .i64 y3295, .slice A3297 l3296.length c3298], true⟩] [(1, .v (.int .i64 v)), (6, .p 2 0), (9, .p 3 0), (10, .p 4 0), (60, .v (.slice A3276 ((things l3272).length) c3277)), (61, .v (.int .i64 (((things l3272).length : Nat) : Int))), (62, .v (.int .i64 ((k : Nat) : Int)))] a_ ∧ WOk w Nil w_ [⟨b3304, 0, [.int .i64 k3289, .int .i64 y3290, .int .i64 y3291, .int .i64 y3292, .int .i64 y3293, .int .i64 y3294, .int .i64 y3295, .slice A3297 l3296.length c3298], true⟩, ⟨b3312, 0, [.int .i64 n3269, .slice A3274 s3270.length c3275, .bool b3271, .slice A3276 l3272.length c3277, .slice A3278 u3273.length c3279], true⟩, ⟨b3320, 0, [.int .i64 0, .slice none 0 0, .bool false, .slice none 0 0, .slice none 0 0], true⟩, ⟨b3355, 0, [.int .i64 0, .slice none 0 0, .bool true, .slice A_ k c_, .slice none 0 0], true⟩, ⟨b3369, 0, [.int .i64 y3295, .int .i64 y3290, .int .i64 y3291, .int .i64 (-1), .int .i64 (-1), .int .i64 y3294, .int .i64 y3295, .slice A3297 l3296.length c3298], true⟩] [⟨A_, c_, 26, 5, k, xs⟩] ∧ Fr w3402 [⟨b3304, 0, [.int .i64 k3289, .int .i64 y3290, .int .i64 y3291, .int .i64 y3292, .int .i64 y3293, .int .i64 y3294, .int .i64 y3295, .slice A3297 l3296.length c3298], true⟩, ⟨b3312, 0, [.int .i64 n3269, .slice A3274 s3270.length c3275, .bool b3271, .slice A3276 l3272.length c3277, .slice A3278 u3273.length c3279], true⟩, ⟨b3320, 0, [.int .i64 0, .slice none 0 0, .bool false, .slice none 0 0, .slice none 0 0], true⟩, ⟨b3355, 0, [.int .i64 0, .slice none 0 0, .bool true, .slice none 0 0, .slice none 0 0], true⟩, ⟨b3369, 0, [.int .i64 y3295, .int .i64 y3290, .int .i64 y3291, .int .i64 (-1), .int .i64 (-1), .int .i64 y3294, .int .i64 y3295, .slice A3297 l3296.length c3298], true⟩] [⟨none, 0, 26, 5, 0, []⟩] w_ [⟨b3304, 0, [.int .i64 k3289, .int .i64 y3290, .int .i64 y3291, .int .i64 y3292, .int .i64 y3293, .int .i64 y3294, .int .i64 y3295, .slice A3297 l3296.length c3298], true⟩, ⟨b3312, 0, [.int .i64 n3269, .slice A3274 s3270.length c3275, .bool b3271, .slice A3276 l3272.length c3277, .slice A3278 u3273.length c3279], true⟩, ⟨b3320, 0, [.int .i64 0, .slice none 0 0, .bool false, .slice none 0 0, .slice none 0 0], true⟩, ⟨b3355, 0, [.int .i64 0, .slice none 0 0, .bool true, .slice A_ k c_, .slice none 0 0], true⟩, ⟨b3369, 0, [.int .i64 y3295, .int .i64 y3290, .int .i64 y3291, .int .i64 (-1), .int .i64 (-1), .int .i64 y3294, .int .i64 y3295, .slice A3297 l3296.length c3298], true⟩] [⟨A_, c_, 26, 5, k, xs⟩]) ((things l3272).length) ⟨0, none, 0, [], [], by omega, by omega, Trees.nil _ _, hE3419, hW3409, Fr.refl _ _ _⟩ ?_
    clear hE3419 hE3408 hW3409
    rintro n3411 a3412 w3413 ⟨k, A_, c_, xs, css, hn3416, hk3417, hT, hE3414, hW3415, hF3418⟩
    refine go_seq_region [0] (by kernel_rfl) ?_
    refine go_runs [0] [] [1, 6, 9, 10, 60, 61, 62, 63] hW3415 hE3414 (env' := [(1, .v (.int .i64 v)), (6, .p 2 0), (9, .p 3 0), (10, .p 4 0), (60, .v (.slice A3276 ((things l3272).length) c3277)), (61, .v (.int .i64 (((things l3272).length : Nat) : Int))), (62, .v (.int .i64 ((k : Nat) : Int))), (63, .v (.bool (decide (((k : Nat) : Int) < (((things l3272).length : Nat) : Int)))))]) (by kernel_rfl) rfl fun a3420 hE3421 => ?_
    clear hE3414
    refine wpOps_nil ?_
    refine then_normal ?_
    refine wp_seq ?_
    refine cond_of hE3421 (b := decide (((k : Nat) : Int) < (((things l3272).length : Nat) : Int))) (by kernel_rfl) (fun hc3422 => ?_) (fun hc3422 => ?_)
    ·
      have hf3423 := of_decide_eq_true hc3422
      refine wp_skip ?_
      refine then_normal ?_
      refine wp_seq ?_
      refine wp_block ?_
      refine go_seq_region [0, 1, 2, 3] (by kernel_rfl) ?_
      obtain ⟨b3424, o3425, hA3426, hl3427, hat3428⟩ := Slots.get (things_slots h3283) (i := k) (by omega)
      obtain ⟨x3429, he3430⟩ : ∃ x, (things l3272)[k]? = some x := ⟨_, List.getElem?_eq_getElem (by omega)⟩
      have hr3431 := (things_each h3284) k x3429 he3430
      obtain ⟨n3432, s3433, b3434, l3435, u3436, A3437, c3438, A3439, c3440, A3441, c3442, xs3443, rfl, hcs3444, h3445, h3446, h3447, h3448⟩ := hr3431.open_
      rw [hcs3444] at hr3431
      have hsm3450 := h3445.small
      have hsm3451 := h3446.small
      rw [hcs3444] at hat3428
      refine of_op (wpOp_index hE3421 (t := 23) (A := A3276) (m := (things l3272).length) (q := ((k : Nat) : Int)) (d := 64) (by kernel_rfl) (e := 26) (size := 5) (bytes := 88) (by kernel_rfl) hA3426 rfl (by omega) fun a3452 hE3453 => ?_)
      clear hE3421
      refine of_op (wpOp_load hE3453 (t := 26) (b := b3424) (o := o3425 + k * 5) (d := 65) (by kernel_rfl) (cs := [.int .i64 n3432, .slice A3437 s3433.length c3438, .bool b3434, .slice A3439 l3435.length c3440, .slice A3441 u3436.length c3442]) (v := .agg #[.int .i64 n3432, .slice A3437 s3433.length c3438, .bool b3434, .slice A3439 l3435.length c3440, .slice A3441 u3436.length c3442]) (by kernel_rfl) (AtF.move hat3428 hW3415.step nilM keepF).at_ fun a3454 hE3455 => ?_)
      clear hE3453
      refine of_op (wpOp_alloc hW3415 hE3455 (d := 12) (cs := [.int .i64 0, .slice none 0 0, .bool false, .slice none 0 0, .slice none 0 0]) (by kernel_rfl) fun b3456 a3457 w3458 hb3459 hz3460 hF3461 hW3462 hE3463 => ?_)
      clear hE3455 hW3415
      refine of_op (wpOp_store hW3462 hE3463 (oi := 5) (cs := [.int .i64 n3432, .slice A3437 s3433.length c3438, .bool b3434, .slice A3439 l3435.length c3440, .slice A3441 u3436.length c3442]) (by kernel_rfl) fun w3464 hF3465 hW3466 hE3467 => ?_)
      clear hE3463 hW3462
      refine wpOps_nil ?_
      refine then_normal ?_
      refine go_drawK 9 (by kernel_rfl) hW3466 fun w3468 hF3469 hW3470 hT3471 => ?_
      clear hW3466
      refine go_runsD [0, 1, 2, 3, 4] [1, 6, 9, 10, 60, 61, 62, 67, 68, 69, 70] 5 (by kernel_rfl) (panicFree_block (panicFree_then (panicFree_then (panicFree_block (panicFree_then (panicFree_block (panicFree_then panicFree_body))))))) (fun _ h => h.cells) hT3471 hE3467 (by kernel_rfl) (env' := [(1, .v (.int .i64 v)), (6, .p 2 0), (9, .p 3 0), (10, .p 4 0), (60, .v (.slice A3276 ((things l3272).length) c3277)), (61, .v (.int .i64 (((things l3272).length : Nat) : Int))), (62, .v (.int .i64 ((k : Nat) : Int))), (67, .v (.slice A_ k c_)), (68, .v (.agg #[.int .i64 y3295, .int .i64 y3290, .int .i64 y3291, .int .i64 (-1), .int .i64 (-1), .int .i64 y3294, .int .i64 y3295, .slice A3297 l3296.length c3298])), (69, .v (.int .i64 v)), (70, .v (.agg #[.int .i64 n3432, .slice A3437 s3433.length c3438, .bool b3434, .slice A3439 l3435.length c3440, .slice A3441 u3436.length c3442]))]) (by kernel_rfl) rfl fun a3472 hE3473 => ?_
      clear hE3467
      refine anyC_op (i := 5) (by kernel_rfl) (wpOp_call hE3473 (f := 32) (vs := [.agg #[.int .i64 y3295, .int .i64 y3290, .int .i64 y3291, .int .i64 (-1), .int .i64 (-1), .int .i64 y3294, .int .i64 y3295, .slice A3297 l3296.length c3298], .int .i64 v, .agg #[.int .i64 n3432, .slice A3437 s3433.length c3438, .bool b3434, .slice A3439 l3435.length c3440, .slice A3441 u3436.length c3442]]) (d := 71) (by kernel_rfl) Try.call32 ( sFitted0 hfit _ (Fld.mk y3295 y3290 y3291 (-1) (-1) y3294 y3295 l3296) v _ (Tree.mk n3432 s3433 b3434 l3435 u3436) _ _ (FldR.mk (l := l3296) xs3299 (h3301.move hW3470.step nilM hW3470.imm) (fun i_ x_ h_ => ((h3302 i_ x_ h_).move hW3470.step nilM hW3470.imm))) hpl.2 hd hof (hr3431.move hW3470.step nilM hW3470.imm)) ?_)
      rintro e_ w3477 ⟨cs3476, rfl, hr3475, hs3474⟩
      have hr3478 := hr3475.move (Step.refl _ Nil) nilM (hW3470.laid (G := F) hs3474)
      obtain ⟨n3479, s3480, b3481, l3482, u3483, A3484, c3485, A3486, c3487, A3488, c3489, xs3490, ht3496, hcs3491, h3492, h3493, h3494, h3495⟩ := hr3478.open_
      rw [hcs3491] at hr3478
      have hsm3497 := h3492.small
      have hsm3498 := h3493.small
      rw [hcs3491]
      refine ⟨_, rfl, fun a3499 hE3500 => ?_⟩
      have hW3501 := hW3470.next_nil hs3474
      have hF3502 := Fr.nil [⟨b3304, 0, [.int .i64 k3289, .int .i64 y3290, .int .i64 y3291, .int .i64 y3292, .int .i64 y3293, .int .i64 y3294, .int .i64 y3295, .slice A3297 l3296.length c3298], true⟩, ⟨b3312, 0, [.int .i64 n3269, .slice A3274 s3270.length c3275, .bool b3271, .slice A3276 l3272.length c3277, .slice A3278 u3273.length c3279], true⟩, ⟨b3320, 0, [.int .i64 0, .slice none 0 0, .bool false, .slice none 0 0, .slice none 0 0], true⟩, ⟨b3355, 0, [.int .i64 0, .slice none 0 0, .bool true, .slice A_ k c_, .slice none 0 0], true⟩, ⟨b3369, 0, [.int .i64 y3295, .int .i64 y3290, .int .i64 y3291, .int .i64 (-1), .int .i64 (-1), .int .i64 y3294, .int .i64 y3295, .slice A3297 l3296.length c3298], true⟩, ⟨b3456, 0, [.int .i64 n3432, .slice A3437 s3433.length c3438, .bool b3434, .slice A3439 l3435.length c3440, .slice A3441 u3436.length c3442], true⟩] [⟨A_, c_, 26, 5, k, xs⟩] hs3474
      clear hE3473
      have hT3503 : TT w3468 [⟨b3304, 0, [.int .i64 k3289, .int .i64 y3290, .int .i64 y3291, .int .i64 y3292, .int .i64 y3293, .int .i64 y3294, .int .i64 y3295, .slice A3297 l3296.length c3298], true⟩, ⟨b3312, 0, [.int .i64 n3269, .slice A3274 s3270.length c3275, .bool b3271, .slice A3276 l3272.length c3277, .slice A3278 u3273.length c3279], true⟩, ⟨b3320, 0, [.int .i64 0, .slice none 0 0, .bool false, .slice none 0 0, .slice none 0 0], true⟩, ⟨b3355, 0, [.int .i64 0, .slice none 0 0, .bool true, .slice A_ k c_, .slice none 0 0], true⟩, ⟨b3369, 0, [.int .i64 y3295, .int .i64 y3290, .int .i64 y3291, .int .i64 (-1), .int .i64 (-1), .int .i64 y3294, .int .i64 y3295, .slice A3297 l3296.length c3298], true⟩, ⟨b3456, 0, [.int .i64 n3432, .slice A3437 s3433.length c3438, .bool b3434, .slice A3439 l3435.length c3440, .slice A3441 u3436.length c3442], true⟩] [⟨A_, c_, 26, 5, k, xs⟩] w3477 := ⟨hW3501.cells, hF3502.step⟩
      refine ⟨fun _ => hT3503, ?_⟩
      refine anyC_op (i := 6) (by kernel_rfl) (wpOp_lit hW3501 hE3500 (e := 26) (size := 5) (len := 1) (cs := [.int .i64 n3479, .slice A3484 s3480.length c3485, .bool b3481, .slice A3486 l3482.length c3487, .slice A3488 u3483.length c3489]) (d := 72) (by kernel_rfl) (by kernel_rfl) fun b3504 a3505 w3506 hb3507 hz3508 hF3509 hW3510 hE3511 => ?_)
      clear hE3500 hW3501
      have hT3512 : TT w3468 [⟨b3304, 0, [.int .i64 k3289, .int .i64 y3290, .int .i64 y3291, .int .i64 y3292, .int .i64 y3293, .int .i64 y3294, .int .i64 y3295, .slice A3297 l3296.length c3298], true⟩, ⟨b3312, 0, [.int .i64 n3269, .slice A3274 s3270.length c3275, .bool b3271, .slice A3276 l3272.length c3277, .slice A3278 u3273.length c3279], true⟩, ⟨b3320, 0, [.int .i64 0, .slice none 0 0, .bool false, .slice none 0 0, .slice none 0 0], true⟩, ⟨b3355, 0, [.int .i64 0, .slice none 0 0, .bool true, .slice A_ k c_, .slice none 0 0], true⟩, ⟨b3369, 0, [.int .i64 y3295, .int .i64 y3290, .int .i64 y3291, .int .i64 (-1), .int .i64 (-1), .int .i64 y3294, .int .i64 y3295, .slice A3297 l3296.length c3298], true⟩, ⟨b3456, 0, [.int .i64 n3432, .slice A3437 s3433.length c3438, .bool b3434, .slice A3439 l3435.length c3440, .slice A3441 u3436.length c3442], true⟩] [⟨A_, c_, 26, 5, k, xs⟩] w3506 := ⟨hW3510.cells, (Fr.trans hF3502 hF3509).step⟩
      refine ⟨fun _ => hT3512, ?_⟩
      refine anyC_op (i := 7) (by kernel_rfl) (wpOp_append hW3510 hE3511 (k := 0) (d := 73) (t := 23) (e := 26) (size := 5) (bytes := 88) (A := A_) (As := (some ⟨b3504, 0, none⟩)) (m0 := k) (c := c_) (m := 1) (cs := 1) (xs := xs) (news := [.int .i64 n3479, .slice A3484 s3480.length c3485, .bool b3481, .slice A3486 l3482.length c3487, .slice A3488 u3483.length c3489]) (by kernel_rfl) (by kernel_rfl) rfl (own_src (hW3510.own 1 _ rfl) (allOne_ok (by kernel_rfl))) (own_cap (hW3510.own 1 _ rfl)) (by omega) fun A3513 c3514 a3515 w3516 hF3517 hW3518 hE3519 => ?_)
      clear hE3511 hW3510
      have hT3520 : TT w3468 [⟨b3304, 0, [.int .i64 k3289, .int .i64 y3290, .int .i64 y3291, .int .i64 y3292, .int .i64 y3293, .int .i64 y3294, .int .i64 y3295, .slice A3297 l3296.length c3298], true⟩, ⟨b3312, 0, [.int .i64 n3269, .slice A3274 s3270.length c3275, .bool b3271, .slice A3276 l3272.length c3277, .slice A3278 u3273.length c3279], true⟩, ⟨b3320, 0, [.int .i64 0, .slice none 0 0, .bool false, .slice none 0 0, .slice none 0 0], true⟩, ⟨b3355, 0, [.int .i64 0, .slice none 0 0, .bool true, .slice A_ k c_, .slice none 0 0], true⟩, ⟨b3369, 0, [.int .i64 y3295, .int .i64 y3290, .int .i64 y3291, .int .i64 (-1), .int .i64 (-1), .int .i64 y3294, .int .i64 y3295, .slice A3297 l3296.length c3298], true⟩, ⟨b3456, 0, [.int .i64 n3432, .slice A3437 s3433.length c3438, .bool b3434, .slice A3439 l3435.length c3440, .slice A3441 u3436.length c3442], true⟩] [⟨A_, c_, 26, 5, k, xs⟩] w3516 := ⟨hW3518.cells, (Fr.trans (Fr.trans hF3502 hF3509) hF3517).step⟩
      refine ⟨fun _ => hT3520, ?_⟩
      refine go_runsD [8] [1, 6, 9, 10, 60, 61, 62, 73, 74] 1 (by kernel_rfl) (panicFree_block (panicFree_then (panicFree_then (panicFree_block (panicFree_then (panicFree_block (panicFree_then panicFree_body))))))) (fun _ h => h.cells) hT3520 hE3519 (by kernel_rfl) (env' := [(1, .v (.int .i64 v)), (6, .p 2 0), (9, .p 3 0), (10, .p 4 0), (60, .v (.slice A3276 ((things l3272).length) c3277)), (61, .v (.int .i64 (((things l3272).length : Nat) : Int))), (62, .v (.int .i64 ((k : Nat) : Int))), (73, .v (.slice A3513 (k + 1) c3514)), (74, .p 3 3)]) (by kernel_rfl) rfl fun a3521 hE3522 => ?_
      clear hE3519
      refine anyC_op (i := 9) (by kernel_rfl) (wpOp_store hW3518 hE3522 (oi := 3) (cs := [.int .i64 0, .slice none 0 0, .bool true, .slice A3513 (k + 1) c3514, .slice none 0 0]) (by kernel_rfl) fun w3523 hF3524 hW3525 hE3526 => ?_)
      clear hE3522 hW3518
      refine ⟨fun h => absurd rfl h, ?_⟩
      refine anyC_done (by kernel_rfl) ?_ _
      refine block_normal ?_
      refine then_normal ?_
      refine go_region [0, 1] (by kernel_rfl) ?_
      refine go_runs [0, 1] [] [1, 6, 9, 10, 60, 61, 62] hW3525 hE3526 (env' := [(1, .v (.int .i64 v)), (6, .p 2 0), (9, .p 3 0), (10, .p 4 0), (60, .v (.slice A3276 ((things l3272).length) c3277)), (61, .v (.int .i64 (((things l3272).length : Nat) : Int))), (62, .v (.int .i64 (IntKind.i64.wrap (((k : Nat) : Int) + 1))))]) (by kernel_rfl) rfl fun a3527 hE3528 => ?_
      clear hE3526
      refine wpOps_nil ?_
      refine then_normal ?_
      have hE3529 := EnvOk.pick hE3528 (ks := [1, 6, 9, 10, 60, 61, 62]) (env' := [(1, .v (.int .i64 v)), (6, .p 2 0), (9, .p 3 0), (10, .p 4 0), (60, .v (.slice A3276 ((things l3272).length) c3277)), (61, .v (.int .i64 (((things l3272).length : Nat) : Int))), (62, .v (.int .i64 (IntKind.i64.wrap (((k : Nat) : Int) + 1))))]) (by kernel_rfl)
      have hE3530 : EnvOk 82 [⟨b3304, 0, [.int .i64 k3289, .int .i64 y3290, .int .i64 y3291, .int .i64 y3292, .int .i64 y3293, .int .i64 y3294, .int .i64 y3295, .slice A3297 l3296.length c3298], true⟩, ⟨b3312, 0, [.int .i64 n3269, .slice A3274 s3270.length c3275, .bool b3271, .slice A3276 l3272.length c3277, .slice A3278 u3273.length c3279], true⟩, ⟨b3320, 0, [.int .i64 0, .slice none 0 0, .bool false, .slice none 0 0, .slice none 0 0], true⟩, ⟨b3355, 0, [.int .i64 0, .slice none 0 0, .bool true, .slice A3513 (k + 1) c3514, .slice none 0 0], true⟩, ⟨b3369, 0, [.int .i64 y3295, .int .i64 y3290, .int .i64 y3291, .int .i64 (-1), .int .i64 (-1), .int .i64 y3294, .int .i64 y3295, .slice A3297 l3296.length c3298], true⟩] _ _ := hE3529.cutTb 5 (by kernel_rfl)
      have hW3531 : WOk _ _ _ [⟨b3304, 0, [.int .i64 k3289, .int .i64 y3290, .int .i64 y3291, .int .i64 y3292, .int .i64 y3293, .int .i64 y3294, .int .i64 y3295, .slice A3297 l3296.length c3298], true⟩, ⟨b3312, 0, [.int .i64 n3269, .slice A3274 s3270.length c3275, .bool b3271, .slice A3276 l3272.length c3277, .slice A3278 u3273.length c3279], true⟩, ⟨b3320, 0, [.int .i64 0, .slice none 0 0, .bool false, .slice none 0 0, .slice none 0 0], true⟩, ⟨b3355, 0, [.int .i64 0, .slice none 0 0, .bool true, .slice A3513 (k + 1) c3514, .slice none 0 0], true⟩, ⟨b3369, 0, [.int .i64 y3295, .int .i64 y3290, .int .i64 y3291, .int .i64 (-1), .int .i64 (-1), .int .i64 y3294, .int .i64 y3295, .slice A3297 l3296.length c3298], true⟩] _ := hW3525.cutTb 5
      have hF3532 : Fr _ _ _ _ [⟨b3304, 0, [.int .i64 k3289, .int .i64 y3290, .int .i64 y3291, .int .i64 y3292, .int .i64 y3293, .int .i64 y3294, .int .i64 y3295, .slice A3297 l3296.length c3298], true⟩, ⟨b3312, 0, [.int .i64 n3269, .slice A3274 s3270.length c3275, .bool b3271, .slice A3276 l3272.length c3277, .slice A3278 u3273.length c3279], true⟩, ⟨b3320, 0, [.int .i64 0, .slice none 0 0, .bool false, .slice none 0 0, .slice none 0 0], true⟩, ⟨b3355, 0, [.int .i64 0, .slice none 0 0, .bool true, .slice A3513 (k + 1) c3514, .slice none 0 0], true⟩, ⟨b3369, 0, [.int .i64 y3295, .int .i64 y3290, .int .i64 y3291, .int .i64 (-1), .int .i64 (-1), .int .i64 y3294, .int .i64 y3295, .slice A3297 l3296.length c3298], true⟩] _ := Fr.cutTb w3523 [⟨b3304, 0, [.int .i64 k3289, .int .i64 y3290, .int .i64 y3291, .int .i64 y3292, .int .i64 y3293, .int .i64 y3294, .int .i64 y3295, .slice A3297 l3296.length c3298], true⟩, ⟨b3312, 0, [.int .i64 n3269, .slice A3274 s3270.length c3275, .bool b3271, .slice A3276 l3272.length c3277, .slice A3278 u3273.length c3279], true⟩, ⟨b3320, 0, [.int .i64 0, .slice none 0 0, .bool false, .slice none 0 0, .slice none 0 0], true⟩, ⟨b3355, 0, [.int .i64 0, .slice none 0 0, .bool true, .slice A3513 (k + 1) c3514, .slice none 0 0], true⟩, ⟨b3369, 0, [.int .i64 y3295, .int .i64 y3290, .int .i64 y3291, .int .i64 (-1), .int .i64 (-1), .int .i64 y3294, .int .i64 y3295, .slice A3297 l3296.length c3298], true⟩, ⟨b3456, 0, [.int .i64 n3432, .slice A3437 s3433.length c3438, .bool b3434, .slice A3439 l3435.length c3440, .slice A3441 u3436.length c3442], true⟩] [⟨A3513, c3514, 26, 5, k + 1, xs ++ [.int .i64 n3479, .slice A3484 s3480.length c3485, .bool b3481, .slice A3486 l3482.length c3487, .slice A3488 u3483.length c3489]⟩, ⟨some ⟨b3504, 0, none⟩, 1, 26, 5, 1, [.int .i64 n3479, .slice A3484 s3480.length c3485, .bool b3481, .slice A3486 l3482.length c3487, .slice A3488 u3483.length c3489]⟩] 5
      have hW3533 : WOk _ _ _ _ [⟨A3513, c3514, 26, 5, k + 1, xs ++ [.int .i64 n3479, .slice A3484 s3480.length c3485, .bool b3481, .slice A3486 l3482.length c3487, .slice A3488 u3483.length c3489]⟩] := hW3531.rows 1
      have hF3534 : Fr _ _ _ _ _ [⟨A3513, c3514, 26, 5, k + 1, xs ++ [.int .i64 n3479, .slice A3484 s3480.length c3485, .bool b3481, .slice A3486 l3482.length c3487, .slice A3488 u3483.length c3489]⟩] := Fr.rows w3523 [⟨b3304, 0, [.int .i64 k3289, .int .i64 y3290, .int .i64 y3291, .int .i64 y3292, .int .i64 y3293, .int .i64 y3294, .int .i64 y3295, .slice A3297 l3296.length c3298], true⟩, ⟨b3312, 0, [.int .i64 n3269, .slice A3274 s3270.length c3275, .bool b3271, .slice A3276 l3272.length c3277, .slice A3278 u3273.length c3279], true⟩, ⟨b3320, 0, [.int .i64 0, .slice none 0 0, .bool false, .slice none 0 0, .slice none 0 0], true⟩, ⟨b3355, 0, [.int .i64 0, .slice none 0 0, .bool true, .slice A3513 (k + 1) c3514, .slice none 0 0], true⟩, ⟨b3369, 0, [.int .i64 y3295, .int .i64 y3290, .int .i64 y3291, .int .i64 (-1), .int .i64 (-1), .int .i64 y3294, .int .i64 y3295, .slice A3297 l3296.length c3298], true⟩] [⟨A3513, c3514, 26, 5, k + 1, xs ++ [.int .i64 n3479, .slice A3484 s3480.length c3485, .bool b3481, .slice A3486 l3482.length c3487, .slice A3488 u3483.length c3489]⟩, ⟨some ⟨b3504, 0, none⟩, 1, 26, 5, 1, [.int .i64 n3479, .slice A3484 s3480.length c3485, .bool b3481, .slice A3486 l3482.length c3487, .slice A3488 u3483.length c3489]⟩] 1
      have hE3535 := EnvOk.pick hE3530 (ks := [1, 6, 9, 10, 60, 61, 62]) (env' := [(1, .v (.int .i64 v)), (6, .p 2 0), (9, .p 3 0), (10, .p 4 0), (60, .v (.slice A3276 ((things l3272).length) c3277)), (61, .v (.int .i64 (((things l3272).length : Nat) : Int))), (62, .v (.int .i64 (IntKind.i64.wrap (((k : Nat) : Int) + 1))))]) (by kernel_rfl)
      have he3536 : IntKind.i64.wrap (((k : Nat) : Int) + 1) = ((k + 1 : Nat) : Int) := wrap_succ (by omega)
      rw [he3536] at hE3535
      exact ⟨(things l3272).length - (k + 1), by omega, k + 1, A3513, c3514, xs ++ [Value.int .i64 n3479, .slice A3484 s3480.length c3485, .bool b3481, .slice A3486 l3482.length c3487, .slice A3488 u3483.length c3489], (css ++ [[Value.int .i64 n3479, .slice A3484 s3480.length c3485, .bool b3481, .slice A3486 l3482.length c3487, .slice A3488 u3483.length c3489]]), rfl, by omega, by rw [take_succ_of (fitL_get (p := fitT v d) (v := v) (f := (Fld.mk y3295 y3290 y3291 (-1) (-1) y3294 y3295 l3296)) he3430)]; exact (hT.move (Fr.trans (Fr.trans (Fr.trans (Fr.trans (Fr.trans (Fr.trans (Fr.trans (Fr.trans hF3461 hF3465) hF3469) hF3502) hF3509) hF3517) hF3524) hF3532) hF3534).step immM (Fr.trans (Fr.trans (Fr.trans (Fr.trans (Fr.trans (Fr.trans (Fr.trans (Fr.trans hF3461 hF3465) hF3469) hF3502) hF3509) hF3517) hF3524) hF3532) hF3534).to').snoc (hr3478.move (Fr.trans (Fr.trans (Fr.trans (Fr.trans hF3509 hF3517) hF3524) hF3532) hF3534).step immM (Fr.trans (Fr.trans (Fr.trans (Fr.trans hF3509 hF3517) hF3524) hF3532) hF3534).to'), hE3535, hW3533, (Fr.trans (Fr.trans (Fr.trans (Fr.trans (Fr.trans (Fr.trans (Fr.trans (Fr.trans (Fr.trans hF3418 hF3461) hF3465) hF3469) hF3502) hF3509) hF3517) hF3524) hF3532) hF3534)⟩
    ·
      have hf3537 := of_decide_eq_false hc3422
      refine wp_exit ?_
      refine then_exit ?_
      refine then_exit ?_
      refine block_exit ?_
      refine then_normal ?_
      refine go_seq_region [0, 1] (by kernel_rfl) ?_
      refine go_runs [0] [1] [6, 76] hW3415 hE3421 (env' := [(6, .p 2 0), (76, .v (.agg #[.int .i64 0, .slice none 0 0, .bool true, .slice A_ k c_, .slice none 0 0]))]) (by kernel_rfl) rfl fun a3538 hE3539 => ?_
      clear hE3421
      refine of_op (wpOp_store hW3415 hE3539 (oi := 2) (cs := [.int .i64 0, .slice none 0 0, .bool true, .slice A_ k c_, .slice none 0 0]) (by kernel_rfl) fun w3540 hF3541 hW3542 hE3543 => ?_)
      clear hE3539 hW3415
      refine wpOps_nil ?_
      refine then_normal ?_
      refine wp_ret ?_
      refine block_ret ?_
      refine then_ret ?_
      refine leave hE3543 hW3542.cells (v := .agg #[.int .i64 0, .slice none 0 0, .bool true, .slice A_ k c_, .slice none 0 0]) (by kernel_rfl) ?_
      have hk0 : k = (fitL (fitT v d) v (Fld.mk y3295 y3290 y3291 (-1) (-1) y3294 y3295 l3296) l3272).length := by rw [fitL_len]; omega
      have hT' := (hT.move hF3541.step immM hF3541.to')
      rw [show (fitL (fitT v d) v (Fld.mk y3295 y3290 y3291 (-1) (-1) y3294 y3295 l3296) l3272).take k = (fitL (fitT v d) v (Fld.mk y3295 y3290 y3291 (-1) (-1) y3294 y3295 l3296) l3272) by rw [hk0, List.take_length]] at hT'
      exact tree_end hW3542 rfl (Octs.nil _ _) hk0 (trees_fp hW3542 (k := 0) rfl hT' hk0 (by rw [fitL_len]; omega)) rfl (TagsR.nil _ _) (fittedW_11 hk11 (by simp only [hc3350]; try simp))
  ·
    have hE3545 := hE3349.cast (env' := [(1, .v (.int .i64 v)), (3, .p 0 0), (5, .p 1 0), (6, .p 2 0), (40, .v (.bool false))]) (by rw [hc3350])
    clear hE3349
    refine go_runs [2, 3, 4, 5] [6, 7, 8, 9, 10, 11, 12, 13, 14] [1, 3, 5, 6, 40, 44] hW3334 hE3545 (env' := [(1, .v (.int .i64 v)), (3, .p 0 0), (5, .p 1 0), (6, .p 2 0), (40, .v (.bool false)), (44, .v (.bool (decide (y3293 ≥ 0))))]) (by kernel_rfl) rfl fun a3546 hE3547 => ?_
    clear hE3545
    refine (Bool.eq_false_or_eq_true (decide (y3293 ≥ 0))).elim (fun hc3548 => ?_) (fun hc3548 => ?_)
    ·
      have hf3549 := of_decide_eq_true hc3548
      have hE3550 := hE3547.cast (env' := [(1, .v (.int .i64 v)), (3, .p 0 0), (5, .p 1 0), (6, .p 2 0), (40, .v (.bool false)), (44, .v (.bool true))]) (by rw [hc3548])
      clear hE3547
      refine go_runs [6, 7, 8, 9, 10, 11, 12] [13, 14] [1, 3, 5, 6, 51] hW3334 hE3550 (env' := [(1, .v (.int .i64 v)), (3, .p 0 0), (5, .p 1 0), (6, .p 2 0), (51, .v (.agg #[.int .i64 0, .slice none 0 0, .bool (((l3272.length : Nat) : Int) == 0), .slice none 0 0, .slice none 0 0]))]) (by kernel_rfl) rfl fun a3551 hE3552 => ?_
      clear hE3550
      refine of_op (wpOp_alloc hW3334 hE3552 (d := 9) (cs := [.int .i64 0, .slice none 0 0, .bool false, .slice none 0 0, .slice none 0 0]) (by kernel_rfl) fun b3553 a3554 w3555 hb3556 hz3557 hF3558 hW3559 hE3560 => ?_)
      clear hE3552 hW3334
      refine of_op (wpOp_store hW3559 hE3560 (oi := 3) (cs := [.int .i64 0, .slice none 0 0, .bool (((l3272.length : Nat) : Int) == 0), .slice none 0 0, .slice none 0 0]) (by kernel_rfl) fun w3561 hF3562 hW3563 hE3564 => ?_)
      clear hE3560 hW3559
      refine wpOps_nil ?_
      refine then_normal ?_
      refine go_seq_region [0, 1, 2] (by kernel_rfl) ?_
      refine go_runs [0] [1, 2] [1, 3, 5, 6, 9, 52] hW3563 hE3564 (env' := [(1, .v (.int .i64 v)), (3, .p 0 0), (5, .p 1 0), (6, .p 2 0), (9, .p 3 0), (52, .v (.agg #[.int .i64 k3289, .int .i64 y3290, .int .i64 y3291, .int .i64 y3292, .int .i64 y3293, .int .i64 y3294, .int .i64 y3295, .slice A3297 l3296.length c3298]))]) (by kernel_rfl) rfl fun a3565 hE3566 => ?_
      clear hE3564
      refine of_op (wpOp_alloc hW3563 hE3566 (d := 10) (cs := [.int .i64 0, .int .i64 0, .int .i64 0, .int .i64 0, .int .i64 0, .int .i64 0, .int .i64 0, .slice none 0 0]) (by kernel_rfl) fun b3567 a3568 w3569 hb3570 hz3571 hF3572 hW3573 hE3574 => ?_)
      clear hE3566 hW3563
      refine of_op (wpOp_store hW3573 hE3574 (oi := 4) (cs := [.int .i64 k3289, .int .i64 y3290, .int .i64 y3291, .int .i64 y3292, .int .i64 y3293, .int .i64 y3294, .int .i64 y3295, .slice A3297 l3296.length c3298]) (by kernel_rfl) fun w3575 hF3576 hW3577 hE3578 => ?_)
      clear hE3574 hW3573
      refine wpOps_nil ?_
      refine then_normal ?_
      refine go_seq_region [0, 1, 2, 3, 4, 5, 6, 7] (by kernel_rfl) ?_
      refine go_runs [0, 1, 2] [3, 4, 5, 6, 7] [1, 5, 6, 9, 10, 54, 55] hW3577 hE3578 (env' := [(1, .v (.int .i64 v)), (5, .p 1 0), (6, .p 2 0), (9, .p 3 0), (10, .p 4 0), (54, .v (.int .i64 y3295)), (55, .p 4 0)]) (by kernel_rfl) rfl fun a3579 hE3580 => ?_
      clear hE3578
      refine of_op (wpOp_store hW3577 hE3580 (oi := 4) (cs := [.int .i64 y3295, .int .i64 y3290, .int .i64 y3291, .int .i64 y3292, .int .i64 y3293, .int .i64 y3294, .int .i64 y3295, .slice A3297 l3296.length c3298]) (by kernel_rfl) fun w3581 hF3582 hW3583 hE3584 => ?_)
      clear hE3580 hW3577
      refine go_runs [4] [5, 6, 7] [1, 5, 6, 9, 10, 56] hW3583 hE3584 (env' := [(1, .v (.int .i64 v)), (5, .p 1 0), (6, .p 2 0), (9, .p 3 0), (10, .p 4 0), (56, .p 4 3)]) (by kernel_rfl) rfl fun a3585 hE3586 => ?_
      clear hE3584
      refine of_op (wpOp_store hW3583 hE3586 (oi := 4) (cs := [.int .i64 y3295, .int .i64 y3290, .int .i64 y3291, .int .i64 (-1), .int .i64 y3293, .int .i64 y3294, .int .i64 y3295, .slice A3297 l3296.length c3298]) (by kernel_rfl) fun w3587 hF3588 hW3589 hE3590 => ?_)
      clear hE3586 hW3583
      refine go_runs [6] [7] [1, 5, 6, 9, 10, 57] hW3589 hE3590 (env' := [(1, .v (.int .i64 v)), (5, .p 1 0), (6, .p 2 0), (9, .p 3 0), (10, .p 4 0), (57, .p 4 4)]) (by kernel_rfl) rfl fun a3591 hE3592 => ?_
      clear hE3590
      refine of_op (wpOp_store hW3589 hE3592 (oi := 4) (cs := [.int .i64 y3295, .int .i64 y3290, .int .i64 y3291, .int .i64 (-1), .int .i64 (-1), .int .i64 y3294, .int .i64 y3295, .slice A3297 l3296.length c3298]) (by kernel_rfl) fun w3593 hF3594 hW3595 hE3596 => ?_)
      clear hE3592 hW3589
      refine wpOps_nil ?_
      refine then_normal ?_
      refine wp_seq ?_
      refine go_seq_region [0, 1, 2, 3, 4] (by kernel_rfl) ?_
      refine go_runs [0, 1] [2, 3, 4] [1, 6, 9, 10, 59] hW3595 hE3596 (env' := [(1, .v (.int .i64 v)), (6, .p 2 0), (9, .p 3 0), (10, .p 4 0), (59, .v (.slice A3276 l3272.length c3277))]) (by kernel_rfl) rfl fun a3597 hE3598 => ?_
      clear hE3596
      refine of_op (wpOp_call hE3598 (f := 63) (vs := [.slice A3276 l3272.length c3277]) (d := 60) (by kernel_rfl) Try.call63 (sThings _ _ l3272 (h3283.move hW3595.step nilM hW3595.imm).le _) ?_)
      rintro e_ w3600 ⟨rfl, hs3599⟩
      refine ⟨_, rfl, fun a3601 hE3602 => ?_⟩
      have hW3603 := hW3595.next_nil hs3599
      have hF3604 := Fr.nil [⟨b3304, 0, [.int .i64 k3289, .int .i64 y3290, .int .i64 y3291, .int .i64 y3292, .int .i64 y3293, .int .i64 y3294, .int .i64 y3295, .slice A3297 l3296.length c3298], true⟩, ⟨b3312, 0, [.int .i64 n3269, .slice A3274 s3270.length c3275, .bool b3271, .slice A3276 l3272.length c3277, .slice A3278 u3273.length c3279], true⟩, ⟨b3320, 0, [.int .i64 0, .slice none 0 0, .bool false, .slice none 0 0, .slice none 0 0], true⟩, ⟨b3553, 0, [.int .i64 0, .slice none 0 0, .bool (((l3272.length : Nat) : Int) == 0), .slice none 0 0, .slice none 0 0], true⟩, ⟨b3567, 0, [.int .i64 y3295, .int .i64 y3290, .int .i64 y3291, .int .i64 (-1), .int .i64 (-1), .int .i64 y3294, .int .i64 y3295, .slice A3297 l3296.length c3298], true⟩] [] hs3599
      clear hE3598 hW3595
      refine go_runs [3, 4] [] [1, 6, 9, 10, 60, 61, 62] hW3603 hE3602 (env' := [(1, .v (.int .i64 v)), (6, .p 2 0), (9, .p 3 0), (10, .p 4 0), (60, .v (.slice A3276 ((things l3272).length) c3277)), (61, .v (.int .i64 (((things l3272).length : Nat) : Int))), (62, .v (.int .i64 0))]) (by kernel_rfl) rfl fun a3605 hE3606 => ?_
      clear hE3602
      refine wpOps_nil ?_
      refine then_normal ?_
      refine wp_block ?_
      have hW3607 := hW3603.addNil 26 5
      have hF3608 := Fr.addNil w3600 [⟨b3304, 0, [.int .i64 k3289, .int .i64 y3290, .int .i64 y3291, .int .i64 y3292, .int .i64 y3293, .int .i64 y3294, .int .i64 y3295, .slice A3297 l3296.length c3298], true⟩, ⟨b3312, 0, [.int .i64 n3269, .slice A3274 s3270.length c3275, .bool b3271, .slice A3276 l3272.length c3277, .slice A3278 u3273.length c3279], true⟩, ⟨b3320, 0, [.int .i64 0, .slice none 0 0, .bool false, .slice none 0 0, .slice none 0 0], true⟩, ⟨b3553, 0, [.int .i64 0, .slice none 0 0, .bool (((l3272.length : Nat) : Int) == 0), .slice none 0 0, .slice none 0 0], true⟩, ⟨b3567, 0, [.int .i64 y3295, .int .i64 y3290, .int .i64 y3291, .int .i64 (-1), .int .i64 (-1), .int .i64 y3294, .int .i64 y3295, .slice A3297 l3296.length c3298], true⟩] [] 26 5
      clear hW3603
      have hsm3 : (things l3272).length ≤ 32767 := things_le _
      have hE3617 := EnvOk.pick hE3606 (ks := [1, 6, 9, 10, 60, 61, 62]) (env' := [(1, .v (.int .i64 v)), (6, .p 2 0), (9, .p 3 0), (10, .p 4 0), (60, .v (.slice A3276 ((things l3272).length) c3277)), (61, .v (.int .i64 (((things l3272).length : Nat) : Int))), (62, .v (.int .i64 0))]) (by kernel_rfl)
      refine wp_loop_ghost (fun n_ a_ w_ => ∃ (k : Nat) (A_ : Option Addr) (c_ : Nat) (xs : List Value) (css : List (List Value)), n_ = (things l3272).length - k ∧ k ≤ (things l3272).length ∧ (Trees w_ (Imm F w w_ [⟨b3304, 0, [.int .i64 k3289, .int .i64 y3290, .int .i64 y3291, .int .i64 y3292, .int .i64 y3293, .int .i64 y3294, .int .i64 y3295, .slice A3297 l3296.length c3298], true⟩, ⟨b3312, 0, [.int .i64 n3269, .slice A3274 s3270.length c3275, .bool b3271, .slice A3276 l3272.length c3277, .slice A3278 u3273.length c3279], true⟩, ⟨b3320, 0, [.int .i64 0, .slice none 0 0, .bool false, .slice none 0 0, .slice none 0 0], true⟩, ⟨b3553, 0, [.int .i64 0, .slice none 0 0, .bool (((l3272.length : Nat) : Int) == 0), .slice A_ k c_, .slice none 0 0], true⟩, ⟨b3567, 0, [.int .i64 y3295, .int .i64 y3290, .int .i64 y3291, .int .i64 (-1), .int .i64 (-1), .int .i64 y3294, .int .i64 y3295, .slice A3297 l3296.length c3298], true⟩] [⟨A_, c_, 26, 5, k, xs⟩]) xs ((fitL (fitT v d) v (Fld.mk y3295 y3290 y3291 (-1) (-1) y3294 y3295 l3296) l3272).take k) css) ∧ EnvOk 82 [⟨b3304, 0, [.int .i64 k3289, .int .i64 y3290, .int .i64 y3291, .int .i64 y3292, .int .i64 y3293, .int .i64 y3294, .int .i64 y3295, .slice A3297 l3296.length c3298], true⟩, ⟨b3312, 0, [.int .i64 n3269, .slice A3274 s3270.length c3275, .bool b3271, .slice A3276 l3272.length c3277, .slice A3278 u3273.length c3279], true⟩, ⟨b3320, 0, [.int .i64 0, .slice none 0 0, .bool false, .slice none 0 0, .slice none 0 0], true⟩, ⟨b3553, 0, [.int .i64 0, .slice none 0 0, .bool (((l3272.length : Nat) : Int) == 0), .slice A_ k c_, .slice none 0 0], true⟩, ⟨b3567, 0, [.int .i64 y3295, .int .i64 y3290, .int .i64 y3291, .int .i64 (-1), .int .i64 (-1), .int .i64 y3294, .int .i64 y3295, .slice A3297 l3296.length c3298], true⟩] [(1, .v (.int .i64 v)), (6, .p 2 0), (9, .p 3 0), (10, .p 4 0), (60, .v (.slice A3276 ((things l3272).length) c3277)), (61, .v (.int .i64 (((things l3272).length : Nat) : Int))), (62, .v (.int .i64 ((k : Nat) : Int)))] a_ ∧ WOk w Nil w_ [⟨b3304, 0, [.int .i64 k3289, .int .i64 y3290, .int .i64 y3291, .int .i64 y3292, .int .i64 y3293, .int .i64 y3294, .int .i64 y3295, .slice A3297 l3296.length c3298], true⟩, ⟨b3312, 0, [.int .i64 n3269, .slice A3274 s3270.length c3275, .bool b3271, .slice A3276 l3272.length c3277, .slice A3278 u3273.length c3279], true⟩, ⟨b3320, 0, [.int .i64 0, .slice none 0 0, .bool false, .slice none 0 0, .slice none 0 0], true⟩, ⟨b3553, 0, [.int .i64 0, .slice none 0 0, .bool (((l3272.length : Nat) : Int) == 0), .slice A_ k c_, .slice none 0 0], true⟩, ⟨b3567, 0, [.int .i64 y3295, .int .i64 y3290, .int .i64 y3291, .int .i64 (-1), .int .i64 (-1), .int .i64 y3294, .int .i64 y3295, .slice A3297 l3296.length c3298], true⟩] [⟨A_, c_, 26, 5, k, xs⟩] ∧ Fr w3600 [⟨b3304, 0, [.int .i64 k3289, .int .i64 y3290, .int .i64 y3291, .int .i64 y3292, .int .i64 y3293, .int .i64 y3294, .int .i64 y3295, .slice A3297 l3296.length c3298], true⟩, ⟨b3312, 0, [.int .i64 n3269, .slice A3274 s3270.length c3275, .bool b3271, .slice A3276 l3272.length c3277, .slice A3278 u3273.length c3279], true⟩, ⟨b3320, 0, [.int .i64 0, .slice none 0 0, .bool false, .slice none 0 0, .slice none 0 0], true⟩, ⟨b3553, 0, [.int .i64 0, .slice none 0 0, .bool (((l3272.length : Nat) : Int) == 0), .slice none 0 0, .slice none 0 0], true⟩, ⟨b3567, 0, [.int .i64 y3295, .int .i64 y3290, .int .i64 y3291, .int .i64 (-1), .int .i64 (-1), .int .i64 y3294, .int .i64 y3295, .slice A3297 l3296.length c3298], true⟩] [⟨none, 0, 26, 5, 0, []⟩] w_ [⟨b3304, 0, [.int .i64 k3289, .int .i64 y3290, .int .i64 y3291, .int .i64 y3292, .int .i64 y3293, .int .i64 y3294, .int .i64 y3295, .slice A3297 l3296.length c3298], true⟩, ⟨b3312, 0, [.int .i64 n3269, .slice A3274 s3270.length c3275, .bool b3271, .slice A3276 l3272.length c3277, .slice A3278 u3273.length c3279], true⟩, ⟨b3320, 0, [.int .i64 0, .slice none 0 0, .bool false, .slice none 0 0, .slice none 0 0], true⟩, ⟨b3553, 0, [.int .i64 0, .slice none 0 0, .bool (((l3272.length : Nat) : Int) == 0), .slice A_ k c_, .slice none 0 0], true⟩, ⟨b3567, 0, [.int .i64 y3295, .int .i64 y3290, .int .i64 y3291, .int .i64 (-1), .int .i64 (-1), .int .i64 y3294, .int .i64 y3295, .slice A3297 l3296.length c3298], true⟩] [⟨A_, c_, 26, 5, k, xs⟩]) ((things l3272).length) ⟨0, none, 0, [], [], by omega, by omega, Trees.nil _ _, hE3617, hW3607, Fr.refl _ _ _⟩ ?_
      clear hE3617 hE3606 hW3607
      rintro n3609 a3610 w3611 ⟨k, A_, c_, xs, css, hn3614, hk3615, hT, hE3612, hW3613, hF3616⟩
      refine go_seq_region [0] (by kernel_rfl) ?_
      refine go_runs [0] [] [1, 6, 9, 10, 60, 61, 62, 63] hW3613 hE3612 (env' := [(1, .v (.int .i64 v)), (6, .p 2 0), (9, .p 3 0), (10, .p 4 0), (60, .v (.slice A3276 ((things l3272).length) c3277)), (61, .v (.int .i64 (((things l3272).length : Nat) : Int))), (62, .v (.int .i64 ((k : Nat) : Int))), (63, .v (.bool (decide (((k : Nat) : Int) < (((things l3272).length : Nat) : Int)))))]) (by kernel_rfl) rfl fun a3618 hE3619 => ?_
      clear hE3612
      refine wpOps_nil ?_
      refine then_normal ?_
      refine wp_seq ?_
      refine cond_of hE3619 (b := decide (((k : Nat) : Int) < (((things l3272).length : Nat) : Int))) (by kernel_rfl) (fun hc3620 => ?_) (fun hc3620 => ?_)
      ·
        have hf3621 := of_decide_eq_true hc3620
        refine wp_skip ?_
        refine then_normal ?_
        refine wp_seq ?_
        refine wp_block ?_
        refine go_seq_region [0, 1, 2, 3] (by kernel_rfl) ?_
        obtain ⟨b3622, o3623, hA3624, hl3625, hat3626⟩ := Slots.get (things_slots h3283) (i := k) (by omega)
        obtain ⟨x3627, he3628⟩ : ∃ x, (things l3272)[k]? = some x := ⟨_, List.getElem?_eq_getElem (by omega)⟩
        have hr3629 := (things_each h3284) k x3627 he3628
        obtain ⟨n3630, s3631, b3632, l3633, u3634, A3635, c3636, A3637, c3638, A3639, c3640, xs3641, rfl, hcs3642, h3643, h3644, h3645, h3646⟩ := hr3629.open_
        rw [hcs3642] at hr3629
        have hsm3648 := h3643.small
        have hsm3649 := h3644.small
        rw [hcs3642] at hat3626
        refine of_op (wpOp_index hE3619 (t := 23) (A := A3276) (m := (things l3272).length) (q := ((k : Nat) : Int)) (d := 64) (by kernel_rfl) (e := 26) (size := 5) (bytes := 88) (by kernel_rfl) hA3624 rfl (by omega) fun a3650 hE3651 => ?_)
        clear hE3619
        refine of_op (wpOp_load hE3651 (t := 26) (b := b3622) (o := o3623 + k * 5) (d := 65) (by kernel_rfl) (cs := [.int .i64 n3630, .slice A3635 s3631.length c3636, .bool b3632, .slice A3637 l3633.length c3638, .slice A3639 u3634.length c3640]) (v := .agg #[.int .i64 n3630, .slice A3635 s3631.length c3636, .bool b3632, .slice A3637 l3633.length c3638, .slice A3639 u3634.length c3640]) (by kernel_rfl) (AtF.move hat3626 hW3613.step nilM keepF).at_ fun a3652 hE3653 => ?_)
        clear hE3651
        refine of_op (wpOp_alloc hW3613 hE3653 (d := 12) (cs := [.int .i64 0, .slice none 0 0, .bool false, .slice none 0 0, .slice none 0 0]) (by kernel_rfl) fun b3654 a3655 w3656 hb3657 hz3658 hF3659 hW3660 hE3661 => ?_)
        clear hE3653 hW3613
        refine of_op (wpOp_store hW3660 hE3661 (oi := 5) (cs := [.int .i64 n3630, .slice A3635 s3631.length c3636, .bool b3632, .slice A3637 l3633.length c3638, .slice A3639 u3634.length c3640]) (by kernel_rfl) fun w3662 hF3663 hW3664 hE3665 => ?_)
        clear hE3661 hW3660
        refine wpOps_nil ?_
        refine then_normal ?_
        refine go_drawK 9 (by kernel_rfl) hW3664 fun w3666 hF3667 hW3668 hT3669 => ?_
        clear hW3664
        refine go_runsD [0, 1, 2, 3, 4] [1, 6, 9, 10, 60, 61, 62, 67, 68, 69, 70] 5 (by kernel_rfl) (panicFree_block (panicFree_then (panicFree_then (panicFree_block (panicFree_then (panicFree_block (panicFree_then panicFree_body))))))) (fun _ h => h.cells) hT3669 hE3665 (by kernel_rfl) (env' := [(1, .v (.int .i64 v)), (6, .p 2 0), (9, .p 3 0), (10, .p 4 0), (60, .v (.slice A3276 ((things l3272).length) c3277)), (61, .v (.int .i64 (((things l3272).length : Nat) : Int))), (62, .v (.int .i64 ((k : Nat) : Int))), (67, .v (.slice A_ k c_)), (68, .v (.agg #[.int .i64 y3295, .int .i64 y3290, .int .i64 y3291, .int .i64 (-1), .int .i64 (-1), .int .i64 y3294, .int .i64 y3295, .slice A3297 l3296.length c3298])), (69, .v (.int .i64 v)), (70, .v (.agg #[.int .i64 n3630, .slice A3635 s3631.length c3636, .bool b3632, .slice A3637 l3633.length c3638, .slice A3639 u3634.length c3640]))]) (by kernel_rfl) rfl fun a3670 hE3671 => ?_
        clear hE3665
        refine anyC_op (i := 5) (by kernel_rfl) (wpOp_call hE3671 (f := 32) (vs := [.agg #[.int .i64 y3295, .int .i64 y3290, .int .i64 y3291, .int .i64 (-1), .int .i64 (-1), .int .i64 y3294, .int .i64 y3295, .slice A3297 l3296.length c3298], .int .i64 v, .agg #[.int .i64 n3630, .slice A3635 s3631.length c3636, .bool b3632, .slice A3637 l3633.length c3638, .slice A3639 u3634.length c3640]]) (d := 71) (by kernel_rfl) Try.call32 ( sFitted0 hfit _ (Fld.mk y3295 y3290 y3291 (-1) (-1) y3294 y3295 l3296) v _ (Tree.mk n3630 s3631 b3632 l3633 u3634) _ _ (FldR.mk (l := l3296) xs3299 (h3301.move hW3668.step nilM hW3668.imm) (fun i_ x_ h_ => ((h3302 i_ x_ h_).move hW3668.step nilM hW3668.imm))) hpl.2 hd hof (hr3629.move hW3668.step nilM hW3668.imm)) ?_)
        rintro e_ w3675 ⟨cs3674, rfl, hr3673, hs3672⟩
        have hr3676 := hr3673.move (Step.refl _ Nil) nilM (hW3668.laid (G := F) hs3672)
        obtain ⟨n3677, s3678, b3679, l3680, u3681, A3682, c3683, A3684, c3685, A3686, c3687, xs3688, ht3694, hcs3689, h3690, h3691, h3692, h3693⟩ := hr3676.open_
        rw [hcs3689] at hr3676
        have hsm3695 := h3690.small
        have hsm3696 := h3691.small
        rw [hcs3689]
        refine ⟨_, rfl, fun a3697 hE3698 => ?_⟩
        have hW3699 := hW3668.next_nil hs3672
        have hF3700 := Fr.nil [⟨b3304, 0, [.int .i64 k3289, .int .i64 y3290, .int .i64 y3291, .int .i64 y3292, .int .i64 y3293, .int .i64 y3294, .int .i64 y3295, .slice A3297 l3296.length c3298], true⟩, ⟨b3312, 0, [.int .i64 n3269, .slice A3274 s3270.length c3275, .bool b3271, .slice A3276 l3272.length c3277, .slice A3278 u3273.length c3279], true⟩, ⟨b3320, 0, [.int .i64 0, .slice none 0 0, .bool false, .slice none 0 0, .slice none 0 0], true⟩, ⟨b3553, 0, [.int .i64 0, .slice none 0 0, .bool (((l3272.length : Nat) : Int) == 0), .slice A_ k c_, .slice none 0 0], true⟩, ⟨b3567, 0, [.int .i64 y3295, .int .i64 y3290, .int .i64 y3291, .int .i64 (-1), .int .i64 (-1), .int .i64 y3294, .int .i64 y3295, .slice A3297 l3296.length c3298], true⟩, ⟨b3654, 0, [.int .i64 n3630, .slice A3635 s3631.length c3636, .bool b3632, .slice A3637 l3633.length c3638, .slice A3639 u3634.length c3640], true⟩] [⟨A_, c_, 26, 5, k, xs⟩] hs3672
        clear hE3671
        have hT3701 : TT w3666 [⟨b3304, 0, [.int .i64 k3289, .int .i64 y3290, .int .i64 y3291, .int .i64 y3292, .int .i64 y3293, .int .i64 y3294, .int .i64 y3295, .slice A3297 l3296.length c3298], true⟩, ⟨b3312, 0, [.int .i64 n3269, .slice A3274 s3270.length c3275, .bool b3271, .slice A3276 l3272.length c3277, .slice A3278 u3273.length c3279], true⟩, ⟨b3320, 0, [.int .i64 0, .slice none 0 0, .bool false, .slice none 0 0, .slice none 0 0], true⟩, ⟨b3553, 0, [.int .i64 0, .slice none 0 0, .bool (((l3272.length : Nat) : Int) == 0), .slice A_ k c_, .slice none 0 0], true⟩, ⟨b3567, 0, [.int .i64 y3295, .int .i64 y3290, .int .i64 y3291, .int .i64 (-1), .int .i64 (-1), .int .i64 y3294, .int .i64 y3295, .slice A3297 l3296.length c3298], true⟩, ⟨b3654, 0, [.int .i64 n3630, .slice A3635 s3631.length c3636, .bool b3632, .slice A3637 l3633.length c3638, .slice A3639 u3634.length c3640], true⟩] [⟨A_, c_, 26, 5, k, xs⟩] w3675 := ⟨hW3699.cells, hF3700.step⟩
        refine ⟨fun _ => hT3701, ?_⟩
        refine anyC_op (i := 6) (by kernel_rfl) (wpOp_lit hW3699 hE3698 (e := 26) (size := 5) (len := 1) (cs := [.int .i64 n3677, .slice A3682 s3678.length c3683, .bool b3679, .slice A3684 l3680.length c3685, .slice A3686 u3681.length c3687]) (d := 72) (by kernel_rfl) (by kernel_rfl) fun b3702 a3703 w3704 hb3705 hz3706 hF3707 hW3708 hE3709 => ?_)
        clear hE3698 hW3699
        have hT3710 : TT w3666 [⟨b3304, 0, [.int .i64 k3289, .int .i64 y3290, .int .i64 y3291, .int .i64 y3292, .int .i64 y3293, .int .i64 y3294, .int .i64 y3295, .slice A3297 l3296.length c3298], true⟩, ⟨b3312, 0, [.int .i64 n3269, .slice A3274 s3270.length c3275, .bool b3271, .slice A3276 l3272.length c3277, .slice A3278 u3273.length c3279], true⟩, ⟨b3320, 0, [.int .i64 0, .slice none 0 0, .bool false, .slice none 0 0, .slice none 0 0], true⟩, ⟨b3553, 0, [.int .i64 0, .slice none 0 0, .bool (((l3272.length : Nat) : Int) == 0), .slice A_ k c_, .slice none 0 0], true⟩, ⟨b3567, 0, [.int .i64 y3295, .int .i64 y3290, .int .i64 y3291, .int .i64 (-1), .int .i64 (-1), .int .i64 y3294, .int .i64 y3295, .slice A3297 l3296.length c3298], true⟩, ⟨b3654, 0, [.int .i64 n3630, .slice A3635 s3631.length c3636, .bool b3632, .slice A3637 l3633.length c3638, .slice A3639 u3634.length c3640], true⟩] [⟨A_, c_, 26, 5, k, xs⟩] w3704 := ⟨hW3708.cells, (Fr.trans hF3700 hF3707).step⟩
        refine ⟨fun _ => hT3710, ?_⟩
        refine anyC_op (i := 7) (by kernel_rfl) (wpOp_append hW3708 hE3709 (k := 0) (d := 73) (t := 23) (e := 26) (size := 5) (bytes := 88) (A := A_) (As := (some ⟨b3702, 0, none⟩)) (m0 := k) (c := c_) (m := 1) (cs := 1) (xs := xs) (news := [.int .i64 n3677, .slice A3682 s3678.length c3683, .bool b3679, .slice A3684 l3680.length c3685, .slice A3686 u3681.length c3687]) (by kernel_rfl) (by kernel_rfl) rfl (own_src (hW3708.own 1 _ rfl) (allOne_ok (by kernel_rfl))) (own_cap (hW3708.own 1 _ rfl)) (by omega) fun A3711 c3712 a3713 w3714 hF3715 hW3716 hE3717 => ?_)
        clear hE3709 hW3708
        have hT3718 : TT w3666 [⟨b3304, 0, [.int .i64 k3289, .int .i64 y3290, .int .i64 y3291, .int .i64 y3292, .int .i64 y3293, .int .i64 y3294, .int .i64 y3295, .slice A3297 l3296.length c3298], true⟩, ⟨b3312, 0, [.int .i64 n3269, .slice A3274 s3270.length c3275, .bool b3271, .slice A3276 l3272.length c3277, .slice A3278 u3273.length c3279], true⟩, ⟨b3320, 0, [.int .i64 0, .slice none 0 0, .bool false, .slice none 0 0, .slice none 0 0], true⟩, ⟨b3553, 0, [.int .i64 0, .slice none 0 0, .bool (((l3272.length : Nat) : Int) == 0), .slice A_ k c_, .slice none 0 0], true⟩, ⟨b3567, 0, [.int .i64 y3295, .int .i64 y3290, .int .i64 y3291, .int .i64 (-1), .int .i64 (-1), .int .i64 y3294, .int .i64 y3295, .slice A3297 l3296.length c3298], true⟩, ⟨b3654, 0, [.int .i64 n3630, .slice A3635 s3631.length c3636, .bool b3632, .slice A3637 l3633.length c3638, .slice A3639 u3634.length c3640], true⟩] [⟨A_, c_, 26, 5, k, xs⟩] w3714 := ⟨hW3716.cells, (Fr.trans (Fr.trans hF3700 hF3707) hF3715).step⟩
        refine ⟨fun _ => hT3718, ?_⟩
        refine go_runsD [8] [1, 6, 9, 10, 60, 61, 62, 73, 74] 1 (by kernel_rfl) (panicFree_block (panicFree_then (panicFree_then (panicFree_block (panicFree_then (panicFree_block (panicFree_then panicFree_body))))))) (fun _ h => h.cells) hT3718 hE3717 (by kernel_rfl) (env' := [(1, .v (.int .i64 v)), (6, .p 2 0), (9, .p 3 0), (10, .p 4 0), (60, .v (.slice A3276 ((things l3272).length) c3277)), (61, .v (.int .i64 (((things l3272).length : Nat) : Int))), (62, .v (.int .i64 ((k : Nat) : Int))), (73, .v (.slice A3711 (k + 1) c3712)), (74, .p 3 3)]) (by kernel_rfl) rfl fun a3719 hE3720 => ?_
        clear hE3717
        refine anyC_op (i := 9) (by kernel_rfl) (wpOp_store hW3716 hE3720 (oi := 3) (cs := [.int .i64 0, .slice none 0 0, .bool (((l3272.length : Nat) : Int) == 0), .slice A3711 (k + 1) c3712, .slice none 0 0]) (by kernel_rfl) fun w3721 hF3722 hW3723 hE3724 => ?_)
        clear hE3720 hW3716
        refine ⟨fun h => absurd rfl h, ?_⟩
        refine anyC_done (by kernel_rfl) ?_ _
        refine block_normal ?_
        refine then_normal ?_
        refine go_region [0, 1] (by kernel_rfl) ?_
        refine go_runs [0, 1] [] [1, 6, 9, 10, 60, 61, 62] hW3723 hE3724 (env' := [(1, .v (.int .i64 v)), (6, .p 2 0), (9, .p 3 0), (10, .p 4 0), (60, .v (.slice A3276 ((things l3272).length) c3277)), (61, .v (.int .i64 (((things l3272).length : Nat) : Int))), (62, .v (.int .i64 (IntKind.i64.wrap (((k : Nat) : Int) + 1))))]) (by kernel_rfl) rfl fun a3725 hE3726 => ?_
        clear hE3724
        refine wpOps_nil ?_
        refine then_normal ?_
        have hE3727 := EnvOk.pick hE3726 (ks := [1, 6, 9, 10, 60, 61, 62]) (env' := [(1, .v (.int .i64 v)), (6, .p 2 0), (9, .p 3 0), (10, .p 4 0), (60, .v (.slice A3276 ((things l3272).length) c3277)), (61, .v (.int .i64 (((things l3272).length : Nat) : Int))), (62, .v (.int .i64 (IntKind.i64.wrap (((k : Nat) : Int) + 1))))]) (by kernel_rfl)
        have hE3728 : EnvOk 82 [⟨b3304, 0, [.int .i64 k3289, .int .i64 y3290, .int .i64 y3291, .int .i64 y3292, .int .i64 y3293, .int .i64 y3294, .int .i64 y3295, .slice A3297 l3296.length c3298], true⟩, ⟨b3312, 0, [.int .i64 n3269, .slice A3274 s3270.length c3275, .bool b3271, .slice A3276 l3272.length c3277, .slice A3278 u3273.length c3279], true⟩, ⟨b3320, 0, [.int .i64 0, .slice none 0 0, .bool false, .slice none 0 0, .slice none 0 0], true⟩, ⟨b3553, 0, [.int .i64 0, .slice none 0 0, .bool (((l3272.length : Nat) : Int) == 0), .slice A3711 (k + 1) c3712, .slice none 0 0], true⟩, ⟨b3567, 0, [.int .i64 y3295, .int .i64 y3290, .int .i64 y3291, .int .i64 (-1), .int .i64 (-1), .int .i64 y3294, .int .i64 y3295, .slice A3297 l3296.length c3298], true⟩] _ _ := hE3727.cutTb 5 (by kernel_rfl)
        have hW3729 : WOk _ _ _ [⟨b3304, 0, [.int .i64 k3289, .int .i64 y3290, .int .i64 y3291, .int .i64 y3292, .int .i64 y3293, .int .i64 y3294, .int .i64 y3295, .slice A3297 l3296.length c3298], true⟩, ⟨b3312, 0, [.int .i64 n3269, .slice A3274 s3270.length c3275, .bool b3271, .slice A3276 l3272.length c3277, .slice A3278 u3273.length c3279], true⟩, ⟨b3320, 0, [.int .i64 0, .slice none 0 0, .bool false, .slice none 0 0, .slice none 0 0], true⟩, ⟨b3553, 0, [.int .i64 0, .slice none 0 0, .bool (((l3272.length : Nat) : Int) == 0), .slice A3711 (k + 1) c3712, .slice none 0 0], true⟩, ⟨b3567, 0, [.int .i64 y3295, .int .i64 y3290, .int .i64 y3291, .int .i64 (-1), .int .i64 (-1), .int .i64 y3294, .int .i64 y3295, .slice A3297 l3296.length c3298], true⟩] _ := hW3723.cutTb 5
        have hF3730 : Fr _ _ _ _ [⟨b3304, 0, [.int .i64 k3289, .int .i64 y3290, .int .i64 y3291, .int .i64 y3292, .int .i64 y3293, .int .i64 y3294, .int .i64 y3295, .slice A3297 l3296.length c3298], true⟩, ⟨b3312, 0, [.int .i64 n3269, .slice A3274 s3270.length c3275, .bool b3271, .slice A3276 l3272.length c3277, .slice A3278 u3273.length c3279], true⟩, ⟨b3320, 0, [.int .i64 0, .slice none 0 0, .bool false, .slice none 0 0, .slice none 0 0], true⟩, ⟨b3553, 0, [.int .i64 0, .slice none 0 0, .bool (((l3272.length : Nat) : Int) == 0), .slice A3711 (k + 1) c3712, .slice none 0 0], true⟩, ⟨b3567, 0, [.int .i64 y3295, .int .i64 y3290, .int .i64 y3291, .int .i64 (-1), .int .i64 (-1), .int .i64 y3294, .int .i64 y3295, .slice A3297 l3296.length c3298], true⟩] _ := Fr.cutTb w3721 [⟨b3304, 0, [.int .i64 k3289, .int .i64 y3290, .int .i64 y3291, .int .i64 y3292, .int .i64 y3293, .int .i64 y3294, .int .i64 y3295, .slice A3297 l3296.length c3298], true⟩, ⟨b3312, 0, [.int .i64 n3269, .slice A3274 s3270.length c3275, .bool b3271, .slice A3276 l3272.length c3277, .slice A3278 u3273.length c3279], true⟩, ⟨b3320, 0, [.int .i64 0, .slice none 0 0, .bool false, .slice none 0 0, .slice none 0 0], true⟩, ⟨b3553, 0, [.int .i64 0, .slice none 0 0, .bool (((l3272.length : Nat) : Int) == 0), .slice A3711 (k + 1) c3712, .slice none 0 0], true⟩, ⟨b3567, 0, [.int .i64 y3295, .int .i64 y3290, .int .i64 y3291, .int .i64 (-1), .int .i64 (-1), .int .i64 y3294, .int .i64 y3295, .slice A3297 l3296.length c3298], true⟩, ⟨b3654, 0, [.int .i64 n3630, .slice A3635 s3631.length c3636, .bool b3632, .slice A3637 l3633.length c3638, .slice A3639 u3634.length c3640], true⟩] [⟨A3711, c3712, 26, 5, k + 1, xs ++ [.int .i64 n3677, .slice A3682 s3678.length c3683, .bool b3679, .slice A3684 l3680.length c3685, .slice A3686 u3681.length c3687]⟩, ⟨some ⟨b3702, 0, none⟩, 1, 26, 5, 1, [.int .i64 n3677, .slice A3682 s3678.length c3683, .bool b3679, .slice A3684 l3680.length c3685, .slice A3686 u3681.length c3687]⟩] 5
        have hW3731 : WOk _ _ _ _ [⟨A3711, c3712, 26, 5, k + 1, xs ++ [.int .i64 n3677, .slice A3682 s3678.length c3683, .bool b3679, .slice A3684 l3680.length c3685, .slice A3686 u3681.length c3687]⟩] := hW3729.rows 1
        have hF3732 : Fr _ _ _ _ _ [⟨A3711, c3712, 26, 5, k + 1, xs ++ [.int .i64 n3677, .slice A3682 s3678.length c3683, .bool b3679, .slice A3684 l3680.length c3685, .slice A3686 u3681.length c3687]⟩] := Fr.rows w3721 [⟨b3304, 0, [.int .i64 k3289, .int .i64 y3290, .int .i64 y3291, .int .i64 y3292, .int .i64 y3293, .int .i64 y3294, .int .i64 y3295, .slice A3297 l3296.length c3298], true⟩, ⟨b3312, 0, [.int .i64 n3269, .slice A3274 s3270.length c3275, .bool b3271, .slice A3276 l3272.length c3277, .slice A3278 u3273.length c3279], true⟩, ⟨b3320, 0, [.int .i64 0, .slice none 0 0, .bool false, .slice none 0 0, .slice none 0 0], true⟩, ⟨b3553, 0, [.int .i64 0, .slice none 0 0, .bool (((l3272.length : Nat) : Int) == 0), .slice A3711 (k + 1) c3712, .slice none 0 0], true⟩, ⟨b3567, 0, [.int .i64 y3295, .int .i64 y3290, .int .i64 y3291, .int .i64 (-1), .int .i64 (-1), .int .i64 y3294, .int .i64 y3295, .slice A3297 l3296.length c3298], true⟩] [⟨A3711, c3712, 26, 5, k + 1, xs ++ [.int .i64 n3677, .slice A3682 s3678.length c3683, .bool b3679, .slice A3684 l3680.length c3685, .slice A3686 u3681.length c3687]⟩, ⟨some ⟨b3702, 0, none⟩, 1, 26, 5, 1, [.int .i64 n3677, .slice A3682 s3678.length c3683, .bool b3679, .slice A3684 l3680.length c3685, .slice A3686 u3681.length c3687]⟩] 1
        have hE3733 := EnvOk.pick hE3728 (ks := [1, 6, 9, 10, 60, 61, 62]) (env' := [(1, .v (.int .i64 v)), (6, .p 2 0), (9, .p 3 0), (10, .p 4 0), (60, .v (.slice A3276 ((things l3272).length) c3277)), (61, .v (.int .i64 (((things l3272).length : Nat) : Int))), (62, .v (.int .i64 (IntKind.i64.wrap (((k : Nat) : Int) + 1))))]) (by kernel_rfl)
        have he3734 : IntKind.i64.wrap (((k : Nat) : Int) + 1) = ((k + 1 : Nat) : Int) := wrap_succ (by omega)
        rw [he3734] at hE3733
        exact ⟨(things l3272).length - (k + 1), by omega, k + 1, A3711, c3712, xs ++ [Value.int .i64 n3677, .slice A3682 s3678.length c3683, .bool b3679, .slice A3684 l3680.length c3685, .slice A3686 u3681.length c3687], (css ++ [[Value.int .i64 n3677, .slice A3682 s3678.length c3683, .bool b3679, .slice A3684 l3680.length c3685, .slice A3686 u3681.length c3687]]), rfl, by omega, by rw [take_succ_of (fitL_get (p := fitT v d) (v := v) (f := (Fld.mk y3295 y3290 y3291 (-1) (-1) y3294 y3295 l3296)) he3628)]; exact (hT.move (Fr.trans (Fr.trans (Fr.trans (Fr.trans (Fr.trans (Fr.trans (Fr.trans (Fr.trans hF3659 hF3663) hF3667) hF3700) hF3707) hF3715) hF3722) hF3730) hF3732).step immM (Fr.trans (Fr.trans (Fr.trans (Fr.trans (Fr.trans (Fr.trans (Fr.trans (Fr.trans hF3659 hF3663) hF3667) hF3700) hF3707) hF3715) hF3722) hF3730) hF3732).to').snoc (hr3676.move (Fr.trans (Fr.trans (Fr.trans (Fr.trans hF3707 hF3715) hF3722) hF3730) hF3732).step immM (Fr.trans (Fr.trans (Fr.trans (Fr.trans hF3707 hF3715) hF3722) hF3730) hF3732).to'), hE3733, hW3731, (Fr.trans (Fr.trans (Fr.trans (Fr.trans (Fr.trans (Fr.trans (Fr.trans (Fr.trans (Fr.trans hF3616 hF3659) hF3663) hF3667) hF3700) hF3707) hF3715) hF3722) hF3730) hF3732)⟩
      ·
        have hf3735 := of_decide_eq_false hc3620
        refine wp_exit ?_
        refine then_exit ?_
        refine then_exit ?_
        refine block_exit ?_
        refine then_normal ?_
        refine go_seq_region [0, 1] (by kernel_rfl) ?_
        refine go_runs [0] [1] [6, 76] hW3613 hE3619 (env' := [(6, .p 2 0), (76, .v (.agg #[.int .i64 0, .slice none 0 0, .bool (((l3272.length : Nat) : Int) == 0), .slice A_ k c_, .slice none 0 0]))]) (by kernel_rfl) rfl fun a3736 hE3737 => ?_
        clear hE3619
        refine of_op (wpOp_store hW3613 hE3737 (oi := 2) (cs := [.int .i64 0, .slice none 0 0, .bool (((l3272.length : Nat) : Int) == 0), .slice A_ k c_, .slice none 0 0]) (by kernel_rfl) fun w3738 hF3739 hW3740 hE3741 => ?_)
        clear hE3737 hW3613
        refine wpOps_nil ?_
        refine then_normal ?_
        refine wp_ret ?_
        refine block_ret ?_
        refine then_ret ?_
        refine leave hE3741 hW3740.cells (v := .agg #[.int .i64 0, .slice none 0 0, .bool (((l3272.length : Nat) : Int) == 0), .slice A_ k c_, .slice none 0 0]) (by kernel_rfl) ?_
        have hk0 : k = (fitL (fitT v d) v (Fld.mk y3295 y3290 y3291 (-1) (-1) y3294 y3295 l3296) l3272).length := by rw [fitL_len]; omega
        have hT' := (hT.move hF3739.step immM hF3739.to')
        rw [show (fitL (fitT v d) v (Fld.mk y3295 y3290 y3291 (-1) (-1) y3294 y3295 l3296) l3272).take k = (fitL (fitT v d) v (Fld.mk y3295 y3290 y3291 (-1) (-1) y3294 y3295 l3296) l3272) by rw [hk0, List.take_length]] at hT'
        exact tree_end hW3740 rfl (Octs.nil _ _) hk0 (trees_fp hW3740 (k := 0) rfl hT' hk0 (by rw [fitL_len]; omega)) rfl (TagsR.nil _ _) (fittedW_11 hk11 (by simp only [hc3350, hc3548]; try simp))
    ·
      have hf3742 := of_decide_eq_false hc3548
      have hE3743 := hE3547.cast (env' := [(1, .v (.int .i64 v)), (3, .p 0 0), (5, .p 1 0), (6, .p 2 0), (40, .v (.bool false)), (44, .v (.bool false))]) (by rw [hc3548])
      clear hE3547
      refine go_runs [6, 7, 8, 9, 10, 11, 12] [13, 14] [1, 3, 5, 6, 51] hW3334 hE3743 (env' := [(1, .v (.int .i64 v)), (3, .p 0 0), (5, .p 1 0), (6, .p 2 0), (51, .v (.agg #[.int .i64 0, .slice none 0 0, .bool false, .slice none 0 0, .slice none 0 0]))]) (by kernel_rfl) rfl fun a3744 hE3745 => ?_
      clear hE3743
      refine of_op (wpOp_alloc hW3334 hE3745 (d := 9) (cs := [.int .i64 0, .slice none 0 0, .bool false, .slice none 0 0, .slice none 0 0]) (by kernel_rfl) fun b3746 a3747 w3748 hb3749 hz3750 hF3751 hW3752 hE3753 => ?_)
      clear hE3745 hW3334
      refine of_op (wpOp_store hW3752 hE3753 (oi := 3) (cs := [.int .i64 0, .slice none 0 0, .bool false, .slice none 0 0, .slice none 0 0]) (by kernel_rfl) fun w3754 hF3755 hW3756 hE3757 => ?_)
      clear hE3753 hW3752
      refine wpOps_nil ?_
      refine then_normal ?_
      refine go_seq_region [0, 1, 2] (by kernel_rfl) ?_
      refine go_runs [0] [1, 2] [1, 3, 5, 6, 9, 52] hW3756 hE3757 (env' := [(1, .v (.int .i64 v)), (3, .p 0 0), (5, .p 1 0), (6, .p 2 0), (9, .p 3 0), (52, .v (.agg #[.int .i64 k3289, .int .i64 y3290, .int .i64 y3291, .int .i64 y3292, .int .i64 y3293, .int .i64 y3294, .int .i64 y3295, .slice A3297 l3296.length c3298]))]) (by kernel_rfl) rfl fun a3758 hE3759 => ?_
      clear hE3757
      refine of_op (wpOp_alloc hW3756 hE3759 (d := 10) (cs := [.int .i64 0, .int .i64 0, .int .i64 0, .int .i64 0, .int .i64 0, .int .i64 0, .int .i64 0, .slice none 0 0]) (by kernel_rfl) fun b3760 a3761 w3762 hb3763 hz3764 hF3765 hW3766 hE3767 => ?_)
      clear hE3759 hW3756
      refine of_op (wpOp_store hW3766 hE3767 (oi := 4) (cs := [.int .i64 k3289, .int .i64 y3290, .int .i64 y3291, .int .i64 y3292, .int .i64 y3293, .int .i64 y3294, .int .i64 y3295, .slice A3297 l3296.length c3298]) (by kernel_rfl) fun w3768 hF3769 hW3770 hE3771 => ?_)
      clear hE3767 hW3766
      refine wpOps_nil ?_
      refine then_normal ?_
      refine go_seq_region [0, 1, 2, 3, 4, 5, 6, 7] (by kernel_rfl) ?_
      refine go_runs [0, 1, 2] [3, 4, 5, 6, 7] [1, 5, 6, 9, 10, 54, 55] hW3770 hE3771 (env' := [(1, .v (.int .i64 v)), (5, .p 1 0), (6, .p 2 0), (9, .p 3 0), (10, .p 4 0), (54, .v (.int .i64 y3295)), (55, .p 4 0)]) (by kernel_rfl) rfl fun a3772 hE3773 => ?_
      clear hE3771
      refine of_op (wpOp_store hW3770 hE3773 (oi := 4) (cs := [.int .i64 y3295, .int .i64 y3290, .int .i64 y3291, .int .i64 y3292, .int .i64 y3293, .int .i64 y3294, .int .i64 y3295, .slice A3297 l3296.length c3298]) (by kernel_rfl) fun w3774 hF3775 hW3776 hE3777 => ?_)
      clear hE3773 hW3770
      refine go_runs [4] [5, 6, 7] [1, 5, 6, 9, 10, 56] hW3776 hE3777 (env' := [(1, .v (.int .i64 v)), (5, .p 1 0), (6, .p 2 0), (9, .p 3 0), (10, .p 4 0), (56, .p 4 3)]) (by kernel_rfl) rfl fun a3778 hE3779 => ?_
      clear hE3777
      refine of_op (wpOp_store hW3776 hE3779 (oi := 4) (cs := [.int .i64 y3295, .int .i64 y3290, .int .i64 y3291, .int .i64 (-1), .int .i64 y3293, .int .i64 y3294, .int .i64 y3295, .slice A3297 l3296.length c3298]) (by kernel_rfl) fun w3780 hF3781 hW3782 hE3783 => ?_)
      clear hE3779 hW3776
      refine go_runs [6] [7] [1, 5, 6, 9, 10, 57] hW3782 hE3783 (env' := [(1, .v (.int .i64 v)), (5, .p 1 0), (6, .p 2 0), (9, .p 3 0), (10, .p 4 0), (57, .p 4 4)]) (by kernel_rfl) rfl fun a3784 hE3785 => ?_
      clear hE3783
      refine of_op (wpOp_store hW3782 hE3785 (oi := 4) (cs := [.int .i64 y3295, .int .i64 y3290, .int .i64 y3291, .int .i64 (-1), .int .i64 (-1), .int .i64 y3294, .int .i64 y3295, .slice A3297 l3296.length c3298]) (by kernel_rfl) fun w3786 hF3787 hW3788 hE3789 => ?_)
      clear hE3785 hW3782
      refine wpOps_nil ?_
      refine then_normal ?_
      refine wp_seq ?_
      refine go_seq_region [0, 1, 2, 3, 4] (by kernel_rfl) ?_
      refine go_runs [0, 1] [2, 3, 4] [1, 6, 9, 10, 59] hW3788 hE3789 (env' := [(1, .v (.int .i64 v)), (6, .p 2 0), (9, .p 3 0), (10, .p 4 0), (59, .v (.slice A3276 l3272.length c3277))]) (by kernel_rfl) rfl fun a3790 hE3791 => ?_
      clear hE3789
      refine of_op (wpOp_call hE3791 (f := 63) (vs := [.slice A3276 l3272.length c3277]) (d := 60) (by kernel_rfl) Try.call63 (sThings _ _ l3272 (h3283.move hW3788.step nilM hW3788.imm).le _) ?_)
      rintro e_ w3793 ⟨rfl, hs3792⟩
      refine ⟨_, rfl, fun a3794 hE3795 => ?_⟩
      have hW3796 := hW3788.next_nil hs3792
      have hF3797 := Fr.nil [⟨b3304, 0, [.int .i64 k3289, .int .i64 y3290, .int .i64 y3291, .int .i64 y3292, .int .i64 y3293, .int .i64 y3294, .int .i64 y3295, .slice A3297 l3296.length c3298], true⟩, ⟨b3312, 0, [.int .i64 n3269, .slice A3274 s3270.length c3275, .bool b3271, .slice A3276 l3272.length c3277, .slice A3278 u3273.length c3279], true⟩, ⟨b3320, 0, [.int .i64 0, .slice none 0 0, .bool false, .slice none 0 0, .slice none 0 0], true⟩, ⟨b3746, 0, [.int .i64 0, .slice none 0 0, .bool false, .slice none 0 0, .slice none 0 0], true⟩, ⟨b3760, 0, [.int .i64 y3295, .int .i64 y3290, .int .i64 y3291, .int .i64 (-1), .int .i64 (-1), .int .i64 y3294, .int .i64 y3295, .slice A3297 l3296.length c3298], true⟩] [] hs3792
      clear hE3791 hW3788
      refine go_runs [3, 4] [] [1, 6, 9, 10, 60, 61, 62] hW3796 hE3795 (env' := [(1, .v (.int .i64 v)), (6, .p 2 0), (9, .p 3 0), (10, .p 4 0), (60, .v (.slice A3276 ((things l3272).length) c3277)), (61, .v (.int .i64 (((things l3272).length : Nat) : Int))), (62, .v (.int .i64 0))]) (by kernel_rfl) rfl fun a3798 hE3799 => ?_
      clear hE3795
      refine wpOps_nil ?_
      refine then_normal ?_
      refine wp_block ?_
      have hW3800 := hW3796.addNil 26 5
      have hF3801 := Fr.addNil w3793 [⟨b3304, 0, [.int .i64 k3289, .int .i64 y3290, .int .i64 y3291, .int .i64 y3292, .int .i64 y3293, .int .i64 y3294, .int .i64 y3295, .slice A3297 l3296.length c3298], true⟩, ⟨b3312, 0, [.int .i64 n3269, .slice A3274 s3270.length c3275, .bool b3271, .slice A3276 l3272.length c3277, .slice A3278 u3273.length c3279], true⟩, ⟨b3320, 0, [.int .i64 0, .slice none 0 0, .bool false, .slice none 0 0, .slice none 0 0], true⟩, ⟨b3746, 0, [.int .i64 0, .slice none 0 0, .bool false, .slice none 0 0, .slice none 0 0], true⟩, ⟨b3760, 0, [.int .i64 y3295, .int .i64 y3290, .int .i64 y3291, .int .i64 (-1), .int .i64 (-1), .int .i64 y3294, .int .i64 y3295, .slice A3297 l3296.length c3298], true⟩] [] 26 5
      clear hW3796
      have hsm3 : (things l3272).length ≤ 32767 := things_le _
      have hE3810 := EnvOk.pick hE3799 (ks := [1, 6, 9, 10, 60, 61, 62]) (env' := [(1, .v (.int .i64 v)), (6, .p 2 0), (9, .p 3 0), (10, .p 4 0), (60, .v (.slice A3276 ((things l3272).length) c3277)), (61, .v (.int .i64 (((things l3272).length : Nat) : Int))), (62, .v (.int .i64 0))]) (by kernel_rfl)
      refine wp_loop_ghost (fun n_ a_ w_ => ∃ (k : Nat) (A_ : Option Addr) (c_ : Nat) (xs : List Value) (css : List (List Value)), n_ = (things l3272).length - k ∧ k ≤ (things l3272).length ∧ (Trees w_ (Imm F w w_ [⟨b3304, 0, [.int .i64 k3289, .int .i64 y3290, .int .i64 y3291, .int .i64 y3292, .int .i64 y3293, .int .i64 y3294, .int .i64 y3295, .slice A3297 l3296.length c3298], true⟩, ⟨b3312, 0, [.int .i64 n3269, .slice A3274 s3270.length c3275, .bool b3271, .slice A3276 l3272.length c3277, .slice A3278 u3273.length c3279], true⟩, ⟨b3320, 0, [.int .i64 0, .slice none 0 0, .bool false, .slice none 0 0, .slice none 0 0], true⟩, ⟨b3746, 0, [.int .i64 0, .slice none 0 0, .bool false, .slice A_ k c_, .slice none 0 0], true⟩, ⟨b3760, 0, [.int .i64 y3295, .int .i64 y3290, .int .i64 y3291, .int .i64 (-1), .int .i64 (-1), .int .i64 y3294, .int .i64 y3295, .slice A3297 l3296.length c3298], true⟩] [⟨A_, c_, 26, 5, k, xs⟩]) xs ((fitL (fitT v d) v (Fld.mk y3295 y3290 y3291 (-1) (-1) y3294 y3295 l3296) l3272).take k) css) ∧ EnvOk 82 [⟨b3304, 0, [.int .i64 k3289, .int .i64 y3290, .int .i64 y3291, .int .i64 y3292, .int .i64 y3293, .int .i64 y3294, .int .i64 y3295, .slice A3297 l3296.length c3298], true⟩, ⟨b3312, 0, [.int .i64 n3269, .slice A3274 s3270.length c3275, .bool b3271, .slice A3276 l3272.length c3277, .slice A3278 u3273.length c3279], true⟩, ⟨b3320, 0, [.int .i64 0, .slice none 0 0, .bool false, .slice none 0 0, .slice none 0 0], true⟩, ⟨b3746, 0, [.int .i64 0, .slice none 0 0, .bool false, .slice A_ k c_, .slice none 0 0], true⟩, ⟨b3760, 0, [.int .i64 y3295, .int .i64 y3290, .int .i64 y3291, .int .i64 (-1), .int .i64 (-1), .int .i64 y3294, .int .i64 y3295, .slice A3297 l3296.length c3298], true⟩] [(1, .v (.int .i64 v)), (6, .p 2 0), (9, .p 3 0), (10, .p 4 0), (60, .v (.slice A3276 ((things l3272).length) c3277)), (61, .v (.int .i64 (((things l3272).length : Nat) : Int))), (62, .v (.int .i64 ((k : Nat) : Int)))] a_ ∧ WOk w Nil w_ [⟨b3304, 0, [.int .i64 k3289, .int .i64 y3290, .int .i64 y3291, .int .i64 y3292, .int .i64 y3293, .int .i64 y3294, .int .i64 y3295, .slice A3297 l3296.length c3298], true⟩, ⟨b3312, 0, [.int .i64 n3269, .slice A3274 s3270.length c3275, .bool b3271, .slice A3276 l3272.length c3277, .slice A3278 u3273.length c3279], true⟩, ⟨b3320, 0, [.int .i64 0, .slice none 0 0, .bool false, .slice none 0 0, .slice none 0 0], true⟩, ⟨b3746, 0, [.int .i64 0, .slice none 0 0, .bool false, .slice A_ k c_, .slice none 0 0], true⟩, ⟨b3760, 0, [.int .i64 y3295, .int .i64 y3290, .int .i64 y3291, .int .i64 (-1), .int .i64 (-1), .int .i64 y3294, .int .i64 y3295, .slice A3297 l3296.length c3298], true⟩] [⟨A_, c_, 26, 5, k, xs⟩] ∧ Fr w3793 [⟨b3304, 0, [.int .i64 k3289, .int .i64 y3290, .int .i64 y3291, .int .i64 y3292, .int .i64 y3293, .int .i64 y3294, .int .i64 y3295, .slice A3297 l3296.length c3298], true⟩, ⟨b3312, 0, [.int .i64 n3269, .slice A3274 s3270.length c3275, .bool b3271, .slice A3276 l3272.length c3277, .slice A3278 u3273.length c3279], true⟩, ⟨b3320, 0, [.int .i64 0, .slice none 0 0, .bool false, .slice none 0 0, .slice none 0 0], true⟩, ⟨b3746, 0, [.int .i64 0, .slice none 0 0, .bool false, .slice none 0 0, .slice none 0 0], true⟩, ⟨b3760, 0, [.int .i64 y3295, .int .i64 y3290, .int .i64 y3291, .int .i64 (-1), .int .i64 (-1), .int .i64 y3294, .int .i64 y3295, .slice A3297 l3296.length c3298], true⟩] [⟨none, 0, 26, 5, 0, []⟩] w_ [⟨b3304, 0, [.int .i64 k3289, .int .i64 y3290, .int .i64 y3291, .int .i64 y3292, .int .i64 y3293, .int .i64 y3294, .int .i64 y3295, .slice A3297 l3296.length c3298], true⟩, ⟨b3312, 0, [.int .i64 n3269, .slice A3274 s3270.length c3275, .bool b3271, .slice A3276 l3272.length c3277, .slice A3278 u3273.length c3279], true⟩, ⟨b3320, 0, [.int .i64 0, .slice none 0 0, .bool false, .slice none 0 0, .slice none 0 0], true⟩, ⟨b3746, 0, [.int .i64 0, .slice none 0 0, .bool false, .slice A_ k c_, .slice none 0 0], true⟩, ⟨b3760, 0, [.int .i64 y3295, .int .i64 y3290, .int .i64 y3291, .int .i64 (-1), .int .i64 (-1), .int .i64 y3294, .int .i64 y3295, .slice A3297 l3296.length c3298], true⟩] [⟨A_, c_, 26, 5, k, xs⟩]) ((things l3272).length) ⟨0, none, 0, [], [], by omega, by omega, Trees.nil _ _, hE3810, hW3800, Fr.refl _ _ _⟩ ?_
      clear hE3810 hE3799 hW3800
      rintro n3802 a3803 w3804 ⟨k, A_, c_, xs, css, hn3807, hk3808, hT, hE3805, hW3806, hF3809⟩
      refine go_seq_region [0] (by kernel_rfl) ?_
      refine go_runs [0] [] [1, 6, 9, 10, 60, 61, 62, 63] hW3806 hE3805 (env' := [(1, .v (.int .i64 v)), (6, .p 2 0), (9, .p 3 0), (10, .p 4 0), (60, .v (.slice A3276 ((things l3272).length) c3277)), (61, .v (.int .i64 (((things l3272).length : Nat) : Int))), (62, .v (.int .i64 ((k : Nat) : Int))), (63, .v (.bool (decide (((k : Nat) : Int) < (((things l3272).length : Nat) : Int)))))]) (by kernel_rfl) rfl fun a3811 hE3812 => ?_
      clear hE3805
      refine wpOps_nil ?_
      refine then_normal ?_
      refine wp_seq ?_
      refine cond_of hE3812 (b := decide (((k : Nat) : Int) < (((things l3272).length : Nat) : Int))) (by kernel_rfl) (fun hc3813 => ?_) (fun hc3813 => ?_)
      ·
        have hf3814 := of_decide_eq_true hc3813
        refine wp_skip ?_
        refine then_normal ?_
        refine wp_seq ?_
        refine wp_block ?_
        refine go_seq_region [0, 1, 2, 3] (by kernel_rfl) ?_
        obtain ⟨b3815, o3816, hA3817, hl3818, hat3819⟩ := Slots.get (things_slots h3283) (i := k) (by omega)
        obtain ⟨x3820, he3821⟩ : ∃ x, (things l3272)[k]? = some x := ⟨_, List.getElem?_eq_getElem (by omega)⟩
        have hr3822 := (things_each h3284) k x3820 he3821
        obtain ⟨n3823, s3824, b3825, l3826, u3827, A3828, c3829, A3830, c3831, A3832, c3833, xs3834, rfl, hcs3835, h3836, h3837, h3838, h3839⟩ := hr3822.open_
        rw [hcs3835] at hr3822
        have hsm3841 := h3836.small
        have hsm3842 := h3837.small
        rw [hcs3835] at hat3819
        refine of_op (wpOp_index hE3812 (t := 23) (A := A3276) (m := (things l3272).length) (q := ((k : Nat) : Int)) (d := 64) (by kernel_rfl) (e := 26) (size := 5) (bytes := 88) (by kernel_rfl) hA3817 rfl (by omega) fun a3843 hE3844 => ?_)
        clear hE3812
        refine of_op (wpOp_load hE3844 (t := 26) (b := b3815) (o := o3816 + k * 5) (d := 65) (by kernel_rfl) (cs := [.int .i64 n3823, .slice A3828 s3824.length c3829, .bool b3825, .slice A3830 l3826.length c3831, .slice A3832 u3827.length c3833]) (v := .agg #[.int .i64 n3823, .slice A3828 s3824.length c3829, .bool b3825, .slice A3830 l3826.length c3831, .slice A3832 u3827.length c3833]) (by kernel_rfl) (AtF.move hat3819 hW3806.step nilM keepF).at_ fun a3845 hE3846 => ?_)
        clear hE3844
        refine of_op (wpOp_alloc hW3806 hE3846 (d := 12) (cs := [.int .i64 0, .slice none 0 0, .bool false, .slice none 0 0, .slice none 0 0]) (by kernel_rfl) fun b3847 a3848 w3849 hb3850 hz3851 hF3852 hW3853 hE3854 => ?_)
        clear hE3846 hW3806
        refine of_op (wpOp_store hW3853 hE3854 (oi := 5) (cs := [.int .i64 n3823, .slice A3828 s3824.length c3829, .bool b3825, .slice A3830 l3826.length c3831, .slice A3832 u3827.length c3833]) (by kernel_rfl) fun w3855 hF3856 hW3857 hE3858 => ?_)
        clear hE3854 hW3853
        refine wpOps_nil ?_
        refine then_normal ?_
        refine go_drawK 9 (by kernel_rfl) hW3857 fun w3859 hF3860 hW3861 hT3862 => ?_
        clear hW3857
        refine go_runsD [0, 1, 2, 3, 4] [1, 6, 9, 10, 60, 61, 62, 67, 68, 69, 70] 5 (by kernel_rfl) (panicFree_block (panicFree_then (panicFree_then (panicFree_block (panicFree_then (panicFree_block (panicFree_then panicFree_body))))))) (fun _ h => h.cells) hT3862 hE3858 (by kernel_rfl) (env' := [(1, .v (.int .i64 v)), (6, .p 2 0), (9, .p 3 0), (10, .p 4 0), (60, .v (.slice A3276 ((things l3272).length) c3277)), (61, .v (.int .i64 (((things l3272).length : Nat) : Int))), (62, .v (.int .i64 ((k : Nat) : Int))), (67, .v (.slice A_ k c_)), (68, .v (.agg #[.int .i64 y3295, .int .i64 y3290, .int .i64 y3291, .int .i64 (-1), .int .i64 (-1), .int .i64 y3294, .int .i64 y3295, .slice A3297 l3296.length c3298])), (69, .v (.int .i64 v)), (70, .v (.agg #[.int .i64 n3823, .slice A3828 s3824.length c3829, .bool b3825, .slice A3830 l3826.length c3831, .slice A3832 u3827.length c3833]))]) (by kernel_rfl) rfl fun a3863 hE3864 => ?_
        clear hE3858
        refine anyC_op (i := 5) (by kernel_rfl) (wpOp_call hE3864 (f := 32) (vs := [.agg #[.int .i64 y3295, .int .i64 y3290, .int .i64 y3291, .int .i64 (-1), .int .i64 (-1), .int .i64 y3294, .int .i64 y3295, .slice A3297 l3296.length c3298], .int .i64 v, .agg #[.int .i64 n3823, .slice A3828 s3824.length c3829, .bool b3825, .slice A3830 l3826.length c3831, .slice A3832 u3827.length c3833]]) (d := 71) (by kernel_rfl) Try.call32 ( sFitted0 hfit _ (Fld.mk y3295 y3290 y3291 (-1) (-1) y3294 y3295 l3296) v _ (Tree.mk n3823 s3824 b3825 l3826 u3827) _ _ (FldR.mk (l := l3296) xs3299 (h3301.move hW3861.step nilM hW3861.imm) (fun i_ x_ h_ => ((h3302 i_ x_ h_).move hW3861.step nilM hW3861.imm))) hpl.2 hd hof (hr3822.move hW3861.step nilM hW3861.imm)) ?_)
        rintro e_ w3868 ⟨cs3867, rfl, hr3866, hs3865⟩
        have hr3869 := hr3866.move (Step.refl _ Nil) nilM (hW3861.laid (G := F) hs3865)
        obtain ⟨n3870, s3871, b3872, l3873, u3874, A3875, c3876, A3877, c3878, A3879, c3880, xs3881, ht3887, hcs3882, h3883, h3884, h3885, h3886⟩ := hr3869.open_
        rw [hcs3882] at hr3869
        have hsm3888 := h3883.small
        have hsm3889 := h3884.small
        rw [hcs3882]
        refine ⟨_, rfl, fun a3890 hE3891 => ?_⟩
        have hW3892 := hW3861.next_nil hs3865
        have hF3893 := Fr.nil [⟨b3304, 0, [.int .i64 k3289, .int .i64 y3290, .int .i64 y3291, .int .i64 y3292, .int .i64 y3293, .int .i64 y3294, .int .i64 y3295, .slice A3297 l3296.length c3298], true⟩, ⟨b3312, 0, [.int .i64 n3269, .slice A3274 s3270.length c3275, .bool b3271, .slice A3276 l3272.length c3277, .slice A3278 u3273.length c3279], true⟩, ⟨b3320, 0, [.int .i64 0, .slice none 0 0, .bool false, .slice none 0 0, .slice none 0 0], true⟩, ⟨b3746, 0, [.int .i64 0, .slice none 0 0, .bool false, .slice A_ k c_, .slice none 0 0], true⟩, ⟨b3760, 0, [.int .i64 y3295, .int .i64 y3290, .int .i64 y3291, .int .i64 (-1), .int .i64 (-1), .int .i64 y3294, .int .i64 y3295, .slice A3297 l3296.length c3298], true⟩, ⟨b3847, 0, [.int .i64 n3823, .slice A3828 s3824.length c3829, .bool b3825, .slice A3830 l3826.length c3831, .slice A3832 u3827.length c3833], true⟩] [⟨A_, c_, 26, 5, k, xs⟩] hs3865
        clear hE3864
        have hT3894 : TT w3859 [⟨b3304, 0, [.int .i64 k3289, .int .i64 y3290, .int .i64 y3291, .int .i64 y3292, .int .i64 y3293, .int .i64 y3294, .int .i64 y3295, .slice A3297 l3296.length c3298], true⟩, ⟨b3312, 0, [.int .i64 n3269, .slice A3274 s3270.length c3275, .bool b3271, .slice A3276 l3272.length c3277, .slice A3278 u3273.length c3279], true⟩, ⟨b3320, 0, [.int .i64 0, .slice none 0 0, .bool false, .slice none 0 0, .slice none 0 0], true⟩, ⟨b3746, 0, [.int .i64 0, .slice none 0 0, .bool false, .slice A_ k c_, .slice none 0 0], true⟩, ⟨b3760, 0, [.int .i64 y3295, .int .i64 y3290, .int .i64 y3291, .int .i64 (-1), .int .i64 (-1), .int .i64 y3294, .int .i64 y3295, .slice A3297 l3296.length c3298], true⟩, ⟨b3847, 0, [.int .i64 n3823, .slice A3828 s3824.length c3829, .bool b3825, .slice A3830 l3826.length c3831, .slice A3832 u3827.length c3833], true⟩] [⟨A_, c_, 26, 5, k, xs⟩] w3868 := ⟨hW3892.cells, hF3893.step⟩
        refine ⟨fun _ => hT3894, ?_⟩
        refine anyC_op (i := 6) (by kernel_rfl) (wpOp_lit hW3892 hE3891 (e := 26) (size := 5) (len := 1) (cs := [.int .i64 n3870, .slice A3875 s3871.length c3876, .bool b3872, .slice A3877 l3873.length c3878, .slice A3879 u3874.length c3880]) (d := 72) (by kernel_rfl) (by kernel_rfl) fun b3895 a3896 w3897 hb3898 hz3899 hF3900 hW3901 hE3902 => ?_)
        clear hE3891 hW3892
        have hT3903 : TT w3859 [⟨b3304, 0, [.int .i64 k3289, .int .i64 y3290, .int .i64 y3291, .int .i64 y3292, .int .i64 y3293, .int .i64 y3294, .int .i64 y3295, .slice A3297 l3296.length c3298], true⟩, ⟨b3312, 0, [.int .i64 n3269, .slice A3274 s3270.length c3275, .bool b3271, .slice A3276 l3272.length c3277, .slice A3278 u3273.length c3279], true⟩, ⟨b3320, 0, [.int .i64 0, .slice none 0 0, .bool false, .slice none 0 0, .slice none 0 0], true⟩, ⟨b3746, 0, [.int .i64 0, .slice none 0 0, .bool false, .slice A_ k c_, .slice none 0 0], true⟩, ⟨b3760, 0, [.int .i64 y3295, .int .i64 y3290, .int .i64 y3291, .int .i64 (-1), .int .i64 (-1), .int .i64 y3294, .int .i64 y3295, .slice A3297 l3296.length c3298], true⟩, ⟨b3847, 0, [.int .i64 n3823, .slice A3828 s3824.length c3829, .bool b3825, .slice A3830 l3826.length c3831, .slice A3832 u3827.length c3833], true⟩] [⟨A_, c_, 26, 5, k, xs⟩] w3897 := ⟨hW3901.cells, (Fr.trans hF3893 hF3900).step⟩
        refine ⟨fun _ => hT3903, ?_⟩
        refine anyC_op (i := 7) (by kernel_rfl) (wpOp_append hW3901 hE3902 (k := 0) (d := 73) (t := 23) (e := 26) (size := 5) (bytes := 88) (A := A_) (As := (some ⟨b3895, 0, none⟩)) (m0 := k) (c := c_) (m := 1) (cs := 1) (xs := xs) (news := [.int .i64 n3870, .slice A3875 s3871.length c3876, .bool b3872, .slice A3877 l3873.length c3878, .slice A3879 u3874.length c3880]) (by kernel_rfl) (by kernel_rfl) rfl (own_src (hW3901.own 1 _ rfl) (allOne_ok (by kernel_rfl))) (own_cap (hW3901.own 1 _ rfl)) (by omega) fun A3904 c3905 a3906 w3907 hF3908 hW3909 hE3910 => ?_)
        clear hE3902 hW3901
        have hT3911 : TT w3859 [⟨b3304, 0, [.int .i64 k3289, .int .i64 y3290, .int .i64 y3291, .int .i64 y3292, .int .i64 y3293, .int .i64 y3294, .int .i64 y3295, .slice A3297 l3296.length c3298], true⟩, ⟨b3312, 0, [.int .i64 n3269, .slice A3274 s3270.length c3275, .bool b3271, .slice A3276 l3272.length c3277, .slice A3278 u3273.length c3279], true⟩, ⟨b3320, 0, [.int .i64 0, .slice none 0 0, .bool false, .slice none 0 0, .slice none 0 0], true⟩, ⟨b3746, 0, [.int .i64 0, .slice none 0 0, .bool false, .slice A_ k c_, .slice none 0 0], true⟩, ⟨b3760, 0, [.int .i64 y3295, .int .i64 y3290, .int .i64 y3291, .int .i64 (-1), .int .i64 (-1), .int .i64 y3294, .int .i64 y3295, .slice A3297 l3296.length c3298], true⟩, ⟨b3847, 0, [.int .i64 n3823, .slice A3828 s3824.length c3829, .bool b3825, .slice A3830 l3826.length c3831, .slice A3832 u3827.length c3833], true⟩] [⟨A_, c_, 26, 5, k, xs⟩] w3907 := ⟨hW3909.cells, (Fr.trans (Fr.trans hF3893 hF3900) hF3908).step⟩
        refine ⟨fun _ => hT3911, ?_⟩
        refine go_runsD [8] [1, 6, 9, 10, 60, 61, 62, 73, 74] 1 (by kernel_rfl) (panicFree_block (panicFree_then (panicFree_then (panicFree_block (panicFree_then (panicFree_block (panicFree_then panicFree_body))))))) (fun _ h => h.cells) hT3911 hE3910 (by kernel_rfl) (env' := [(1, .v (.int .i64 v)), (6, .p 2 0), (9, .p 3 0), (10, .p 4 0), (60, .v (.slice A3276 ((things l3272).length) c3277)), (61, .v (.int .i64 (((things l3272).length : Nat) : Int))), (62, .v (.int .i64 ((k : Nat) : Int))), (73, .v (.slice A3904 (k + 1) c3905)), (74, .p 3 3)]) (by kernel_rfl) rfl fun a3912 hE3913 => ?_
        clear hE3910
        refine anyC_op (i := 9) (by kernel_rfl) (wpOp_store hW3909 hE3913 (oi := 3) (cs := [.int .i64 0, .slice none 0 0, .bool false, .slice A3904 (k + 1) c3905, .slice none 0 0]) (by kernel_rfl) fun w3914 hF3915 hW3916 hE3917 => ?_)
        clear hE3913 hW3909
        refine ⟨fun h => absurd rfl h, ?_⟩
        refine anyC_done (by kernel_rfl) ?_ _
        refine block_normal ?_
        refine then_normal ?_
        refine go_region [0, 1] (by kernel_rfl) ?_
        refine go_runs [0, 1] [] [1, 6, 9, 10, 60, 61, 62] hW3916 hE3917 (env' := [(1, .v (.int .i64 v)), (6, .p 2 0), (9, .p 3 0), (10, .p 4 0), (60, .v (.slice A3276 ((things l3272).length) c3277)), (61, .v (.int .i64 (((things l3272).length : Nat) : Int))), (62, .v (.int .i64 (IntKind.i64.wrap (((k : Nat) : Int) + 1))))]) (by kernel_rfl) rfl fun a3918 hE3919 => ?_
        clear hE3917
        refine wpOps_nil ?_
        refine then_normal ?_
        have hE3920 := EnvOk.pick hE3919 (ks := [1, 6, 9, 10, 60, 61, 62]) (env' := [(1, .v (.int .i64 v)), (6, .p 2 0), (9, .p 3 0), (10, .p 4 0), (60, .v (.slice A3276 ((things l3272).length) c3277)), (61, .v (.int .i64 (((things l3272).length : Nat) : Int))), (62, .v (.int .i64 (IntKind.i64.wrap (((k : Nat) : Int) + 1))))]) (by kernel_rfl)
        have hE3921 : EnvOk 82 [⟨b3304, 0, [.int .i64 k3289, .int .i64 y3290, .int .i64 y3291, .int .i64 y3292, .int .i64 y3293, .int .i64 y3294, .int .i64 y3295, .slice A3297 l3296.length c3298], true⟩, ⟨b3312, 0, [.int .i64 n3269, .slice A3274 s3270.length c3275, .bool b3271, .slice A3276 l3272.length c3277, .slice A3278 u3273.length c3279], true⟩, ⟨b3320, 0, [.int .i64 0, .slice none 0 0, .bool false, .slice none 0 0, .slice none 0 0], true⟩, ⟨b3746, 0, [.int .i64 0, .slice none 0 0, .bool false, .slice A3904 (k + 1) c3905, .slice none 0 0], true⟩, ⟨b3760, 0, [.int .i64 y3295, .int .i64 y3290, .int .i64 y3291, .int .i64 (-1), .int .i64 (-1), .int .i64 y3294, .int .i64 y3295, .slice A3297 l3296.length c3298], true⟩] _ _ := hE3920.cutTb 5 (by kernel_rfl)
        have hW3922 : WOk _ _ _ [⟨b3304, 0, [.int .i64 k3289, .int .i64 y3290, .int .i64 y3291, .int .i64 y3292, .int .i64 y3293, .int .i64 y3294, .int .i64 y3295, .slice A3297 l3296.length c3298], true⟩, ⟨b3312, 0, [.int .i64 n3269, .slice A3274 s3270.length c3275, .bool b3271, .slice A3276 l3272.length c3277, .slice A3278 u3273.length c3279], true⟩, ⟨b3320, 0, [.int .i64 0, .slice none 0 0, .bool false, .slice none 0 0, .slice none 0 0], true⟩, ⟨b3746, 0, [.int .i64 0, .slice none 0 0, .bool false, .slice A3904 (k + 1) c3905, .slice none 0 0], true⟩, ⟨b3760, 0, [.int .i64 y3295, .int .i64 y3290, .int .i64 y3291, .int .i64 (-1), .int .i64 (-1), .int .i64 y3294, .int .i64 y3295, .slice A3297 l3296.length c3298], true⟩] _ := hW3916.cutTb 5
        have hF3923 : Fr _ _ _ _ [⟨b3304, 0, [.int .i64 k3289, .int .i64 y3290, .int .i64 y3291, .int .i64 y3292, .int .i64 y3293, .int .i64 y3294, .int .i64 y3295, .slice A3297 l3296.length c3298], true⟩, ⟨b3312, 0, [.int .i64 n3269, .slice A3274 s3270.length c3275, .bool b3271, .slice A3276 l3272.length c3277, .slice A3278 u3273.length c3279], true⟩, ⟨b3320, 0, [.int .i64 0, .slice none 0 0, .bool false, .slice none 0 0, .slice none 0 0], true⟩, ⟨b3746, 0, [.int .i64 0, .slice none 0 0, .bool false, .slice A3904 (k + 1) c3905, .slice none 0 0], true⟩, ⟨b3760, 0, [.int .i64 y3295, .int .i64 y3290, .int .i64 y3291, .int .i64 (-1), .int .i64 (-1), .int .i64 y3294, .int .i64 y3295, .slice A3297 l3296.length c3298], true⟩] _ := Fr.cutTb w3914 [⟨b3304, 0, [.int .i64 k3289, .int .i64 y3290, .int .i64 y3291, .int .i64 y3292, .int .i64 y3293, .int .i64 y3294, .int .i64 y3295, .slice A3297 l3296.length c3298], true⟩, ⟨b3312, 0, [.int .i64 n3269, .slice A3274 s3270.length c3275, .bool b3271, .slice A3276 l3272.length c3277, .slice A3278 u3273.length c3279], true⟩, ⟨b3320, 0, [.int .i64 0, .slice none 0 0, .bool false, .slice none 0 0, .slice none 0 0], true⟩, ⟨b3746, 0, [.int .i64 0, .slice none 0 0, .bool false, .slice A3904 (k + 1) c3905, .slice none 0 0], true⟩, ⟨b3760, 0, [.int .i64 y3295, .int .i64 y3290, .int .i64 y3291, .int .i64 (-1), .int .i64 (-1), .int .i64 y3294, .int .i64 y3295, .slice A3297 l3296.length c3298], true⟩, ⟨b3847, 0, [.int .i64 n3823, .slice A3828 s3824.length c3829, .bool b3825, .slice A3830 l3826.length c3831, .slice A3832 u3827.length c3833], true⟩] [⟨A3904, c3905, 26, 5, k + 1, xs ++ [.int .i64 n3870, .slice A3875 s3871.length c3876, .bool b3872, .slice A3877 l3873.length c3878, .slice A3879 u3874.length c3880]⟩, ⟨some ⟨b3895, 0, none⟩, 1, 26, 5, 1, [.int .i64 n3870, .slice A3875 s3871.length c3876, .bool b3872, .slice A3877 l3873.length c3878, .slice A3879 u3874.length c3880]⟩] 5
        have hW3924 : WOk _ _ _ _ [⟨A3904, c3905, 26, 5, k + 1, xs ++ [.int .i64 n3870, .slice A3875 s3871.length c3876, .bool b3872, .slice A3877 l3873.length c3878, .slice A3879 u3874.length c3880]⟩] := hW3922.rows 1
        have hF3925 : Fr _ _ _ _ _ [⟨A3904, c3905, 26, 5, k + 1, xs ++ [.int .i64 n3870, .slice A3875 s3871.length c3876, .bool b3872, .slice A3877 l3873.length c3878, .slice A3879 u3874.length c3880]⟩] := Fr.rows w3914 [⟨b3304, 0, [.int .i64 k3289, .int .i64 y3290, .int .i64 y3291, .int .i64 y3292, .int .i64 y3293, .int .i64 y3294, .int .i64 y3295, .slice A3297 l3296.length c3298], true⟩, ⟨b3312, 0, [.int .i64 n3269, .slice A3274 s3270.length c3275, .bool b3271, .slice A3276 l3272.length c3277, .slice A3278 u3273.length c3279], true⟩, ⟨b3320, 0, [.int .i64 0, .slice none 0 0, .bool false, .slice none 0 0, .slice none 0 0], true⟩, ⟨b3746, 0, [.int .i64 0, .slice none 0 0, .bool false, .slice A3904 (k + 1) c3905, .slice none 0 0], true⟩, ⟨b3760, 0, [.int .i64 y3295, .int .i64 y3290, .int .i64 y3291, .int .i64 (-1), .int .i64 (-1), .int .i64 y3294, .int .i64 y3295, .slice A3297 l3296.length c3298], true⟩] [⟨A3904, c3905, 26, 5, k + 1, xs ++ [.int .i64 n3870, .slice A3875 s3871.length c3876, .bool b3872, .slice A3877 l3873.length c3878, .slice A3879 u3874.length c3880]⟩, ⟨some ⟨b3895, 0, none⟩, 1, 26, 5, 1, [.int .i64 n3870, .slice A3875 s3871.length c3876, .bool b3872, .slice A3877 l3873.length c3878, .slice A3879 u3874.length c3880]⟩] 1
        have hE3926 := EnvOk.pick hE3921 (ks := [1, 6, 9, 10, 60, 61, 62]) (env' := [(1, .v (.int .i64 v)), (6, .p 2 0), (9, .p 3 0), (10, .p 4 0), (60, .v (.slice A3276 ((things l3272).length) c3277)), (61, .v (.int .i64 (((things l3272).length : Nat) : Int))), (62, .v (.int .i64 (IntKind.i64.wrap (((k : Nat) : Int) + 1))))]) (by kernel_rfl)
        have he3927 : IntKind.i64.wrap (((k : Nat) : Int) + 1) = ((k + 1 : Nat) : Int) := wrap_succ (by omega)
        rw [he3927] at hE3926
        exact ⟨(things l3272).length - (k + 1), by omega, k + 1, A3904, c3905, xs ++ [Value.int .i64 n3870, .slice A3875 s3871.length c3876, .bool b3872, .slice A3877 l3873.length c3878, .slice A3879 u3874.length c3880], (css ++ [[Value.int .i64 n3870, .slice A3875 s3871.length c3876, .bool b3872, .slice A3877 l3873.length c3878, .slice A3879 u3874.length c3880]]), rfl, by omega, by rw [take_succ_of (fitL_get (p := fitT v d) (v := v) (f := (Fld.mk y3295 y3290 y3291 (-1) (-1) y3294 y3295 l3296)) he3821)]; exact (hT.move (Fr.trans (Fr.trans (Fr.trans (Fr.trans (Fr.trans (Fr.trans (Fr.trans (Fr.trans hF3852 hF3856) hF3860) hF3893) hF3900) hF3908) hF3915) hF3923) hF3925).step immM (Fr.trans (Fr.trans (Fr.trans (Fr.trans (Fr.trans (Fr.trans (Fr.trans (Fr.trans hF3852 hF3856) hF3860) hF3893) hF3900) hF3908) hF3915) hF3923) hF3925).to').snoc (hr3869.move (Fr.trans (Fr.trans (Fr.trans (Fr.trans hF3900 hF3908) hF3915) hF3923) hF3925).step immM (Fr.trans (Fr.trans (Fr.trans (Fr.trans hF3900 hF3908) hF3915) hF3923) hF3925).to'), hE3926, hW3924, (Fr.trans (Fr.trans (Fr.trans (Fr.trans (Fr.trans (Fr.trans (Fr.trans (Fr.trans (Fr.trans hF3809 hF3852) hF3856) hF3860) hF3893) hF3900) hF3908) hF3915) hF3923) hF3925)⟩
      ·
        have hf3928 := of_decide_eq_false hc3813
        refine wp_exit ?_
        refine then_exit ?_
        refine then_exit ?_
        refine block_exit ?_
        refine then_normal ?_
        refine go_seq_region [0, 1] (by kernel_rfl) ?_
        refine go_runs [0] [1] [6, 76] hW3806 hE3812 (env' := [(6, .p 2 0), (76, .v (.agg #[.int .i64 0, .slice none 0 0, .bool false, .slice A_ k c_, .slice none 0 0]))]) (by kernel_rfl) rfl fun a3929 hE3930 => ?_
        clear hE3812
        refine of_op (wpOp_store hW3806 hE3930 (oi := 2) (cs := [.int .i64 0, .slice none 0 0, .bool false, .slice A_ k c_, .slice none 0 0]) (by kernel_rfl) fun w3931 hF3932 hW3933 hE3934 => ?_)
        clear hE3930 hW3806
        refine wpOps_nil ?_
        refine then_normal ?_
        refine wp_ret ?_
        refine block_ret ?_
        refine then_ret ?_
        refine leave hE3934 hW3933.cells (v := .agg #[.int .i64 0, .slice none 0 0, .bool false, .slice A_ k c_, .slice none 0 0]) (by kernel_rfl) ?_
        have hk0 : k = (fitL (fitT v d) v (Fld.mk y3295 y3290 y3291 (-1) (-1) y3294 y3295 l3296) l3272).length := by rw [fitL_len]; omega
        have hT' := (hT.move hF3932.step immM hF3932.to')
        rw [show (fitL (fitT v d) v (Fld.mk y3295 y3290 y3291 (-1) (-1) y3294 y3295 l3296) l3272).take k = (fitL (fitT v d) v (Fld.mk y3295 y3290 y3291 (-1) (-1) y3294 y3295 l3296) l3272) by rw [hk0, List.take_length]] at hT'
        exact tree_end hW3933 rfl (Octs.nil _ _) hk0 (trees_fp hW3933 (k := 0) rfl hT' hk0 (by rw [fitL_len]; omega)) rfl (TagsR.nil _ _) (fittedW_11 hk11 (by simp only [hc3350, hc3548]; try simp))

theorem sFitted {d : Nat} (hfit : FitOK d) (cf : List Value) (f : Fld) (v : Int) (ct : List Value) (t : Tree) (w : World) (F : Nat → Nat → Prop) (hf : FldR w F cf f) (hpl : f.plain) (hd : depths f.sub ≤ d) (ht : TreeR w F ct t) :
    Calls Try.prog 32 #[.agg cf.toArray, .int .i64 v, .agg ct.toArray] w (GivesT w F (fittedW (fitT v d) v f t)) := by
  by_cases h : f.kind = 11
  · exact sFitted11 hfit cf f v ct t w F hf hpl hd h ht
  · obtain ⟨k, x1, x2, x3, x4, x5, x6, l, A, c, xs, rfl, hcs, h1, h2⟩ := hf.open_
    rw [fittedW_no (k := k) h]
    exact sFitted0 hfit cf _ v ct t w F hf hpl.2 hd h ht

theorem sFit (W : Fld → Tree → Tree) (A : Option Addr) (c : Nat) (l : List Fld) (v : Int) (ct : List Value) (t : Tree) (w : World) (F : Nat → Nat → Prop) (hW_ : ∀ cf f ct t w F, f ∈ l → FldR w F cf f → TreeR w F ct t → Calls Try.prog 32 #[.agg cf.toArray, .int .i64 v, .agg ct.toArray] w (GivesT w F (W f t))) (hl : FldsR w F A c l) (ht : TreeR w F ct t) :
    Calls Try.prog 13 #[.slice A l.length c, .int .i64 v, .agg ct.toArray] w (GivesT w F (fitW W l t)) := by
  obtain ⟨xfs, h1, h2⟩ := hl.ex
  have hsm := h1.small
  obtain ⟨n3935, s3936, b3937, l3938, u3939, A3940, c3941, A3942, c3943, A3944, c3945, xs3946, rfl, rfl, h3948, h3949, h3950, h3951⟩ := ht.open_
  have hsm3953 := h3948.small
  have hsm3954 := h3949.small
  refine enter (n := 54) Try.func13 rfl Try.ntmps13 (by kernel_rfl) fun a hE => ?_
  have hW := WOk.start w Nil
  refine go_seq_region [0, 1] (by kernel_rfl) ?_
  refine of_op (wpOp_box hW hE (d := 5) (cs := [.int .i64 n3935, .slice A3940 s3936.length c3941, .bool b3937, .slice A3942 l3938.length c3943, .slice A3944 u3939.length c3945]) (by kernel_rfl) fun b3955 a3956 w3957 hb3958 hz3959 hF3960 hW3961 hE3962 => ?_)
  clear hE hW
  refine of_op (wpOp_alloc hW3961 hE3962 (d := 6) (cs := [.int .i64 0, .slice none 0 0, .bool false, .slice none 0 0, .slice none 0 0]) (by kernel_rfl) fun b3963 a3964 w3965 hb3966 hz3967 hF3968 hW3969 hE3970 => ?_)
  clear hE3962 hW3961
  refine wpOps_nil ?_
  refine then_normal ?_
  refine go_seq_region [0, 1, 2] (by kernel_rfl) ?_
  refine go_runs [0] [1, 2] [0, 1, 5, 6, 12] hW3969 hE3970 (env' := [(0, .v (.slice A l.length c)), (1, .v (.int .i64 v)), (5, .p 0 0), (6, .p 1 0), (12, .v (.agg #[.int .i64 0, .slice none 0 0, .bool false, .slice none 0 0, .slice none 0 0]))]) (by kernel_rfl) rfl fun a3971 hE3972 => ?_
  clear hE3970
  refine of_op (wpOp_alloc hW3969 hE3972 (d := 7) (cs := [.int .i64 0, .slice none 0 0, .bool false, .slice none 0 0, .slice none 0 0]) (by kernel_rfl) fun b3973 a3974 w3975 hb3976 hz3977 hF3978 hW3979 hE3980 => ?_)
  clear hE3972 hW3969
  refine of_op (wpOp_store hW3979 hE3980 (oi := 2) (cs := [.int .i64 0, .slice none 0 0, .bool false, .slice none 0 0, .slice none 0 0]) (by kernel_rfl) fun w3981 hF3982 hW3983 hE3984 => ?_)
  clear hE3980 hW3979
  refine wpOps_nil ?_
  refine then_normal ?_
  refine wp_seq ?_
  refine go_seq_region [0, 1, 2] (by kernel_rfl) ?_
  refine go_runs [0, 1, 2] [] [0, 1, 5, 6, 7, 13, 14, 15] hW3983 hE3984 (env' := [(0, .v (.slice A l.length c)), (1, .v (.int .i64 v)), (5, .p 0 0), (6, .p 1 0), (7, .p 2 0), (13, .v (.slice A l.length c)), (14, .v (.int .i64 ((l.length : Nat) : Int))), (15, .v (.int .i64 0))]) (by kernel_rfl) rfl fun a3985 hE3986 => ?_
  clear hE3984
  refine wpOps_nil ?_
  refine then_normal ?_
  refine wp_block ?_
  have hW3987 := hW3983.addNil 26 5
  have hF3988 := Fr.addNil w3981 [⟨b3955, 0, [.int .i64 n3935, .slice A3940 s3936.length c3941, .bool b3937, .slice A3942 l3938.length c3943, .slice A3944 u3939.length c3945], true⟩, ⟨b3963, 0, [.int .i64 0, .slice none 0 0, .bool false, .slice none 0 0, .slice none 0 0], true⟩, ⟨b3973, 0, [.int .i64 0, .slice none 0 0, .bool false, .slice none 0 0, .slice none 0 0], true⟩] [] 26 5
  clear hW3983
  have hE3997 := EnvOk.pick hE3986 (ks := [0, 1, 5, 6, 7, 13, 14, 15]) (env' := [(0, .v (.slice A l.length c)), (1, .v (.int .i64 v)), (5, .p 0 0), (6, .p 1 0), (7, .p 2 0), (13, .v (.slice A l.length c)), (14, .v (.int .i64 ((l.length : Nat) : Int))), (15, .v (.int .i64 0))]) (by kernel_rfl)
  refine wp_loop_ghost (fun n_ a_ w_ => ∃ (k : Nat) (A_ : Option Addr) (c_ : Nat) (xs : List Value) (css : List (List Value)), n_ = l.length - k ∧ k ≤ l.length ∧ (Trees w_ (Imm F w w_ [⟨b3955, 0, [.int .i64 n3935, .slice A3940 s3936.length c3941, .bool b3937, .slice A3942 l3938.length c3943, .slice A3944 u3939.length c3945], true⟩, ⟨b3963, 0, [.int .i64 0, .slice none 0 0, .bool false, .slice none 0 0, .slice none 0 0], true⟩, ⟨b3973, 0, [.int .i64 0, .slice none 0 0, .bool false, .slice A_ k c_, .slice none 0 0], true⟩] [⟨A_, c_, 26, 5, k, xs⟩]) xs ((fitsW W l (Tree.mk n3935 s3936 b3937 l3938 u3939) 0).take k) css) ∧ EnvOk 54 [⟨b3955, 0, [.int .i64 n3935, .slice A3940 s3936.length c3941, .bool b3937, .slice A3942 l3938.length c3943, .slice A3944 u3939.length c3945], true⟩, ⟨b3963, 0, [.int .i64 0, .slice none 0 0, .bool false, .slice none 0 0, .slice none 0 0], true⟩, ⟨b3973, 0, [.int .i64 0, .slice none 0 0, .bool false, .slice A_ k c_, .slice none 0 0], true⟩] [(0, .v (.slice A l.length c)), (1, .v (.int .i64 v)), (5, .p 0 0), (6, .p 1 0), (7, .p 2 0), (13, .v (.slice A l.length c)), (14, .v (.int .i64 ((l.length : Nat) : Int))), (15, .v (.int .i64 ((k : Nat) : Int)))] a_ ∧ WOk w Nil w_ [⟨b3955, 0, [.int .i64 n3935, .slice A3940 s3936.length c3941, .bool b3937, .slice A3942 l3938.length c3943, .slice A3944 u3939.length c3945], true⟩, ⟨b3963, 0, [.int .i64 0, .slice none 0 0, .bool false, .slice none 0 0, .slice none 0 0], true⟩, ⟨b3973, 0, [.int .i64 0, .slice none 0 0, .bool false, .slice A_ k c_, .slice none 0 0], true⟩] [⟨A_, c_, 26, 5, k, xs⟩] ∧ Fr w3981 [⟨b3955, 0, [.int .i64 n3935, .slice A3940 s3936.length c3941, .bool b3937, .slice A3942 l3938.length c3943, .slice A3944 u3939.length c3945], true⟩, ⟨b3963, 0, [.int .i64 0, .slice none 0 0, .bool false, .slice none 0 0, .slice none 0 0], true⟩, ⟨b3973, 0, [.int .i64 0, .slice none 0 0, .bool false, .slice none 0 0, .slice none 0 0], true⟩] [⟨none, 0, 26, 5, 0, []⟩] w_ [⟨b3955, 0, [.int .i64 n3935, .slice A3940 s3936.length c3941, .bool b3937, .slice A3942 l3938.length c3943, .slice A3944 u3939.length c3945], true⟩, ⟨b3963, 0, [.int .i64 0, .slice none 0 0, .bool false, .slice none 0 0, .slice none 0 0], true⟩, ⟨b3973, 0, [.int .i64 0, .slice none 0 0, .bool false, .slice A_ k c_, .slice none 0 0], true⟩] [⟨A_, c_, 26, 5, k, xs⟩]) (l.length) ⟨0, none, 0, [], [], by omega, by omega, Trees.nil _ _, hE3997, hW3987, Fr.refl _ _ _⟩ ?_
  clear hE3997 hE3986 hW3987
  rintro n3989 a3990 w3991 ⟨k, A_, c_, xs, css, hn3994, hk3995, hT, hE3992, hW3993, hF3996⟩
  refine go_seq_region [0] (by kernel_rfl) ?_
  refine go_runs [0] [] [0, 1, 5, 6, 7, 13, 14, 15, 16] hW3993 hE3992 (env' := [(0, .v (.slice A l.length c)), (1, .v (.int .i64 v)), (5, .p 0 0), (6, .p 1 0), (7, .p 2 0), (13, .v (.slice A l.length c)), (14, .v (.int .i64 ((l.length : Nat) : Int))), (15, .v (.int .i64 ((k : Nat) : Int))), (16, .v (.bool (decide (((k : Nat) : Int) < ((l.length : Nat) : Int)))))]) (by kernel_rfl) rfl fun a3998 hE3999 => ?_
  clear hE3992
  refine wpOps_nil ?_
  refine then_normal ?_
  refine wp_seq ?_
  refine cond_of hE3999 (b := decide (((k : Nat) : Int) < ((l.length : Nat) : Int))) (by kernel_rfl) (fun hc4000 => ?_) (fun hc4000 => ?_)
  ·
    have hf4001 := of_decide_eq_true hc4000
    refine wp_skip ?_
    refine then_normal ?_
    refine wp_seq ?_
    refine wp_block ?_
    refine go_seq_region [0, 1, 2, 3, 4, 5] (by kernel_rfl) ?_
    refine go_runs [0] [1, 2, 3, 4, 5] [0, 1, 5, 6, 7, 13, 14, 15, 17] hW3993 hE3999 (env' := [(0, .v (.slice A l.length c)), (1, .v (.int .i64 v)), (5, .p 0 0), (6, .p 1 0), (7, .p 2 0), (13, .v (.slice A l.length c)), (14, .v (.int .i64 ((l.length : Nat) : Int))), (15, .v (.int .i64 ((k : Nat) : Int))), (17, .v (.int .i64 ((k : Nat) : Int)))]) (by kernel_rfl) rfl fun a4002 hE4003 => ?_
    clear hE3999
    obtain ⟨b4004, o4005, hA4006, hl4007, hat4008⟩ := Slots.get h1 (i := k) (by omega)
    obtain ⟨x4009, he4010⟩ : ∃ x, l[k]? = some x := ⟨_, List.getElem?_eq_getElem (by omega)⟩
    have hr4011 := h2 k x4009 he4010
    obtain ⟨k4012, y4013, y4014, y4015, y4016, y4017, y4018, l4019, A4020, c4021, xs4022, rfl, hcs4023, h4024, h4025⟩ := hr4011.open_
    rw [hcs4023] at hr4011
    have hsm4026 := h4024.small
    rw [hcs4023] at hat4008
    refine of_op (wpOp_index hE4003 (t := 28) (A := A) (m := l.length) (q := ((k : Nat) : Int)) (d := 18) (by kernel_rfl) (e := 46) (size := 8) (bytes := 80) (by kernel_rfl) hA4006 rfl (by omega) fun a4027 hE4028 => ?_)
    clear hE4003
    refine of_op (wpOp_load hE4028 (t := 46) (b := b4004) (o := o4005 + k * 8) (d := 19) (by kernel_rfl) (cs := [.int .i64 k4012, .int .i64 y4013, .int .i64 y4014, .int .i64 y4015, .int .i64 y4016, .int .i64 y4017, .int .i64 y4018, .slice A4020 l4019.length c4021]) (v := .agg #[.int .i64 k4012, .int .i64 y4013, .int .i64 y4014, .int .i64 y4015, .int .i64 y4016, .int .i64 y4017, .int .i64 y4018, .slice A4020 l4019.length c4021]) (by kernel_rfl) (AtF.move hat4008 hW3993.step nilM keepF).at_ fun a4029 hE4030 => ?_)
    clear hE4028
    refine of_op (wpOp_alloc hW3993 hE4030 (d := 9) (cs := [.int .i64 0, .int .i64 0, .int .i64 0, .int .i64 0, .int .i64 0, .int .i64 0, .int .i64 0, .slice none 0 0]) (by kernel_rfl) fun b4031 a4032 w4033 hb4034 hz4035 hF4036 hW4037 hE4038 => ?_)
    clear hE4030 hW3993
    refine go_runs [4] [5] [0, 1, 5, 6, 7, 8, 9, 13, 14, 15, 19] hW4037 hE4038 (env' := [(0, .v (.slice A l.length c)), (1, .v (.int .i64 v)), (5, .p 0 0), (6, .p 1 0), (7, .p 2 0), (8, .v (.int .i64 ((k : Nat) : Int))), (9, .p 3 0), (13, .v (.slice A l.length c)), (14, .v (.int .i64 ((l.length : Nat) : Int))), (15, .v (.int .i64 ((k : Nat) : Int))), (19, .v (.agg #[.int .i64 k4012, .int .i64 y4013, .int .i64 y4014, .int .i64 y4015, .int .i64 y4016, .int .i64 y4017, .int .i64 y4018, .slice A4020 l4019.length c4021]))]) (by kernel_rfl) rfl fun a4039 hE4040 => ?_
    clear hE4038
    refine of_op (wpOp_store hW4037 hE4040 (oi := 3) (cs := [.int .i64 k4012, .int .i64 y4013, .int .i64 y4014, .int .i64 y4015, .int .i64 y4016, .int .i64 y4017, .int .i64 y4018, .slice A4020 l4019.length c4021]) (by kernel_rfl) fun w4041 hF4042 hW4043 hE4044 => ?_)
    clear hE4040 hW4037
    refine wpOps_nil ?_
    refine then_normal ?_
    refine go_drawK 11 (by kernel_rfl) hW4043 fun w4045 hF4046 hW4047 hT4048 => ?_
    clear hW4043
    refine go_runsD [0, 1, 2, 3, 4, 5] [0, 1, 5, 6, 7, 13, 14, 15, 21, 22, 23, 24, 25] 6 (by kernel_rfl) (panicFree_block (panicFree_then (panicFree_then (panicFree_block (panicFree_then panicFree_body))))) (fun _ h => h.cells) hT4048 hE4044 (by kernel_rfl) (env' := [(0, .v (.slice A l.length c)), (1, .v (.int .i64 v)), (5, .p 0 0), (6, .p 1 0), (7, .p 2 0), (13, .v (.slice A l.length c)), (14, .v (.int .i64 ((l.length : Nat) : Int))), (15, .v (.int .i64 ((k : Nat) : Int))), (21, .v (.slice A_ k c_)), (22, .v (.agg #[.int .i64 k4012, .int .i64 y4013, .int .i64 y4014, .int .i64 y4015, .int .i64 y4016, .int .i64 y4017, .int .i64 y4018, .slice A4020 l4019.length c4021])), (23, .v (.int .i64 v)), (24, .v (.agg #[.int .i64 n3935, .slice A3940 s3936.length c3941, .bool b3937, .slice A3942 l3938.length c3943, .slice A3944 u3939.length c3945])), (25, .v (.int .i64 ((k : Nat) : Int)))]) (by kernel_rfl) rfl fun a4049 hE4050 => ?_
    clear hE4044
    refine anyC_op (i := 6) (by kernel_rfl) (wpOp_call hE4050 (f := 33) (vs := [.agg #[.int .i64 n3935, .slice A3940 s3936.length c3941, .bool b3937, .slice A3942 l3938.length c3943, .slice A3944 u3939.length c3945], .int .i64 ((k : Nat) : Int)]) (d := 26) (by kernel_rfl) Try.call33 (sAt _ _ k _ _ (ht.move hW4047.step nilM hW4047.imm)) ?_)
    rintro e_ w4054 ⟨cs4053, rfl, hr4052, hs4051⟩
    have hr4055 := hr4052.move hs4051 nilM (fun b o h_ hb_ => hW4047.laid (G := F) hs4051 b o (.inl h_) (Nat.lt_of_lt_of_le hb_ hs4051.size))
    obtain ⟨n4056, s4057, b4058, l4059, u4060, A4061, c4062, A4063, c4064, A4065, c4066, xs4067, ht4073, hcs4068, h4069, h4070, h4071, h4072⟩ := hr4055.open_
    rw [hcs4068] at hr4055
    have hsm4074 := h4069.small
    have hsm4075 := h4070.small
    rw [hcs4068]
    refine ⟨_, rfl, fun a4076 hE4077 => ?_⟩
    have hW4078 := hW4047.next_nil hs4051
    have hF4079 := Fr.nil [⟨b3955, 0, [.int .i64 n3935, .slice A3940 s3936.length c3941, .bool b3937, .slice A3942 l3938.length c3943, .slice A3944 u3939.length c3945], true⟩, ⟨b3963, 0, [.int .i64 0, .slice none 0 0, .bool false, .slice none 0 0, .slice none 0 0], true⟩, ⟨b3973, 0, [.int .i64 0, .slice none 0 0, .bool false, .slice A_ k c_, .slice none 0 0], true⟩, ⟨b4031, 0, [.int .i64 k4012, .int .i64 y4013, .int .i64 y4014, .int .i64 y4015, .int .i64 y4016, .int .i64 y4017, .int .i64 y4018, .slice A4020 l4019.length c4021], true⟩] [⟨A_, c_, 26, 5, k, xs⟩] hs4051
    clear hE4050
    have hT4080 : TT w4045 [⟨b3955, 0, [.int .i64 n3935, .slice A3940 s3936.length c3941, .bool b3937, .slice A3942 l3938.length c3943, .slice A3944 u3939.length c3945], true⟩, ⟨b3963, 0, [.int .i64 0, .slice none 0 0, .bool false, .slice none 0 0, .slice none 0 0], true⟩, ⟨b3973, 0, [.int .i64 0, .slice none 0 0, .bool false, .slice A_ k c_, .slice none 0 0], true⟩, ⟨b4031, 0, [.int .i64 k4012, .int .i64 y4013, .int .i64 y4014, .int .i64 y4015, .int .i64 y4016, .int .i64 y4017, .int .i64 y4018, .slice A4020 l4019.length c4021], true⟩] [⟨A_, c_, 26, 5, k, xs⟩] w4054 := ⟨hW4078.cells, hF4079.step⟩
    refine ⟨fun _ => hT4080, ?_⟩
    refine anyC_op (i := 7) (by kernel_rfl) (wpOp_call hE4077 (f := 32) (vs := [.agg #[.int .i64 k4012, .int .i64 y4013, .int .i64 y4014, .int .i64 y4015, .int .i64 y4016, .int .i64 y4017, .int .i64 y4018, .slice A4020 l4019.length c4021], .int .i64 v, .agg #[.int .i64 n4056, .slice A4061 s4057.length c4062, .bool b4058, .slice A4063 l4059.length c4064, .slice A4065 u4060.length c4066]]) (d := 27) (by kernel_rfl) Try.call32 ( hW_ _ _ _ _ _ _ (List.mem_of_getElem? he4010) (hr4011.move hW4078.step nilM hW4078.imm) hr4055) ?_)
    rintro e_ w4084 ⟨cs4083, rfl, hr4082, hs4081⟩
    have hr4085 := hr4082.move (Step.refl _ Nil) nilM (hW4078.laid (G := F) hs4081)
    obtain ⟨n4086, s4087, b4088, l4089, u4090, A4091, c4092, A4093, c4094, A4095, c4096, xs4097, ht4103, hcs4098, h4099, h4100, h4101, h4102⟩ := hr4085.open_
    rw [hcs4098] at hr4085
    have hsm4104 := h4099.small
    have hsm4105 := h4100.small
    rw [hcs4098]
    refine ⟨_, rfl, fun a4106 hE4107 => ?_⟩
    have hW4108 := hW4078.next_nil hs4081
    have hF4109 := Fr.nil [⟨b3955, 0, [.int .i64 n3935, .slice A3940 s3936.length c3941, .bool b3937, .slice A3942 l3938.length c3943, .slice A3944 u3939.length c3945], true⟩, ⟨b3963, 0, [.int .i64 0, .slice none 0 0, .bool false, .slice none 0 0, .slice none 0 0], true⟩, ⟨b3973, 0, [.int .i64 0, .slice none 0 0, .bool false, .slice A_ k c_, .slice none 0 0], true⟩, ⟨b4031, 0, [.int .i64 k4012, .int .i64 y4013, .int .i64 y4014, .int .i64 y4015, .int .i64 y4016, .int .i64 y4017, .int .i64 y4018, .slice A4020 l4019.length c4021], true⟩] [⟨A_, c_, 26, 5, k, xs⟩] hs4081
    clear hE4077
    have hT4110 : TT w4045 [⟨b3955, 0, [.int .i64 n3935, .slice A3940 s3936.length c3941, .bool b3937, .slice A3942 l3938.length c3943, .slice A3944 u3939.length c3945], true⟩, ⟨b3963, 0, [.int .i64 0, .slice none 0 0, .bool false, .slice none 0 0, .slice none 0 0], true⟩, ⟨b3973, 0, [.int .i64 0, .slice none 0 0, .bool false, .slice A_ k c_, .slice none 0 0], true⟩, ⟨b4031, 0, [.int .i64 k4012, .int .i64 y4013, .int .i64 y4014, .int .i64 y4015, .int .i64 y4016, .int .i64 y4017, .int .i64 y4018, .slice A4020 l4019.length c4021], true⟩] [⟨A_, c_, 26, 5, k, xs⟩] w4084 := ⟨hW4108.cells, (Fr.trans hF4079 hF4109).step⟩
    refine ⟨fun _ => hT4110, ?_⟩
    refine anyC_op (i := 8) (by kernel_rfl) (wpOp_lit hW4108 hE4107 (e := 26) (size := 5) (len := 1) (cs := [.int .i64 n4086, .slice A4091 s4087.length c4092, .bool b4088, .slice A4093 l4089.length c4094, .slice A4095 u4090.length c4096]) (d := 28) (by kernel_rfl) (by kernel_rfl) fun b4111 a4112 w4113 hb4114 hz4115 hF4116 hW4117 hE4118 => ?_)
    clear hE4107 hW4108
    have hT4119 : TT w4045 [⟨b3955, 0, [.int .i64 n3935, .slice A3940 s3936.length c3941, .bool b3937, .slice A3942 l3938.length c3943, .slice A3944 u3939.length c3945], true⟩, ⟨b3963, 0, [.int .i64 0, .slice none 0 0, .bool false, .slice none 0 0, .slice none 0 0], true⟩, ⟨b3973, 0, [.int .i64 0, .slice none 0 0, .bool false, .slice A_ k c_, .slice none 0 0], true⟩, ⟨b4031, 0, [.int .i64 k4012, .int .i64 y4013, .int .i64 y4014, .int .i64 y4015, .int .i64 y4016, .int .i64 y4017, .int .i64 y4018, .slice A4020 l4019.length c4021], true⟩] [⟨A_, c_, 26, 5, k, xs⟩] w4113 := ⟨hW4117.cells, (Fr.trans (Fr.trans hF4079 hF4109) hF4116).step⟩
    refine ⟨fun _ => hT4119, ?_⟩
    refine anyC_op (i := 9) (by kernel_rfl) (wpOp_append hW4117 hE4118 (k := 0) (d := 29) (t := 23) (e := 26) (size := 5) (bytes := 88) (A := A_) (As := (some ⟨b4111, 0, none⟩)) (m0 := k) (c := c_) (m := 1) (cs := 1) (xs := xs) (news := [.int .i64 n4086, .slice A4091 s4087.length c4092, .bool b4088, .slice A4093 l4089.length c4094, .slice A4095 u4090.length c4096]) (by kernel_rfl) (by kernel_rfl) rfl (own_src (hW4117.own 1 _ rfl) (allOne_ok (by kernel_rfl))) (own_cap (hW4117.own 1 _ rfl)) (by omega) fun A4120 c4121 a4122 w4123 hF4124 hW4125 hE4126 => ?_)
    clear hE4118 hW4117
    have hT4127 : TT w4045 [⟨b3955, 0, [.int .i64 n3935, .slice A3940 s3936.length c3941, .bool b3937, .slice A3942 l3938.length c3943, .slice A3944 u3939.length c3945], true⟩, ⟨b3963, 0, [.int .i64 0, .slice none 0 0, .bool false, .slice none 0 0, .slice none 0 0], true⟩, ⟨b3973, 0, [.int .i64 0, .slice none 0 0, .bool false, .slice A_ k c_, .slice none 0 0], true⟩, ⟨b4031, 0, [.int .i64 k4012, .int .i64 y4013, .int .i64 y4014, .int .i64 y4015, .int .i64 y4016, .int .i64 y4017, .int .i64 y4018, .slice A4020 l4019.length c4021], true⟩] [⟨A_, c_, 26, 5, k, xs⟩] w4123 := ⟨hW4125.cells, (Fr.trans (Fr.trans (Fr.trans hF4079 hF4109) hF4116) hF4124).step⟩
    refine ⟨fun _ => hT4127, ?_⟩
    refine go_runsD [10] [0, 1, 5, 6, 7, 13, 14, 15, 29, 30] 1 (by kernel_rfl) (panicFree_block (panicFree_then (panicFree_then (panicFree_block (panicFree_then panicFree_body))))) (fun _ h => h.cells) hT4127 hE4126 (by kernel_rfl) (env' := [(0, .v (.slice A l.length c)), (1, .v (.int .i64 v)), (5, .p 0 0), (6, .p 1 0), (7, .p 2 0), (13, .v (.slice A l.length c)), (14, .v (.int .i64 ((l.length : Nat) : Int))), (15, .v (.int .i64 ((k : Nat) : Int))), (29, .v (.slice A4120 (k + 1) c4121)), (30, .p 2 3)]) (by kernel_rfl) rfl fun a4128 hE4129 => ?_
    clear hE4126
    refine anyC_op (i := 11) (by kernel_rfl) (wpOp_store hW4125 hE4129 (oi := 2) (cs := [.int .i64 0, .slice none 0 0, .bool false, .slice A4120 (k + 1) c4121, .slice none 0 0]) (by kernel_rfl) fun w4130 hF4131 hW4132 hE4133 => ?_)
    clear hE4129 hW4125
    refine ⟨fun h => absurd rfl h, ?_⟩
    refine anyC_done (by kernel_rfl) ?_ _
    refine block_normal ?_
    refine then_normal ?_
    refine go_region [0, 1] (by kernel_rfl) ?_
    refine go_runs [0, 1] [] [0, 1, 5, 6, 7, 13, 14, 15] hW4132 hE4133 (env' := [(0, .v (.slice A l.length c)), (1, .v (.int .i64 v)), (5, .p 0 0), (6, .p 1 0), (7, .p 2 0), (13, .v (.slice A l.length c)), (14, .v (.int .i64 ((l.length : Nat) : Int))), (15, .v (.int .i64 (IntKind.i64.wrap (((k : Nat) : Int) + 1))))]) (by kernel_rfl) rfl fun a4134 hE4135 => ?_
    clear hE4133
    refine wpOps_nil ?_
    refine then_normal ?_
    have hE4136 := EnvOk.pick hE4135 (ks := [0, 1, 5, 6, 7, 13, 14, 15]) (env' := [(0, .v (.slice A l.length c)), (1, .v (.int .i64 v)), (5, .p 0 0), (6, .p 1 0), (7, .p 2 0), (13, .v (.slice A l.length c)), (14, .v (.int .i64 ((l.length : Nat) : Int))), (15, .v (.int .i64 (IntKind.i64.wrap (((k : Nat) : Int) + 1))))]) (by kernel_rfl)
    have hE4137 : EnvOk 54 [⟨b3955, 0, [.int .i64 n3935, .slice A3940 s3936.length c3941, .bool b3937, .slice A3942 l3938.length c3943, .slice A3944 u3939.length c3945], true⟩, ⟨b3963, 0, [.int .i64 0, .slice none 0 0, .bool false, .slice none 0 0, .slice none 0 0], true⟩, ⟨b3973, 0, [.int .i64 0, .slice none 0 0, .bool false, .slice A4120 (k + 1) c4121, .slice none 0 0], true⟩] _ _ := hE4136.cutTb 3 (by kernel_rfl)
    have hW4138 : WOk _ _ _ [⟨b3955, 0, [.int .i64 n3935, .slice A3940 s3936.length c3941, .bool b3937, .slice A3942 l3938.length c3943, .slice A3944 u3939.length c3945], true⟩, ⟨b3963, 0, [.int .i64 0, .slice none 0 0, .bool false, .slice none 0 0, .slice none 0 0], true⟩, ⟨b3973, 0, [.int .i64 0, .slice none 0 0, .bool false, .slice A4120 (k + 1) c4121, .slice none 0 0], true⟩] _ := hW4132.cutTb 3
    have hF4139 : Fr _ _ _ _ [⟨b3955, 0, [.int .i64 n3935, .slice A3940 s3936.length c3941, .bool b3937, .slice A3942 l3938.length c3943, .slice A3944 u3939.length c3945], true⟩, ⟨b3963, 0, [.int .i64 0, .slice none 0 0, .bool false, .slice none 0 0, .slice none 0 0], true⟩, ⟨b3973, 0, [.int .i64 0, .slice none 0 0, .bool false, .slice A4120 (k + 1) c4121, .slice none 0 0], true⟩] _ := Fr.cutTb w4130 [⟨b3955, 0, [.int .i64 n3935, .slice A3940 s3936.length c3941, .bool b3937, .slice A3942 l3938.length c3943, .slice A3944 u3939.length c3945], true⟩, ⟨b3963, 0, [.int .i64 0, .slice none 0 0, .bool false, .slice none 0 0, .slice none 0 0], true⟩, ⟨b3973, 0, [.int .i64 0, .slice none 0 0, .bool false, .slice A4120 (k + 1) c4121, .slice none 0 0], true⟩, ⟨b4031, 0, [.int .i64 k4012, .int .i64 y4013, .int .i64 y4014, .int .i64 y4015, .int .i64 y4016, .int .i64 y4017, .int .i64 y4018, .slice A4020 l4019.length c4021], true⟩] [⟨A4120, c4121, 26, 5, k + 1, xs ++ [.int .i64 n4086, .slice A4091 s4087.length c4092, .bool b4088, .slice A4093 l4089.length c4094, .slice A4095 u4090.length c4096]⟩, ⟨some ⟨b4111, 0, none⟩, 1, 26, 5, 1, [.int .i64 n4086, .slice A4091 s4087.length c4092, .bool b4088, .slice A4093 l4089.length c4094, .slice A4095 u4090.length c4096]⟩] 3
    have hW4140 : WOk _ _ _ _ [⟨A4120, c4121, 26, 5, k + 1, xs ++ [.int .i64 n4086, .slice A4091 s4087.length c4092, .bool b4088, .slice A4093 l4089.length c4094, .slice A4095 u4090.length c4096]⟩] := hW4138.rows 1
    have hF4141 : Fr _ _ _ _ _ [⟨A4120, c4121, 26, 5, k + 1, xs ++ [.int .i64 n4086, .slice A4091 s4087.length c4092, .bool b4088, .slice A4093 l4089.length c4094, .slice A4095 u4090.length c4096]⟩] := Fr.rows w4130 [⟨b3955, 0, [.int .i64 n3935, .slice A3940 s3936.length c3941, .bool b3937, .slice A3942 l3938.length c3943, .slice A3944 u3939.length c3945], true⟩, ⟨b3963, 0, [.int .i64 0, .slice none 0 0, .bool false, .slice none 0 0, .slice none 0 0], true⟩, ⟨b3973, 0, [.int .i64 0, .slice none 0 0, .bool false, .slice A4120 (k + 1) c4121, .slice none 0 0], true⟩] [⟨A4120, c4121, 26, 5, k + 1, xs ++ [.int .i64 n4086, .slice A4091 s4087.length c4092, .bool b4088, .slice A4093 l4089.length c4094, .slice A4095 u4090.length c4096]⟩, ⟨some ⟨b4111, 0, none⟩, 1, 26, 5, 1, [.int .i64 n4086, .slice A4091 s4087.length c4092, .bool b4088, .slice A4093 l4089.length c4094, .slice A4095 u4090.length c4096]⟩] 1
    have hE4142 := EnvOk.pick hE4137 (ks := [0, 1, 5, 6, 7, 13, 14, 15]) (env' := [(0, .v (.slice A l.length c)), (1, .v (.int .i64 v)), (5, .p 0 0), (6, .p 1 0), (7, .p 2 0), (13, .v (.slice A l.length c)), (14, .v (.int .i64 ((l.length : Nat) : Int))), (15, .v (.int .i64 (IntKind.i64.wrap (((k : Nat) : Int) + 1))))]) (by kernel_rfl)
    have he4143 : IntKind.i64.wrap (((k : Nat) : Int) + 1) = ((k + 1 : Nat) : Int) := wrap_succ (by omega)
    rw [he4143] at hE4142
    exact ⟨l.length - (k + 1), by omega, k + 1, A4120, c4121, xs ++ [Value.int .i64 n4086, .slice A4091 s4087.length c4092, .bool b4088, .slice A4093 l4089.length c4094, .slice A4095 u4090.length c4096], (css ++ [[Value.int .i64 n4086, .slice A4091 s4087.length c4092, .bool b4088, .slice A4093 l4089.length c4094, .slice A4095 u4090.length c4096]]), rfl, by omega, by rw [take_succ_of (fits_get he4010)]; exact (hT.move (Fr.trans (Fr.trans (Fr.trans (Fr.trans (Fr.trans (Fr.trans (Fr.trans (Fr.trans (Fr.trans hF4036 hF4042) hF4046) hF4079) hF4109) hF4116) hF4124) hF4131) hF4139) hF4141).step immM (Fr.trans (Fr.trans (Fr.trans (Fr.trans (Fr.trans (Fr.trans (Fr.trans (Fr.trans (Fr.trans hF4036 hF4042) hF4046) hF4079) hF4109) hF4116) hF4124) hF4131) hF4139) hF4141).to').snoc (hr4085.move (Fr.trans (Fr.trans (Fr.trans (Fr.trans hF4116 hF4124) hF4131) hF4139) hF4141).step immM (Fr.trans (Fr.trans (Fr.trans (Fr.trans hF4116 hF4124) hF4131) hF4139) hF4141).to'), hE4142, hW4140, (Fr.trans (Fr.trans (Fr.trans (Fr.trans (Fr.trans (Fr.trans (Fr.trans (Fr.trans (Fr.trans (Fr.trans hF3996 hF4036) hF4042) hF4046) hF4079) hF4109) hF4116) hF4124) hF4131) hF4139) hF4141)⟩
  ·
    have hf4144 := of_decide_eq_false hc4000
    refine wp_exit ?_
    refine then_exit ?_
    refine then_exit ?_
    refine block_exit ?_
    refine then_normal ?_
    refine wp_seq ?_
    refine go_seq_region [0, 1, 2, 3, 4, 5] (by kernel_rfl) ?_
    refine go_runs [0, 1, 2] [3, 4, 5] [6, 7, 32, 34] hW3993 hE3999 (env' := [(6, .p 1 0), (7, .p 2 0), (32, .v (.slice A l.length c)), (34, .v (.slice A3944 u3939.length c3945))]) (by kernel_rfl) rfl fun a4145 hE4146 => ?_
    clear hE3999
    refine of_op (wpOp_call hE4146 (f := 34) (vs := [.slice A l.length c, .slice A3944 u3939.length c3945]) (d := 35) (by kernel_rfl) Try.call34 (sUnknown _ _ l _ _ u3939 _ _ ⟨xfs, (h1.move hW3993.step nilM hW3993.imm), (fun i_ x_ h_ => ((h2 i_ x_ h_).move hW3993.step nilM hW3993.imm))⟩ (h3951.move hW3993.step nilM hW3993.imm)) ?_)
    rintro e_ w4151 ⟨A4149, c4150, rfl, hr4148, hs4147⟩
    have hr4152 := hr4148.move (Step.refl _ Nil) nilM (hW3993.laid (G := F) hs4147)
    refine ⟨_, rfl, fun a4153 hE4154 => ?_⟩
    have hW4155 := hW3993.next_nil hs4147
    have hF4156 := Fr.nil [⟨b3955, 0, [.int .i64 n3935, .slice A3940 s3936.length c3941, .bool b3937, .slice A3942 l3938.length c3943, .slice A3944 u3939.length c3945], true⟩, ⟨b3963, 0, [.int .i64 0, .slice none 0 0, .bool false, .slice none 0 0, .slice none 0 0], true⟩, ⟨b3973, 0, [.int .i64 0, .slice none 0 0, .bool false, .slice A_ k c_, .slice none 0 0], true⟩] [⟨A_, c_, 26, 5, k, xs⟩] hs4147
    clear hE4146
    refine go_runs [4, 5] [] [6, 7, 35, 36, 37] hW4155 hE4154 (env' := [(6, .p 1 0), (7, .p 2 0), (35, .v (.slice A4149 ((unknownT l u3939).length) c4150)), (36, .v (.int .i64 (((unknownT l u3939).length : Nat) : Int))), (37, .v (.int .i64 0))]) (by kernel_rfl) rfl fun a4157 hE4158 => ?_
    clear hE4154
    refine wpOps_nil ?_
    refine then_normal ?_
    refine wp_block ?_
    obtain ⟨cs4159, h4160, h4161⟩ := hr4152.ex
    have hsm4162 := h4160.small
    have hk0 : k = (fitsW W l (Tree.mk n3935 s3936 b3937 l3938 u3939) 0).length := by rw [fits_len]; omega
    have hW4163 := hW4155.addNil 55 2
    have hF4164 := Fr.addNil w4151 [⟨b3955, 0, [.int .i64 n3935, .slice A3940 s3936.length c3941, .bool b3937, .slice A3942 l3938.length c3943, .slice A3944 u3939.length c3945], true⟩, ⟨b3963, 0, [.int .i64 0, .slice none 0 0, .bool false, .slice none 0 0, .slice none 0 0], true⟩, ⟨b3973, 0, [.int .i64 0, .slice none 0 0, .bool false, .slice A_ k c_, .slice none 0 0], true⟩] [⟨A_, c_, 26, 5, k, xs⟩] 55 2
    clear hW4155
    have hE4173 := EnvOk.pick hE4158 (ks := [6, 7, 35, 36, 37]) (env' := [(6, .p 1 0), (7, .p 2 0), (35, .v (.slice A4149 ((unknownT l u3939).length) c4150)), (36, .v (.int .i64 (((unknownT l u3939).length : Nat) : Int))), (37, .v (.int .i64 0))]) (by kernel_rfl)
    refine wp_loop_ghost (fun n_ a_ w_ => ∃ (q : Nat) (A5_ : Option Addr) (c5_ : Nat) (ys : List Value) (dss : List (List Value)), n_ = (unknownT l u3939).length - q ∧ q ≤ (unknownT l u3939).length ∧ (Tags w_ (Imm F w w_ [⟨b3955, 0, [.int .i64 n3935, .slice A3940 s3936.length c3941, .bool b3937, .slice A3942 l3938.length c3943, .slice A3944 u3939.length c3945], true⟩, ⟨b3963, 0, [.int .i64 0, .slice none 0 0, .bool false, .slice none 0 0, .slice none 0 0], true⟩, ⟨b3973, 0, [.int .i64 0, .slice none 0 0, .bool false, .slice A_ k c_, .slice A5_ q c5_], true⟩] [⟨A_, c_, 26, 5, k, xs⟩, ⟨A5_, c5_, 55, 2, q, ys⟩]) ys ((wholeU (unknownT l u3939)).take q) dss) ∧ EnvOk 54 [⟨b3955, 0, [.int .i64 n3935, .slice A3940 s3936.length c3941, .bool b3937, .slice A3942 l3938.length c3943, .slice A3944 u3939.length c3945], true⟩, ⟨b3963, 0, [.int .i64 0, .slice none 0 0, .bool false, .slice none 0 0, .slice none 0 0], true⟩, ⟨b3973, 0, [.int .i64 0, .slice none 0 0, .bool false, .slice A_ k c_, .slice A5_ q c5_], true⟩] [(6, .p 1 0), (7, .p 2 0), (35, .v (.slice A4149 ((unknownT l u3939).length) c4150)), (36, .v (.int .i64 (((unknownT l u3939).length : Nat) : Int))), (37, .v (.int .i64 ((q : Nat) : Int)))] a_ ∧ WOk w Nil w_ [⟨b3955, 0, [.int .i64 n3935, .slice A3940 s3936.length c3941, .bool b3937, .slice A3942 l3938.length c3943, .slice A3944 u3939.length c3945], true⟩, ⟨b3963, 0, [.int .i64 0, .slice none 0 0, .bool false, .slice none 0 0, .slice none 0 0], true⟩, ⟨b3973, 0, [.int .i64 0, .slice none 0 0, .bool false, .slice A_ k c_, .slice A5_ q c5_], true⟩] [⟨A_, c_, 26, 5, k, xs⟩, ⟨A5_, c5_, 55, 2, q, ys⟩] ∧ Fr w4151 [⟨b3955, 0, [.int .i64 n3935, .slice A3940 s3936.length c3941, .bool b3937, .slice A3942 l3938.length c3943, .slice A3944 u3939.length c3945], true⟩, ⟨b3963, 0, [.int .i64 0, .slice none 0 0, .bool false, .slice none 0 0, .slice none 0 0], true⟩, ⟨b3973, 0, [.int .i64 0, .slice none 0 0, .bool false, .slice A_ k c_, .slice none 0 0], true⟩] [⟨A_, c_, 26, 5, k, xs⟩, ⟨none, 0, 55, 2, 0, []⟩] w_ [⟨b3955, 0, [.int .i64 n3935, .slice A3940 s3936.length c3941, .bool b3937, .slice A3942 l3938.length c3943, .slice A3944 u3939.length c3945], true⟩, ⟨b3963, 0, [.int .i64 0, .slice none 0 0, .bool false, .slice none 0 0, .slice none 0 0], true⟩, ⟨b3973, 0, [.int .i64 0, .slice none 0 0, .bool false, .slice A_ k c_, .slice A5_ q c5_], true⟩] [⟨A_, c_, 26, 5, k, xs⟩, ⟨A5_, c5_, 55, 2, q, ys⟩]) ((unknownT l u3939).length) ⟨0, none, 0, [], [], by omega, by omega, Tags.nil _ _, hE4173, hW4163, Fr.refl _ _ _⟩ ?_
    clear hE4173 hE4158 hW4163
    rintro n4165 a4166 w4167 ⟨q, A5_, c5_, ys, dss, hn4170, hk4171, hU, hE4168, hW4169, hF4172⟩
    refine go_seq_region [0] (by kernel_rfl) ?_
    refine go_runs [0] [] [6, 7, 35, 36, 37, 38] hW4169 hE4168 (env' := [(6, .p 1 0), (7, .p 2 0), (35, .v (.slice A4149 ((unknownT l u3939).length) c4150)), (36, .v (.int .i64 (((unknownT l u3939).length : Nat) : Int))), (37, .v (.int .i64 ((q : Nat) : Int))), (38, .v (.bool (decide (((q : Nat) : Int) < (((unknownT l u3939).length : Nat) : Int)))))]) (by kernel_rfl) rfl fun a4174 hE4175 => ?_
    clear hE4168
    refine wpOps_nil ?_
    refine then_normal ?_
    refine wp_seq ?_
    refine cond_of hE4175 (b := decide (((q : Nat) : Int) < (((unknownT l u3939).length : Nat) : Int))) (by kernel_rfl) (fun hc4176 => ?_) (fun hc4176 => ?_)
    ·
      have hf4177 := of_decide_eq_true hc4176
      refine wp_skip ?_
      refine then_normal ?_
      refine wp_seq ?_
      refine wp_block ?_
      refine go_seq_region [0, 1, 2, 3] (by kernel_rfl) ?_
      obtain ⟨b4178, o4179, hA4180, hl4181, hat4182⟩ := Slots.get h4160 (i := q) (by omega)
      obtain ⟨⟨k4183, s4184⟩, he4185⟩ : ∃ x, (unknownT l u3939)[q]? = some x := ⟨_, List.getElem?_eq_getElem (by omega)⟩
      obtain ⟨⟨A4186, c4187, hcs4188, hb4189⟩, h4190, h4191⟩ := h4161 q k4183 s4184 he4185
      rw [hcs4188] at hat4182
      refine of_op (wpOp_index hE4175 (t := 24) (A := A4149) (m := (unknownT l u3939).length) (q := ((q : Nat) : Int)) (d := 39) (by kernel_rfl) (e := 55) (size := 2) (bytes := 32) (by kernel_rfl) hA4180 rfl (by omega) fun a4192 hE4193 => ?_)
      clear hE4175
      refine of_op (wpOp_load hE4193 (t := 55) (b := b4178) (o := o4179 + q * 2) (d := 40) (by kernel_rfl) (cs := [.int .u32 k4183, .slice A4186 s4184.length c4187]) (v := .agg #[.int .u32 k4183, .slice A4186 s4184.length c4187]) (by kernel_rfl) (AtF.move hat4182 (Fr.trans hF4164 hF4172).step immM (Fr.trans hF4164 hF4172).to').at_ fun a4194 hE4195 => ?_)
      clear hE4193
      refine of_op (wpOp_alloc hW4169 hE4195 (d := 11) (cs := [.int .u32 0, .slice none 0 0]) (by kernel_rfl) fun b4196 a4197 w4198 hb4199 hz4200 hF4201 hW4202 hE4203 => ?_)
      clear hE4195 hW4169
      refine of_op (wpOp_store hW4202 hE4203 (oi := 3) (cs := [.int .u32 k4183, .slice A4186 s4184.length c4187]) (by kernel_rfl) fun w4204 hF4205 hW4206 hE4207 => ?_)
      clear hE4203 hW4202
      refine wpOps_nil ?_
      refine then_normal ?_
      refine go_drawK 11 (by kernel_rfl) hW4206 fun w4208 hF4209 hW4210 hT4211 => ?_
      clear hW4206
      refine go_runsD [0, 1, 2, 3, 4, 5] [6, 7, 35, 36, 37, 42, 44, 46] 6 (by kernel_rfl) (panicFree_block (panicFree_then (panicFree_then (panicFree_block (panicFree_then panicFree_body))))) (fun _ h => h.cells) hT4211 hE4207 (by kernel_rfl) (env' := [(6, .p 1 0), (7, .p 2 0), (35, .v (.slice A4149 ((unknownT l u3939).length) c4150)), (36, .v (.int .i64 (((unknownT l u3939).length : Nat) : Int))), (37, .v (.int .i64 ((q : Nat) : Int))), (42, .v (.slice A5_ q c5_)), (44, .v (.int .u32 k4183)), (46, .v (.slice A4186 s4184.length c4187))]) (by kernel_rfl) rfl fun a4212 hE4213 => ?_
      clear hE4207
      have hwl4215 := whole_le s4184
      refine anyC_op (i := 6) (by kernel_rfl) (wpOp_call hE4213 (f := 35) (vs := [.slice A4186 s4184.length c4187]) (d := 47) (by kernel_rfl) Try.call35 (sWhole _ _ s4184 (hb4189.move (Fr.trans (Fr.trans (Fr.trans (Fr.trans hF4164 hF4172) hF4201) hF4205) hF4209).step immM (Fr.trans (Fr.trans (Fr.trans (Fr.trans hF4164 hF4172) hF4201) hF4205) hF4209).to').le _) ?_)
      rintro e_ w4216 ⟨rfl, hs4214⟩
      refine ⟨_, rfl, fun a4217 hE4218 => ?_⟩
      have hW4219 := hW4210.next_nil hs4214
      have hF4220 := Fr.nil [⟨b3955, 0, [.int .i64 n3935, .slice A3940 s3936.length c3941, .bool b3937, .slice A3942 l3938.length c3943, .slice A3944 u3939.length c3945], true⟩, ⟨b3963, 0, [.int .i64 0, .slice none 0 0, .bool false, .slice none 0 0, .slice none 0 0], true⟩, ⟨b3973, 0, [.int .i64 0, .slice none 0 0, .bool false, .slice A_ k c_, .slice A5_ q c5_], true⟩, ⟨b4196, 0, [.int .u32 k4183, .slice A4186 s4184.length c4187], true⟩] [⟨A_, c_, 26, 5, k, xs⟩, ⟨A5_, c5_, 55, 2, q, ys⟩] hs4214
      clear hE4213
      have hT4221 : TT w4208 [⟨b3955, 0, [.int .i64 n3935, .slice A3940 s3936.length c3941, .bool b3937, .slice A3942 l3938.length c3943, .slice A3944 u3939.length c3945], true⟩, ⟨b3963, 0, [.int .i64 0, .slice none 0 0, .bool false, .slice none 0 0, .slice none 0 0], true⟩, ⟨b3973, 0, [.int .i64 0, .slice none 0 0, .bool false, .slice A_ k c_, .slice A5_ q c5_], true⟩, ⟨b4196, 0, [.int .u32 k4183, .slice A4186 s4184.length c4187], true⟩] [⟨A_, c_, 26, 5, k, xs⟩, ⟨A5_, c5_, 55, 2, q, ys⟩] w4216 := ⟨hW4219.cells, hF4220.step⟩
      refine ⟨fun _ => hT4221, ?_⟩
      refine go_runsD [7] [6, 7, 35, 36, 37, 42, 48] 4 (by kernel_rfl) (panicFree_block (panicFree_then (panicFree_then (panicFree_block (panicFree_then panicFree_body))))) (fun _ h => h.cells) hT4221 hE4218 (by kernel_rfl) (env' := [(6, .p 1 0), (7, .p 2 0), (35, .v (.slice A4149 ((unknownT l u3939).length) c4150)), (36, .v (.int .i64 (((unknownT l u3939).length : Nat) : Int))), (37, .v (.int .i64 ((q : Nat) : Int))), (42, .v (.slice A5_ q c5_)), (48, .v (.agg #[.int .u32 k4183, .slice A4186 ((whole s4184).length) c4187]))]) (by kernel_rfl) rfl fun a4222 hE4223 => ?_
      clear hE4218
      refine anyC_op (i := 8) (by kernel_rfl) (wpOp_lit hW4219 hE4223 (e := 55) (size := 2) (len := 1) (cs := [.int .u32 k4183, .slice A4186 ((whole s4184).length) c4187]) (d := 49) (by kernel_rfl) (by kernel_rfl) fun b4224 a4225 w4226 hb4227 hz4228 hF4229 hW4230 hE4231 => ?_)
      clear hE4223 hW4219
      have hT4232 : TT w4208 [⟨b3955, 0, [.int .i64 n3935, .slice A3940 s3936.length c3941, .bool b3937, .slice A3942 l3938.length c3943, .slice A3944 u3939.length c3945], true⟩, ⟨b3963, 0, [.int .i64 0, .slice none 0 0, .bool false, .slice none 0 0, .slice none 0 0], true⟩, ⟨b3973, 0, [.int .i64 0, .slice none 0 0, .bool false, .slice A_ k c_, .slice A5_ q c5_], true⟩, ⟨b4196, 0, [.int .u32 k4183, .slice A4186 s4184.length c4187], true⟩] [⟨A_, c_, 26, 5, k, xs⟩, ⟨A5_, c5_, 55, 2, q, ys⟩] w4226 := ⟨hW4230.cells, (Fr.trans hF4220 hF4229).step⟩
      refine ⟨fun _ => hT4232, ?_⟩
      refine anyC_op (i := 9) (by kernel_rfl) (wpOp_append hW4230 hE4231 (k := 1) (d := 50) (t := 24) (e := 55) (size := 2) (bytes := 32) (A := A5_) (As := (some ⟨b4224, 0, none⟩)) (m0 := q) (c := c5_) (m := 1) (cs := 1) (xs := ys) (news := [.int .u32 k4183, .slice A4186 ((whole s4184).length) c4187]) (by kernel_rfl) (by kernel_rfl) rfl (own_src (hW4230.own 2 _ rfl) (allOne_ok (by kernel_rfl))) (own_cap (hW4230.own 2 _ rfl)) (by omega) fun A4233 c4234 a4235 w4236 hF4237 hW4238 hE4239 => ?_)
      clear hE4231 hW4230
      have hT4240 : TT w4208 [⟨b3955, 0, [.int .i64 n3935, .slice A3940 s3936.length c3941, .bool b3937, .slice A3942 l3938.length c3943, .slice A3944 u3939.length c3945], true⟩, ⟨b3963, 0, [.int .i64 0, .slice none 0 0, .bool false, .slice none 0 0, .slice none 0 0], true⟩, ⟨b3973, 0, [.int .i64 0, .slice none 0 0, .bool false, .slice A_ k c_, .slice A5_ q c5_], true⟩, ⟨b4196, 0, [.int .u32 k4183, .slice A4186 s4184.length c4187], true⟩] [⟨A_, c_, 26, 5, k, xs⟩, ⟨A5_, c5_, 55, 2, q, ys⟩] w4236 := ⟨hW4238.cells, (Fr.trans (Fr.trans hF4220 hF4229) hF4237).step⟩
      refine ⟨fun _ => hT4240, ?_⟩
      refine go_runsD [10] [6, 7, 35, 36, 37, 50, 51] 1 (by kernel_rfl) (panicFree_block (panicFree_then (panicFree_then (panicFree_block (panicFree_then panicFree_body))))) (fun _ h => h.cells) hT4240 hE4239 (by kernel_rfl) (env' := [(6, .p 1 0), (7, .p 2 0), (35, .v (.slice A4149 ((unknownT l u3939).length) c4150)), (36, .v (.int .i64 (((unknownT l u3939).length : Nat) : Int))), (37, .v (.int .i64 ((q : Nat) : Int))), (50, .v (.slice A4233 (q + 1) c4234)), (51, .p 2 4)]) (by kernel_rfl) rfl fun a4241 hE4242 => ?_
      clear hE4239
      refine anyC_op (i := 11) (by kernel_rfl) (wpOp_store hW4238 hE4242 (oi := 2) (cs := [.int .i64 0, .slice none 0 0, .bool false, .slice A_ k c_, .slice A4233 (q + 1) c4234]) (by kernel_rfl) fun w4243 hF4244 hW4245 hE4246 => ?_)
      clear hE4242 hW4238
      refine ⟨fun h => absurd rfl h, ?_⟩
      refine anyC_done (by kernel_rfl) ?_ _
      refine block_normal ?_
      refine then_normal ?_
      refine go_region [0, 1] (by kernel_rfl) ?_
      refine go_runs [0, 1] [] [6, 7, 35, 36, 37] hW4245 hE4246 (env' := [(6, .p 1 0), (7, .p 2 0), (35, .v (.slice A4149 ((unknownT l u3939).length) c4150)), (36, .v (.int .i64 (((unknownT l u3939).length : Nat) : Int))), (37, .v (.int .i64 (IntKind.i64.wrap (((q : Nat) : Int) + 1))))]) (by kernel_rfl) rfl fun a4247 hE4248 => ?_
      clear hE4246
      refine wpOps_nil ?_
      refine then_normal ?_
      have hE4249 := EnvOk.pick hE4248 (ks := [6, 7, 35, 36, 37]) (env' := [(6, .p 1 0), (7, .p 2 0), (35, .v (.slice A4149 ((unknownT l u3939).length) c4150)), (36, .v (.int .i64 (((unknownT l u3939).length : Nat) : Int))), (37, .v (.int .i64 (IntKind.i64.wrap (((q : Nat) : Int) + 1))))]) (by kernel_rfl)
      have hE4250 : EnvOk 54 [⟨b3955, 0, [.int .i64 n3935, .slice A3940 s3936.length c3941, .bool b3937, .slice A3942 l3938.length c3943, .slice A3944 u3939.length c3945], true⟩, ⟨b3963, 0, [.int .i64 0, .slice none 0 0, .bool false, .slice none 0 0, .slice none 0 0], true⟩, ⟨b3973, 0, [.int .i64 0, .slice none 0 0, .bool false, .slice A_ k c_, .slice A4233 (q + 1) c4234], true⟩] _ _ := hE4249.cutTb 3 (by kernel_rfl)
      have hW4251 : WOk _ _ _ [⟨b3955, 0, [.int .i64 n3935, .slice A3940 s3936.length c3941, .bool b3937, .slice A3942 l3938.length c3943, .slice A3944 u3939.length c3945], true⟩, ⟨b3963, 0, [.int .i64 0, .slice none 0 0, .bool false, .slice none 0 0, .slice none 0 0], true⟩, ⟨b3973, 0, [.int .i64 0, .slice none 0 0, .bool false, .slice A_ k c_, .slice A4233 (q + 1) c4234], true⟩] _ := hW4245.cutTb 3
      have hF4252 : Fr _ _ _ _ [⟨b3955, 0, [.int .i64 n3935, .slice A3940 s3936.length c3941, .bool b3937, .slice A3942 l3938.length c3943, .slice A3944 u3939.length c3945], true⟩, ⟨b3963, 0, [.int .i64 0, .slice none 0 0, .bool false, .slice none 0 0, .slice none 0 0], true⟩, ⟨b3973, 0, [.int .i64 0, .slice none 0 0, .bool false, .slice A_ k c_, .slice A4233 (q + 1) c4234], true⟩] _ := Fr.cutTb w4243 [⟨b3955, 0, [.int .i64 n3935, .slice A3940 s3936.length c3941, .bool b3937, .slice A3942 l3938.length c3943, .slice A3944 u3939.length c3945], true⟩, ⟨b3963, 0, [.int .i64 0, .slice none 0 0, .bool false, .slice none 0 0, .slice none 0 0], true⟩, ⟨b3973, 0, [.int .i64 0, .slice none 0 0, .bool false, .slice A_ k c_, .slice A4233 (q + 1) c4234], true⟩, ⟨b4196, 0, [.int .u32 k4183, .slice A4186 s4184.length c4187], true⟩] [⟨A_, c_, 26, 5, k, xs⟩, ⟨A4233, c4234, 55, 2, q + 1, ys ++ [.int .u32 k4183, .slice A4186 ((whole s4184).length) c4187]⟩, ⟨some ⟨b4224, 0, none⟩, 1, 55, 2, 1, [.int .u32 k4183, .slice A4186 ((whole s4184).length) c4187]⟩] 3
      have hW4253 : WOk _ _ _ _ [⟨A_, c_, 26, 5, k, xs⟩, ⟨A4233, c4234, 55, 2, q + 1, ys ++ [.int .u32 k4183, .slice A4186 ((whole s4184).length) c4187]⟩] := hW4251.rows 2
      have hF4254 : Fr _ _ _ _ _ [⟨A_, c_, 26, 5, k, xs⟩, ⟨A4233, c4234, 55, 2, q + 1, ys ++ [.int .u32 k4183, .slice A4186 ((whole s4184).length) c4187]⟩] := Fr.rows w4243 [⟨b3955, 0, [.int .i64 n3935, .slice A3940 s3936.length c3941, .bool b3937, .slice A3942 l3938.length c3943, .slice A3944 u3939.length c3945], true⟩, ⟨b3963, 0, [.int .i64 0, .slice none 0 0, .bool false, .slice none 0 0, .slice none 0 0], true⟩, ⟨b3973, 0, [.int .i64 0, .slice none 0 0, .bool false, .slice A_ k c_, .slice A4233 (q + 1) c4234], true⟩] [⟨A_, c_, 26, 5, k, xs⟩, ⟨A4233, c4234, 55, 2, q + 1, ys ++ [.int .u32 k4183, .slice A4186 ((whole s4184).length) c4187]⟩, ⟨some ⟨b4224, 0, none⟩, 1, 55, 2, 1, [.int .u32 k4183, .slice A4186 ((whole s4184).length) c4187]⟩] 2
      have hE4255 := EnvOk.pick hE4250 (ks := [6, 7, 35, 36, 37]) (env' := [(6, .p 1 0), (7, .p 2 0), (35, .v (.slice A4149 ((unknownT l u3939).length) c4150)), (36, .v (.int .i64 (((unknownT l u3939).length : Nat) : Int))), (37, .v (.int .i64 (IntKind.i64.wrap (((q : Nat) : Int) + 1))))]) (by kernel_rfl)
      have he4256 : IntKind.i64.wrap (((q : Nat) : Int) + 1) = ((q + 1 : Nat) : Int) := wrap_succ (by omega)
      rw [he4256] at hE4255
      exact ⟨(unknownT l u3939).length - (q + 1), by omega, q + 1, A4233, c4234, ys ++ [Value.int .u32 k4183, .slice A4186 ((whole s4184).length) c4187], (dss ++ [[Value.int .u32 k4183, .slice A4186 ((whole s4184).length) c4187]]), rfl, by omega, by rw [take_succ_of (wholeU_get he4185)]; exact (hU.move (Fr.trans (Fr.trans (Fr.trans (Fr.trans (Fr.trans (Fr.trans (Fr.trans (Fr.trans hF4201 hF4205) hF4209) hF4220) hF4229) hF4237) hF4244) hF4252) hF4254).step immM (Fr.trans (Fr.trans (Fr.trans (Fr.trans (Fr.trans (Fr.trans (Fr.trans (Fr.trans hF4201 hF4205) hF4209) hF4220) hF4229) hF4237) hF4244) hF4252) hF4254).to').snoc (c := [.int .u32 k4183, .slice A4186 ((whole s4184).length) c4187]) (x := (k4183, whole s4184)) ⟨⟨_, _, rfl, ((hb4189.move (Fr.trans (Fr.trans (Fr.trans (Fr.trans (Fr.trans (Fr.trans (Fr.trans (Fr.trans (Fr.trans (Fr.trans hF4164 hF4172) hF4201) hF4205) hF4209) hF4220) hF4229) hF4237) hF4244) hF4252) hF4254).step immM (Fr.trans (Fr.trans (Fr.trans (Fr.trans (Fr.trans (Fr.trans (Fr.trans (Fr.trans (Fr.trans (Fr.trans hF4164 hF4172) hF4201) hF4205) hF4209) hF4220) hF4229) hF4237) hF4244) hF4252) hF4254).to').take 32767)⟩, h4190, h4191⟩, hE4255, hW4253, (Fr.trans (Fr.trans (Fr.trans (Fr.trans (Fr.trans (Fr.trans (Fr.trans (Fr.trans (Fr.trans hF4172 hF4201) hF4205) hF4209) hF4220) hF4229) hF4237) hF4244) hF4252) hF4254)⟩
    ·
      have hf4257 := of_decide_eq_false hc4176
      refine wp_exit ?_
      refine then_exit ?_
      refine then_exit ?_
      refine block_exit ?_
      refine then_normal ?_
      refine go_seq_region [0, 1] (by kernel_rfl) ?_
      refine go_runs [0] [1] [6, 53] hW4169 hE4175 (env' := [(6, .p 1 0), (53, .v (.agg #[.int .i64 0, .slice none 0 0, .bool false, .slice A_ k c_, .slice A5_ q c5_]))]) (by kernel_rfl) rfl fun a4258 hE4259 => ?_
      clear hE4175
      refine of_op (wpOp_store hW4169 hE4259 (oi := 1) (cs := [.int .i64 0, .slice none 0 0, .bool false, .slice A_ k c_, .slice A5_ q c5_]) (by kernel_rfl) fun w4260 hF4261 hW4262 hE4263 => ?_)
      clear hE4259 hW4169
      refine wpOps_nil ?_
      refine then_normal ?_
      refine wp_ret ?_
      refine leave hE4263 hW4262.cells (v := .agg #[.int .i64 0, .slice none 0 0, .bool false, .slice A_ k c_, .slice A5_ q c5_]) (by kernel_rfl) ?_
      have hq0 : q = (wholeU (unknownT l u3939)).length := by rw [wholeU_len]; omega
      have hT' := (hT.move (Fr.trans (Fr.trans (Fr.trans hF4156 hF4164) hF4172) hF4261).step immM (Fr.trans (Fr.trans (Fr.trans hF4156 hF4164) hF4172) hF4261).to')
      have hU' := (hU.move hF4261.step immM hF4261.to')
      rw [show (fitsW W l (Tree.mk n3935 s3936 b3937 l3938 u3939) 0).take k = (fitsW W l (Tree.mk n3935 s3936 b3937 l3938 u3939) 0) by rw [hk0, List.take_length]] at hT'
      rw [show (wholeU (unknownT l u3939)).take q = (wholeU (unknownT l u3939)) by rw [hq0, List.take_length]] at hU'
      exact tree_end hW4262 rfl (Octs.nil _ _) hk0 (trees_fp hW4262 (k := 0) rfl hT' hk0 (by rw [fits_len]; omega)) hq0 (tags_fp hW4262 (k := 1) rfl hU' hq0 (by rw [wholeU_len]; omega)) rfl

theorem sFitOK : ∀ d, FitOK d
  | 0 => fun A c l v ct t w F hl hpl hd ht => sFit (fun _ _ => .zero) A c l v ct t w F (fun cf f ct t w F hm hf ht => by
      obtain ⟨i, hi⟩ := List.mem_iff_getElem?.1 hm
      have h := depths_get hi
      obtain ⟨k, x1, x2, x3, x4, x5, x6, l, A, c, xs, rfl, _⟩ := hf.open_
      rw [depth_mk] at h; omega) hl ht
  | d + 1 => fun A c l v ct t w F hl hpl hd ht => sFit (fittedW (fitT v d) v) A c l v ct t w F (fun cf f ct t w F hm hf ht => sFitted (sFitOK d) cf f v ct t w F hf (plains_mem hpl hm) (by
      obtain ⟨i, hi⟩ := List.mem_iff_getElem?.1 hm
      have h := depths_get hi
      obtain ⟨k, x1, x2, x3, x4, x5, x6, l, A, c, xs, rfl, _⟩ := hf.open_
      rw [depth_mk] at h
      show depths l ≤ d
      omega) ht) hl ht

end Go.Proofs.Ytlkiilgbpliakaa.ME
