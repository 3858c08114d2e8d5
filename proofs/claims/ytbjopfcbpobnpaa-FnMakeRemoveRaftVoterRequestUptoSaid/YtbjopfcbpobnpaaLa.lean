/- Contracts: printed by tools/sp.py. Own work. -/
import Derived.Test.YtbjopfcbpobnpaaSz
namespace Go.Proofs.Ytbjopfcbpobnpaa.ME
open Go
set_option linter.unusedVariables false
set_option linter.unusedSimpArgs false
set_option maxRecDepth 20000

theorem lFits3 (k : Int) (A : Option Addr) (m c : Nat) (w : World) : Calls Try.prog 92 #[.agg #[.int .u32 k, .slice A m c]] w (GivesB w) := by
  refine enter (n := 7) Try.func92 rfl Try.ntmps92 (by kernel_rfl) fun a hE => ?_
  have hW := WOk.start w Nil
  refine go_seq_region [0, 1] (by kernel_rfl) ?_
  refine of_op (wpOp_box hW hE (d := 1) (cs := [.int .u32 k, .slice A m c]) (by kernel_rfl) fun b4185 a4186 w4187 hb4188 hz4189 hF4190 hW4191 hE4192 => ?_)
  clear hE hW
  refine go_runs [1] [] [1] hW4191 hE4192 (env' := [(1, .p 0 0)]) (by kernel_rfl) rfl fun a4193 hE4194 => ?_
  clear hE4192
  refine wpOps_nil ?_
  refine then_normal ?_
  refine wp_seq ?_
  refine go_seq_region [0, 1, 2, 3] (by kernel_rfl) ?_
  refine go_runs [0, 1, 2, 3] [] [6] hW4191 hE4194 (env' := [(6, .v (.bool (decide (((m : Nat) : Int) > 2147483647))))]) (by kernel_rfl) rfl fun a4195 hE4196 => ?_
  clear hE4194
  refine wpOps_nil ?_
  refine then_normal ?_
  refine cond_of hE4196 (b := decide (((m : Nat) : Int) > 2147483647)) (by kernel_rfl) (fun hc4197 => ?_) (fun hc4197 => ?_)
  ·
    have hf4198 := of_decide_eq_true hc4197
    refine go_seq_region [0] (by kernel_rfl) ?_
    refine go_runs [0] [] [2] hW4191 hE4196 (env' := [(2, .v (.bool false))]) (by kernel_rfl) rfl fun a4199 hE4200 => ?_
    clear hE4196
    refine wpOps_nil ?_
    refine then_normal ?_
    refine wp_ret ?_
    refine then_ret ?_
    refine leave hE4200 hW4191.cells (v := .bool false) (by kernel_rfl) ?_
    exact ⟨_, rfl, hW4191.step⟩
  ·
    have hf4201 := of_decide_eq_false hc4197
    refine wp_skip ?_
    refine then_normal ?_
    refine go_seq_region [0] (by kernel_rfl) ?_
    refine go_runs [0] [] [2] hW4191 hE4196 (env' := [(2, .v (.bool true))]) (by kernel_rfl) rfl fun a4202 hE4203 => ?_
    clear hE4196
    refine wpOps_nil ?_
    refine then_normal ?_
    refine wp_ret ?_
    refine leave hE4203 hW4191.cells (v := .bool true) (by kernel_rfl) ?_
    exact ⟨_, rfl, hW4191.step⟩

theorem lFits2 (A : Option Addr) (c : Nat) (u : List (Int × Bs)) (w : World) (F : Nat → Nat → Prop) (hu : TagsR w F A c u) : Calls Try.prog 41 #[.slice A u.length c] w (GivesB w) := by
  obtain ⟨xu, h1, h2⟩ := hu.ex
  have hsm := h1.small
  refine enter (n := 18) Try.func41 rfl Try.ntmps41 (by kernel_rfl) fun a hE => ?_
  have hW := WOk.start w Nil
  refine go_seq_region [0] (by kernel_rfl) ?_
  refine go_runs [0] [] [0] hW hE (env' := [(0, .v (.slice A u.length c))]) (by kernel_rfl) rfl fun a4204 hE4205 => ?_
  clear hE
  refine wpOps_nil ?_
  refine then_normal ?_
  refine wp_seq ?_
  refine go_seq_region [0, 1, 2] (by kernel_rfl) ?_
  refine go_runs [0, 1, 2] [] [0, 7] hW hE4205 (env' := [(0, .v (.slice A u.length c)), (7, .v (.bool (decide (((u.length : Nat) : Int) > 2147483647))))]) (by kernel_rfl) rfl fun a4206 hE4207 => ?_
  clear hE4205
  refine wpOps_nil ?_
  refine then_normal ?_
  refine cond_of hE4207 (b := decide (((u.length : Nat) : Int) > 2147483647)) (by kernel_rfl) (fun hc4208 => ?_) (fun hc4208 => ?_)
  ·
    have hf4209 := of_decide_eq_true hc4208
    refine go_seq_region [0] (by kernel_rfl) ?_
    refine go_runs [0] [] [2] hW hE4207 (env' := [(2, .v (.bool false))]) (by kernel_rfl) rfl fun a4210 hE4211 => ?_
    clear hE4207
    refine wpOps_nil ?_
    refine then_normal ?_
    refine wp_ret ?_
    refine then_ret ?_
    refine leave hE4211 hW.cells (v := .bool false) (by kernel_rfl) ?_
    exact ⟨_, rfl, hW.step⟩
  ·
    have hf4212 := of_decide_eq_false hc4208
    refine wp_skip ?_
    refine then_normal ?_
    refine wp_seq ?_
    refine go_seq_region [0, 1, 2] (by kernel_rfl) ?_
    refine go_runs [0, 1, 2] [] [8, 9, 10] hW hE4207 (env' := [(8, .v (.slice A u.length c)), (9, .v (.int .i64 ((u.length : Nat) : Int))), (10, .v (.int .i64 0))]) (by kernel_rfl) rfl fun a4213 hE4214 => ?_
    clear hE4207
    refine wpOps_nil ?_
    refine then_normal ?_
    refine wp_block ?_
    have hE4223 := EnvOk.pick hE4214 (ks := [8, 9, 10]) (env' := [(8, .v (.slice A u.length c)), (9, .v (.int .i64 ((u.length : Nat) : Int))), (10, .v (.int .i64 0))]) (by kernel_rfl)
    refine wp_loop_ghost (fun n_ a_ w_ => ∃ (k : Nat), n_ = u.length - k ∧ k ≤ u.length ∧ EnvOk 18 [] [(8, .v (.slice A u.length c)), (9, .v (.int .i64 ((u.length : Nat) : Int))), (10, .v (.int .i64 ((k : Nat) : Int)))] a_ ∧ WOk w Nil w_ [] [] ∧ Fr w [] [] w_ [] []) (u.length) ⟨0, by omega, by omega, hE4223, hW, Fr.refl _ _ _⟩ ?_
    clear hE4223 hE4214 hW
    rintro n4215 a4216 w4217 ⟨k, hn4220, hk4221, hE4218, hW4219, hF4222⟩
    refine go_seq_region [0] (by kernel_rfl) ?_
    refine go_runs [0] [] [8, 9, 10, 11] hW4219 hE4218 (env' := [(8, .v (.slice A u.length c)), (9, .v (.int .i64 ((u.length : Nat) : Int))), (10, .v (.int .i64 ((k : Nat) : Int))), (11, .v (.bool (decide (((k : Nat) : Int) < ((u.length : Nat) : Int)))))]) (by kernel_rfl) rfl fun a4224 hE4225 => ?_
    clear hE4218
    refine wpOps_nil ?_
    refine then_normal ?_
    refine wp_seq ?_
    refine cond_of hE4225 (b := decide (((k : Nat) : Int) < ((u.length : Nat) : Int))) (by kernel_rfl) (fun hc4226 => ?_) (fun hc4226 => ?_)
    ·
      have hf4227 := of_decide_eq_true hc4226
      refine wp_skip ?_
      refine then_normal ?_
      refine wp_seq ?_
      refine wp_block ?_
      refine go_seq_region [0, 1, 2, 3] (by kernel_rfl) ?_
      obtain ⟨b4228, o4229, hA4230, hl4231, hat4232⟩ := Slots.get h1 (i := k) (by omega)
      obtain ⟨⟨k4233, s4234⟩, he4235⟩ : ∃ x, u[k]? = some x := ⟨_, List.getElem?_eq_getElem (by omega)⟩
      obtain ⟨⟨A4236, c4237, hcs4238, hb4239⟩, h4240, h4241⟩ := h2 k k4233 s4234 he4235
      rw [hcs4238] at hat4232
      refine of_op (wpOp_index hE4225 (t := 24) (A := A) (m := u.length) (q := ((k : Nat) : Int)) (d := 12) (by kernel_rfl) (e := 61) (size := 2) (bytes := 32) (by kernel_rfl) hA4230 rfl (by omega) fun a4242 hE4243 => ?_)
      clear hE4225
      refine of_op (wpOp_load hE4243 (t := 61) (b := b4228) (o := o4229 + k * 2) (d := 13) (by kernel_rfl) (cs := [.int .u32 k4233, .slice A4236 s4234.length c4237]) (v := .agg #[.int .u32 k4233, .slice A4236 s4234.length c4237]) (by kernel_rfl) (AtF.move hat4232 hW4219.step nilM keepF).at_ fun a4244 hE4245 => ?_)
      clear hE4243
      refine of_op (wpOp_alloc hW4219 hE4245 (d := 4) (cs := [.int .u32 0, .slice none 0 0]) (by kernel_rfl) fun b4246 a4247 w4248 hb4249 hz4250 hF4251 hW4252 hE4253 => ?_)
      clear hE4245 hW4219
      refine of_op (wpOp_store hW4252 hE4253 (oi := 0) (cs := [.int .u32 k4233, .slice A4236 s4234.length c4237]) (by kernel_rfl) fun w4254 hF4255 hW4256 hE4257 => ?_)
      clear hE4253 hW4252
      refine wpOps_nil ?_
      refine then_normal ?_
      refine go_seq_region [0, 1, 2] (by kernel_rfl) ?_
      refine go_runs [0] [1, 2] [8, 9, 10, 14] hW4256 hE4257 (env' := [(8, .v (.slice A u.length c)), (9, .v (.int .i64 ((u.length : Nat) : Int))), (10, .v (.int .i64 ((k : Nat) : Int))), (14, .v (.agg #[.int .u32 k4233, .slice A4236 s4234.length c4237]))]) (by kernel_rfl) rfl fun a4258 hE4259 => ?_
      clear hE4257
      refine of_op (wpOp_call hE4259 (f := 92) (vs := [.agg #[.int .u32 k4233, .slice A4236 s4234.length c4237]]) (d := 15) (by kernel_rfl) Try.call92 (lFits3 _ _ _ _ _) ?_)
      rintro e_ w4262 ⟨b4261, rfl, hs4260⟩
      refine ⟨_, rfl, fun a4263 hE4264 => ?_⟩
      have hW4265 := hW4256.next_nil hs4260
      have hF4266 := Fr.nil [⟨b4246, 0, [.int .u32 k4233, .slice A4236 s4234.length c4237], true⟩] [] hs4260
      clear hE4259 hW4256
      refine go_runs [2] [] [8, 9, 10, 16] hW4265 hE4264 (env' := [(8, .v (.slice A u.length c)), (9, .v (.int .i64 ((u.length : Nat) : Int))), (10, .v (.int .i64 ((k : Nat) : Int))), (16, .v (.bool (!b4261)))]) (by kernel_rfl) rfl fun a4267 hE4268 => ?_
      clear hE4264
      refine wpOps_nil ?_
      refine then_normal ?_
      refine cond_of hE4268 (b := !b4261) (by kernel_rfl) (fun hc4269 => ?_) (fun hc4269 => ?_)
      ·
        refine go_seq_region [0] (by kernel_rfl) ?_
        refine go_runs [0] [] [2] hW4265 hE4268 (env' := [(2, .v (.bool false))]) (by kernel_rfl) rfl fun a4271 hE4272 => ?_
        clear hE4268
        refine wpOps_nil ?_
        refine then_normal ?_
        refine wp_ret ?_
        refine block_ret ?_
        refine then_ret ?_
        refine then_ret ?_
        refine block_ret ?_
        refine then_ret ?_
        refine leave hE4272 hW4265.cells (v := .bool false) (by kernel_rfl) ?_
        exact ⟨_, rfl, hW4265.step⟩
      ·
        refine wp_skip ?_
        refine block_normal ?_
        refine then_normal ?_
        refine go_region [0, 1] (by kernel_rfl) ?_
        refine go_runs [0, 1] [] [8, 9, 10] hW4265 hE4268 (env' := [(8, .v (.slice A u.length c)), (9, .v (.int .i64 ((u.length : Nat) : Int))), (10, .v (.int .i64 (IntKind.i64.wrap (((k : Nat) : Int) + 1))))]) (by kernel_rfl) rfl fun a4274 hE4275 => ?_
        clear hE4268
        refine wpOps_nil ?_
        refine then_normal ?_
        have hE4276 := EnvOk.pick hE4275 (ks := [8, 9, 10]) (env' := [(8, .v (.slice A u.length c)), (9, .v (.int .i64 ((u.length : Nat) : Int))), (10, .v (.int .i64 (IntKind.i64.wrap (((k : Nat) : Int) + 1))))]) (by kernel_rfl)
        have hE4277 : EnvOk 18 [] _ _ := hE4276.cutTb 0 (by kernel_rfl)
        have hW4278 : WOk _ _ _ [] _ := hW4265.cutTb 0
        have hF4279 : Fr _ _ _ _ [] _ := Fr.cutTb w4262 [⟨b4246, 0, [.int .u32 k4233, .slice A4236 s4234.length c4237], true⟩] [] 0
        have hE4280 := EnvOk.pick hE4277 (ks := [8, 9, 10]) (env' := [(8, .v (.slice A u.length c)), (9, .v (.int .i64 ((u.length : Nat) : Int))), (10, .v (.int .i64 (IntKind.i64.wrap (((k : Nat) : Int) + 1))))]) (by kernel_rfl)
        have he4281 : IntKind.i64.wrap (((k : Nat) : Int) + 1) = ((k + 1 : Nat) : Int) := wrap_succ (by omega)
        rw [he4281] at hE4280
        exact ⟨u.length - (k + 1), by omega, k + 1, rfl, by omega, hE4280, hW4278, (Fr.trans (Fr.trans (Fr.trans (Fr.trans hF4222 hF4251) hF4255) hF4266) hF4279)⟩
    ·
      have hf4282 := of_decide_eq_false hc4226
      refine wp_exit ?_
      refine then_exit ?_
      refine then_exit ?_
      refine block_exit ?_
      refine then_normal ?_
      refine go_seq_region [0] (by kernel_rfl) ?_
      refine go_runs [0] [] [2] hW4219 hE4225 (env' := [(2, .v (.bool true))]) (by kernel_rfl) rfl fun a4283 hE4284 => ?_
      clear hE4225
      refine wpOps_nil ?_
      refine then_normal ?_
      refine wp_ret ?_
      refine leave hE4284 hW4219.cells (v := .bool true) (by kernel_rfl) ?_
      exact ⟨_, rfl, hW4219.step⟩

theorem lFits1 (ct : List Value) (t : Tree) (w : World) (F : Nat → Nat → Prop) (ht : TreeR w F ct t) : Calls Try.prog 11 #[.agg ct.toArray] w (GivesB w) := by
  obtain ⟨n4285, s4286, b4287, l4288, u4289, A4290, c4291, A4292, c4293, A4294, c4295, xs4296, rfl, rfl, h4298, h4299, h4300, h4301⟩ := ht.open_
  have hsm4303 := h4298.small
  have hsm4304 := h4299.small
  refine enter (n := 15) Try.func11 rfl Try.ntmps11 (by kernel_rfl) fun a hE => ?_
  have hW := WOk.start w Nil
  refine go_seq_region [0, 1] (by kernel_rfl) ?_
  refine of_op (wpOp_box hW hE (d := 1) (cs := [.int .i64 n4285, .slice A4290 s4286.length c4291, .bool b4287, .slice A4292 l4288.length c4293, .slice A4294 u4289.length c4295]) (by kernel_rfl) fun b4305 a4306 w4307 hb4308 hz4309 hF4310 hW4311 hE4312 => ?_)
  clear hE hW
  refine go_runs [1] [] [1] hW4311 hE4312 (env' := [(1, .p 0 0)]) (by kernel_rfl) rfl fun a4313 hE4314 => ?_
  clear hE4312
  refine wpOps_nil ?_
  refine then_normal ?_
  refine wp_seq ?_
  refine go_seq_region [0, 1, 2, 3] (by kernel_rfl) ?_
  refine go_runs [0, 1, 2, 3] [] [1, 6] hW4311 hE4314 (env' := [(1, .p 0 0), (6, .v (.bool (decide (((s4286.length : Nat) : Int) > 2147483647))))]) (by kernel_rfl) rfl fun a4315 hE4316 => ?_
  clear hE4314
  refine wpOps_nil ?_
  refine then_normal ?_
  refine cond_of hE4316 (b := decide (((s4286.length : Nat) : Int) > 2147483647)) (by kernel_rfl) (fun hc4317 => ?_) (fun hc4317 => ?_)
  ·
    have hf4318 := of_decide_eq_true hc4317
    refine go_seq_region [0] (by kernel_rfl) ?_
    refine go_runs [0] [] [2] hW4311 hE4316 (env' := [(2, .v (.bool false))]) (by kernel_rfl) rfl fun a4319 hE4320 => ?_
    clear hE4316
    refine wpOps_nil ?_
    refine then_normal ?_
    refine wp_ret ?_
    refine then_ret ?_
    refine leave hE4320 hW4311.cells (v := .bool false) (by kernel_rfl) ?_
    exact ⟨_, rfl, hW4311.step⟩
  ·
    have hf4321 := of_decide_eq_false hc4317
    refine wp_skip ?_
    refine then_normal ?_
    refine wp_seq ?_
    refine go_seq_region [0, 1, 2, 3] (by kernel_rfl) ?_
    refine go_runs [0, 1, 2, 3] [] [1, 10] hW4311 hE4316 (env' := [(1, .p 0 0), (10, .v (.bool (decide (((l4288.length : Nat) : Int) > 2147483647))))]) (by kernel_rfl) rfl fun a4322 hE4323 => ?_
    clear hE4316
    refine wpOps_nil ?_
    refine then_normal ?_
    refine cond_of hE4323 (b := decide (((l4288.length : Nat) : Int) > 2147483647)) (by kernel_rfl) (fun hc4324 => ?_) (fun hc4324 => ?_)
    ·
      have hf4325 := of_decide_eq_true hc4324
      refine go_seq_region [0] (by kernel_rfl) ?_
      refine go_runs [0] [] [2] hW4311 hE4323 (env' := [(2, .v (.bool false))]) (by kernel_rfl) rfl fun a4326 hE4327 => ?_
      clear hE4323
      refine wpOps_nil ?_
      refine then_normal ?_
      refine wp_ret ?_
      refine then_ret ?_
      refine leave hE4327 hW4311.cells (v := .bool false) (by kernel_rfl) ?_
      exact ⟨_, rfl, hW4311.step⟩
    ·
      have hf4328 := of_decide_eq_false hc4324
      refine wp_skip ?_
      refine then_normal ?_
      refine wp_seq ?_
      refine go_seq_region [0, 1, 2, 3] (by kernel_rfl) ?_
      refine go_runs [0, 1] [2, 3] [12] hW4311 hE4323 (env' := [(12, .v (.slice A4294 u4289.length c4295))]) (by kernel_rfl) rfl fun a4329 hE4330 => ?_
      clear hE4323
      refine of_op (wpOp_call hE4330 (f := 41) (vs := [.slice A4294 u4289.length c4295]) (d := 13) (by kernel_rfl) Try.call41 (lFits2 _ _ u4289 _ _ (h4301.move hW4311.step nilM hW4311.imm)) ?_)
      rintro e_ w4333 ⟨b4332, rfl, hs4331⟩
      refine ⟨_, rfl, fun a4334 hE4335 => ?_⟩
      have hW4336 := hW4311.next_nil hs4331
      have hF4337 := Fr.nil [⟨b4305, 0, [.int .i64 n4285, .slice A4290 s4286.length c4291, .bool b4287, .slice A4292 l4288.length c4293, .slice A4294 u4289.length c4295], true⟩] [] hs4331
      clear hE4330 hW4311
      refine go_runs [3] [] [14] hW4336 hE4335 (env' := [(14, .v (.bool (!b4332)))]) (by kernel_rfl) rfl fun a4338 hE4339 => ?_
      clear hE4335
      refine wpOps_nil ?_
      refine then_normal ?_
      refine cond_of hE4339 (b := !b4332) (by kernel_rfl) (fun hc4340 => ?_) (fun hc4340 => ?_)
      ·
        refine go_seq_region [0] (by kernel_rfl) ?_
        refine go_runs [0] [] [2] hW4336 hE4339 (env' := [(2, .v (.bool false))]) (by kernel_rfl) rfl fun a4342 hE4343 => ?_
        clear hE4339
        refine wpOps_nil ?_
        refine then_normal ?_
        refine wp_ret ?_
        refine then_ret ?_
        refine leave hE4343 hW4336.cells (v := .bool false) (by kernel_rfl) ?_
        exact ⟨_, rfl, hW4336.step⟩
      ·
        refine wp_skip ?_
        refine then_normal ?_
        refine go_seq_region [0] (by kernel_rfl) ?_
        refine go_runs [0] [] [2] hW4336 hE4339 (env' := [(2, .v (.bool true))]) (by kernel_rfl) rfl fun a4345 hE4346 => ?_
        clear hE4339
        refine wpOps_nil ?_
        refine then_normal ?_
        refine wp_ret ?_
        refine leave hE4346 hW4336.cells (v := .bool true) (by kernel_rfl) ?_
        exact ⟨_, rfl, hW4336.step⟩

theorem lVersion (x m : Int) (hx : 0 ≤ x) (hx' : x < 256) (hm : 0 ≤ m) (hm' : m < 32768) (w : World) : Calls Try.prog 14 #[.int .u8 x, .int .i64 m] w (Gives w (.int .i64 (Int.tmod x (m + 1)))) := by
  refine enter (n := 10) Try.func14 rfl Try.ntmps14 (by kernel_rfl) fun a hE => ?_
  have hW := WOk.start w Nil
  refine go_seq_region [0] (by kernel_rfl) ?_
  refine go_runs [0] [] [0, 1] hW hE (env' := [(0, .v (.int .u8 x)), (1, .v (.int .i64 m))]) (by kernel_rfl) rfl fun a4347 hE4348 => ?_
  clear hE
  refine wpOps_nil ?_
  refine then_normal ?_
  refine go_seq_region [0, 1, 2, 3, 4, 5] (by kernel_rfl) ?_
  refine go_runs [0, 1, 2, 3] [4, 5] [6, 8] hW hE4348 (env' := [(6, .v (.int .i64 (IntKind.i64.wrap x))), (8, .v (.int .i64 (IntKind.i64.wrap (m + 1))))]) (by kernel_rfl) rfl fun a4349 hE4350 => ?_
  clear hE4348
  refine of_op (wpOp_rem hE4350 (k := .i64) (p := (IntKind.i64.wrap x)) (q := (IntKind.i64.wrap (m + 1))) (d := 9) (by kernel_rfl) (by simp only [IntKind.wrap_i64]; omega) fun a4351 hE4352 => ?_)
  clear hE4350
  refine go_runs [5] [] [4] hW hE4352 (env' := [(4, .v (.int .i64 (Int.tmod (IntKind.i64.wrap x) (IntKind.i64.wrap (m + 1)))))]) (by kernel_rfl) rfl fun a4353 hE4354 => ?_
  clear hE4352
  refine wpOps_nil ?_
  refine then_normal ?_
  refine wp_ret ?_
  refine leave hE4354 hW.cells (v := .int .i64 (Int.tmod (IntKind.i64.wrap x) (IntKind.i64.wrap (m + 1)))) (by kernel_rfl) ?_
  exact ⟨by rw [wrap_i64 (by omega) (by omega), wrap_i64 (by omega) (by omega)], hW.step⟩

end Go.Proofs.Ytbjopfcbpobnpaa.ME
