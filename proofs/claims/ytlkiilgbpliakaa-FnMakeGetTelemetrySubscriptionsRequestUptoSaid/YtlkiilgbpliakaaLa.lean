/- Contracts: printed by tools/sp.py. Own work. -/
import Derived.Test.YtlkiilgbpliakaaSz
namespace Go.Proofs.Ytlkiilgbpliakaa.ME
open Go
set_option linter.unusedVariables false
set_option linter.unusedSimpArgs false
set_option maxRecDepth 20000

theorem lFits3 (k : Int) (A : Option Addr) (m c : Nat) (w : World) : Calls Try.prog 58 #[.agg #[.int .u32 k, .slice A m c]] w (GivesB w) := by
  refine enter (n := 7) Try.func58 rfl Try.ntmps58 (by kernel_rfl) fun a hE => ?_
  have hW := WOk.start w Nil
  refine go_seq_region [0, 1] (by kernel_rfl) ?_
  refine of_op (wpOp_box hW hE (d := 1) (cs := [.int .u32 k, .slice A m c]) (by kernel_rfl) fun b4264 a4265 w4266 hb4267 hz4268 hF4269 hW4270 hE4271 => ?_)
  clear hE hW
  refine go_runs [1] [] [1] hW4270 hE4271 (env' := [(1, .p 0 0)]) (by kernel_rfl) rfl fun a4272 hE4273 => ?_
  clear hE4271
  refine wpOps_nil ?_
  refine then_normal ?_
  refine wp_seq ?_
  refine go_seq_region [0, 1, 2, 3] (by kernel_rfl) ?_
  refine go_runs [0, 1, 2, 3] [] [6] hW4270 hE4273 (env' := [(6, .v (.bool (decide (((m : Nat) : Int) > 2147483647))))]) (by kernel_rfl) rfl fun a4274 hE4275 => ?_
  clear hE4273
  refine wpOps_nil ?_
  refine then_normal ?_
  refine cond_of hE4275 (b := decide (((m : Nat) : Int) > 2147483647)) (by kernel_rfl) (fun hc4276 => ?_) (fun hc4276 => ?_)
  ·
    have hf4277 := of_decide_eq_true hc4276
    refine go_seq_region [0] (by kernel_rfl) ?_
    refine go_runs [0] [] [2] hW4270 hE4275 (env' := [(2, .v (.bool false))]) (by kernel_rfl) rfl fun a4278 hE4279 => ?_
    clear hE4275
    refine wpOps_nil ?_
    refine then_normal ?_
    refine wp_ret ?_
    refine then_ret ?_
    refine leave hE4279 hW4270.cells (v := .bool false) (by kernel_rfl) ?_
    exact ⟨_, rfl, hW4270.step⟩
  ·
    have hf4280 := of_decide_eq_false hc4276
    refine wp_skip ?_
    refine then_normal ?_
    refine go_seq_region [0] (by kernel_rfl) ?_
    refine go_runs [0] [] [2] hW4270 hE4275 (env' := [(2, .v (.bool true))]) (by kernel_rfl) rfl fun a4281 hE4282 => ?_
    clear hE4275
    refine wpOps_nil ?_
    refine then_normal ?_
    refine wp_ret ?_
    refine leave hE4282 hW4270.cells (v := .bool true) (by kernel_rfl) ?_
    exact ⟨_, rfl, hW4270.step⟩

theorem lFits2 (A : Option Addr) (c : Nat) (u : List (Int × Bs)) (w : World) (F : Nat → Nat → Prop) (hu : TagsR w F A c u) : Calls Try.prog 29 #[.slice A u.length c] w (GivesB w) := by
  obtain ⟨xu, h1, h2⟩ := hu.ex
  have hsm := h1.small
  refine enter (n := 18) Try.func29 rfl Try.ntmps29 (by kernel_rfl) fun a hE => ?_
  have hW := WOk.start w Nil
  refine go_seq_region [0] (by kernel_rfl) ?_
  refine go_runs [0] [] [0] hW hE (env' := [(0, .v (.slice A u.length c))]) (by kernel_rfl) rfl fun a4283 hE4284 => ?_
  clear hE
  refine wpOps_nil ?_
  refine then_normal ?_
  refine wp_seq ?_
  refine go_seq_region [0, 1, 2] (by kernel_rfl) ?_
  refine go_runs [0, 1, 2] [] [0, 7] hW hE4284 (env' := [(0, .v (.slice A u.length c)), (7, .v (.bool (decide (((u.length : Nat) : Int) > 2147483647))))]) (by kernel_rfl) rfl fun a4285 hE4286 => ?_
  clear hE4284
  refine wpOps_nil ?_
  refine then_normal ?_
  refine cond_of hE4286 (b := decide (((u.length : Nat) : Int) > 2147483647)) (by kernel_rfl) (fun hc4287 => ?_) (fun hc4287 => ?_)
  ·
    have hf4288 := of_decide_eq_true hc4287
    refine go_seq_region [0] (by kernel_rfl) ?_
    refine go_runs [0] [] [2] hW hE4286 (env' := [(2, .v (.bool false))]) (by kernel_rfl) rfl fun a4289 hE4290 => ?_
    clear hE4286
    refine wpOps_nil ?_
    refine then_normal ?_
    refine wp_ret ?_
    refine then_ret ?_
    refine leave hE4290 hW.cells (v := .bool false) (by kernel_rfl) ?_
    exact ⟨_, rfl, hW.step⟩
  ·
    have hf4291 := of_decide_eq_false hc4287
    refine wp_skip ?_
    refine then_normal ?_
    refine wp_seq ?_
    refine go_seq_region [0, 1, 2] (by kernel_rfl) ?_
    refine go_runs [0, 1, 2] [] [8, 9, 10] hW hE4286 (env' := [(8, .v (.slice A u.length c)), (9, .v (.int .i64 ((u.length : Nat) : Int))), (10, .v (.int .i64 0))]) (by kernel_rfl) rfl fun a4292 hE4293 => ?_
    clear hE4286
    refine wpOps_nil ?_
    refine then_normal ?_
    refine wp_block ?_
    have hE4302 := EnvOk.pick hE4293 (ks := [8, 9, 10]) (env' := [(8, .v (.slice A u.length c)), (9, .v (.int .i64 ((u.length : Nat) : Int))), (10, .v (.int .i64 0))]) (by kernel_rfl)
    refine wp_loop_ghost (fun n_ a_ w_ => ∃ (k : Nat), n_ = u.length - k ∧ k ≤ u.length ∧ EnvOk 18 [] [(8, .v (.slice A u.length c)), (9, .v (.int .i64 ((u.length : Nat) : Int))), (10, .v (.int .i64 ((k : Nat) : Int)))] a_ ∧ WOk w Nil w_ [] [] ∧ Fr w [] [] w_ [] []) (u.length) ⟨0, by omega, by omega, hE4302, hW, Fr.refl _ _ _⟩ ?_
    clear hE4302 hE4293 hW
    rintro n4294 a4295 w4296 ⟨k, hn4299, hk4300, hE4297, hW4298, hF4301⟩
    refine go_seq_region [0] (by kernel_rfl) ?_
    refine go_runs [0] [] [8, 9, 10, 11] hW4298 hE4297 (env' := [(8, .v (.slice A u.length c)), (9, .v (.int .i64 ((u.length : Nat) : Int))), (10, .v (.int .i64 ((k : Nat) : Int))), (11, .v (.bool (decide (((k : Nat) : Int) < ((u.length : Nat) : Int)))))]) (by kernel_rfl) rfl fun a4303 hE4304 => ?_
    clear hE4297
    refine wpOps_nil ?_
    refine then_normal ?_
    refine wp_seq ?_
    refine cond_of hE4304 (b := decide (((k : Nat) : Int) < ((u.length : Nat) : Int))) (by kernel_rfl) (fun hc4305 => ?_) (fun hc4305 => ?_)
    ·
      have hf4306 := of_decide_eq_true hc4305
      refine wp_skip ?_
      refine then_normal ?_
      refine wp_seq ?_
      refine wp_block ?_
      refine go_seq_region [0, 1, 2, 3] (by kernel_rfl) ?_
      obtain ⟨b4307, o4308, hA4309, hl4310, hat4311⟩ := Slots.get h1 (i := k) (by omega)
      obtain ⟨⟨k4312, s4313⟩, he4314⟩ : ∃ x, u[k]? = some x := ⟨_, List.getElem?_eq_getElem (by omega)⟩
      obtain ⟨⟨A4315, c4316, hcs4317, hb4318⟩, h4319, h4320⟩ := h2 k k4312 s4313 he4314
      rw [hcs4317] at hat4311
      refine of_op (wpOp_index hE4304 (t := 24) (A := A) (m := u.length) (q := ((k : Nat) : Int)) (d := 12) (by kernel_rfl) (e := 55) (size := 2) (bytes := 32) (by kernel_rfl) hA4309 rfl (by omega) fun a4321 hE4322 => ?_)
      clear hE4304
      refine of_op (wpOp_load hE4322 (t := 55) (b := b4307) (o := o4308 + k * 2) (d := 13) (by kernel_rfl) (cs := [.int .u32 k4312, .slice A4315 s4313.length c4316]) (v := .agg #[.int .u32 k4312, .slice A4315 s4313.length c4316]) (by kernel_rfl) (AtF.move hat4311 hW4298.step nilM keepF).at_ fun a4323 hE4324 => ?_)
      clear hE4322
      refine of_op (wpOp_alloc hW4298 hE4324 (d := 4) (cs := [.int .u32 0, .slice none 0 0]) (by kernel_rfl) fun b4325 a4326 w4327 hb4328 hz4329 hF4330 hW4331 hE4332 => ?_)
      clear hE4324 hW4298
      refine of_op (wpOp_store hW4331 hE4332 (oi := 0) (cs := [.int .u32 k4312, .slice A4315 s4313.length c4316]) (by kernel_rfl) fun w4333 hF4334 hW4335 hE4336 => ?_)
      clear hE4332 hW4331
      refine wpOps_nil ?_
      refine then_normal ?_
      refine go_seq_region [0, 1, 2] (by kernel_rfl) ?_
      refine go_runs [0] [1, 2] [8, 9, 10, 14] hW4335 hE4336 (env' := [(8, .v (.slice A u.length c)), (9, .v (.int .i64 ((u.length : Nat) : Int))), (10, .v (.int .i64 ((k : Nat) : Int))), (14, .v (.agg #[.int .u32 k4312, .slice A4315 s4313.length c4316]))]) (by kernel_rfl) rfl fun a4337 hE4338 => ?_
      clear hE4336
      refine of_op (wpOp_call hE4338 (f := 58) (vs := [.agg #[.int .u32 k4312, .slice A4315 s4313.length c4316]]) (d := 15) (by kernel_rfl) Try.call58 (lFits3 _ _ _ _ _) ?_)
      rintro e_ w4341 ⟨b4340, rfl, hs4339⟩
      refine ⟨_, rfl, fun a4342 hE4343 => ?_⟩
      have hW4344 := hW4335.next_nil hs4339
      have hF4345 := Fr.nil [⟨b4325, 0, [.int .u32 k4312, .slice A4315 s4313.length c4316], true⟩] [] hs4339
      clear hE4338 hW4335
      refine go_runs [2] [] [8, 9, 10, 16] hW4344 hE4343 (env' := [(8, .v (.slice A u.length c)), (9, .v (.int .i64 ((u.length : Nat) : Int))), (10, .v (.int .i64 ((k : Nat) : Int))), (16, .v (.bool (!b4340)))]) (by kernel_rfl) rfl fun a4346 hE4347 => ?_
      clear hE4343
      refine wpOps_nil ?_
      refine then_normal ?_
      refine cond_of hE4347 (b := !b4340) (by kernel_rfl) (fun hc4348 => ?_) (fun hc4348 => ?_)
      ·
        refine go_seq_region [0] (by kernel_rfl) ?_
        refine go_runs [0] [] [2] hW4344 hE4347 (env' := [(2, .v (.bool false))]) (by kernel_rfl) rfl fun a4350 hE4351 => ?_
        clear hE4347
        refine wpOps_nil ?_
        refine then_normal ?_
        refine wp_ret ?_
        refine block_ret ?_
        refine then_ret ?_
        refine then_ret ?_
        refine block_ret ?_
        refine then_ret ?_
        refine leave hE4351 hW4344.cells (v := .bool false) (by kernel_rfl) ?_
        exact ⟨_, rfl, hW4344.step⟩
      ·
        refine wp_skip ?_
        refine block_normal ?_
        refine then_normal ?_
        refine go_region [0, 1] (by kernel_rfl) ?_
        refine go_runs [0, 1] [] [8, 9, 10] hW4344 hE4347 (env' := [(8, .v (.slice A u.length c)), (9, .v (.int .i64 ((u.length : Nat) : Int))), (10, .v (.int .i64 (IntKind.i64.wrap (((k : Nat) : Int) + 1))))]) (by kernel_rfl) rfl fun a4353 hE4354 => ?_
        clear hE4347
        refine wpOps_nil ?_
        refine then_normal ?_
        have hE4355 := EnvOk.pick hE4354 (ks := [8, 9, 10]) (env' := [(8, .v (.slice A u.length c)), (9, .v (.int .i64 ((u.length : Nat) : Int))), (10, .v (.int .i64 (IntKind.i64.wrap (((k : Nat) : Int) + 1))))]) (by kernel_rfl)
        have hE4356 : EnvOk 18 [] _ _ := hE4355.cutTb 0 (by kernel_rfl)
        have hW4357 : WOk _ _ _ [] _ := hW4344.cutTb 0
        have hF4358 : Fr _ _ _ _ [] _ := Fr.cutTb w4341 [⟨b4325, 0, [.int .u32 k4312, .slice A4315 s4313.length c4316], true⟩] [] 0
        have hE4359 := EnvOk.pick hE4356 (ks := [8, 9, 10]) (env' := [(8, .v (.slice A u.length c)), (9, .v (.int .i64 ((u.length : Nat) : Int))), (10, .v (.int .i64 (IntKind.i64.wrap (((k : Nat) : Int) + 1))))]) (by kernel_rfl)
        have he4360 : IntKind.i64.wrap (((k : Nat) : Int) + 1) = ((k + 1 : Nat) : Int) := wrap_succ (by omega)
        rw [he4360] at hE4359
        exact ⟨u.length - (k + 1), by omega, k + 1, rfl, by omega, hE4359, hW4357, (Fr.trans (Fr.trans (Fr.trans (Fr.trans hF4301 hF4330) hF4334) hF4345) hF4358)⟩
    ·
      have hf4361 := of_decide_eq_false hc4305
      refine wp_exit ?_
      refine then_exit ?_
      refine then_exit ?_
      refine block_exit ?_
      refine then_normal ?_
      refine go_seq_region [0] (by kernel_rfl) ?_
      refine go_runs [0] [] [2] hW4298 hE4304 (env' := [(2, .v (.bool true))]) (by kernel_rfl) rfl fun a4362 hE4363 => ?_
      clear hE4304
      refine wpOps_nil ?_
      refine then_normal ?_
      refine wp_ret ?_
      refine leave hE4363 hW4298.cells (v := .bool true) (by kernel_rfl) ?_
      exact ⟨_, rfl, hW4298.step⟩

theorem lFits1 (ct : List Value) (t : Tree) (w : World) (F : Nat → Nat → Prop) (ht : TreeR w F ct t) : Calls Try.prog 8 #[.agg ct.toArray] w (GivesB w) := by
  obtain ⟨n4364, s4365, b4366, l4367, u4368, A4369, c4370, A4371, c4372, A4373, c4374, xs4375, rfl, rfl, h4377, h4378, h4379, h4380⟩ := ht.open_
  have hsm4382 := h4377.small
  have hsm4383 := h4378.small
  refine enter (n := 15) Try.func8 rfl Try.ntmps8 (by kernel_rfl) fun a hE => ?_
  have hW := WOk.start w Nil
  refine go_seq_region [0, 1] (by kernel_rfl) ?_
  refine of_op (wpOp_box hW hE (d := 1) (cs := [.int .i64 n4364, .slice A4369 s4365.length c4370, .bool b4366, .slice A4371 l4367.length c4372, .slice A4373 u4368.length c4374]) (by kernel_rfl) fun b4384 a4385 w4386 hb4387 hz4388 hF4389 hW4390 hE4391 => ?_)
  clear hE hW
  refine go_runs [1] [] [1] hW4390 hE4391 (env' := [(1, .p 0 0)]) (by kernel_rfl) rfl fun a4392 hE4393 => ?_
  clear hE4391
  refine wpOps_nil ?_
  refine then_normal ?_
  refine wp_seq ?_
  refine go_seq_region [0, 1, 2, 3] (by kernel_rfl) ?_
  refine go_runs [0, 1, 2, 3] [] [1, 6] hW4390 hE4393 (env' := [(1, .p 0 0), (6, .v (.bool (decide (((s4365.length : Nat) : Int) > 2147483647))))]) (by kernel_rfl) rfl fun a4394 hE4395 => ?_
  clear hE4393
  refine wpOps_nil ?_
  refine then_normal ?_
  refine cond_of hE4395 (b := decide (((s4365.length : Nat) : Int) > 2147483647)) (by kernel_rfl) (fun hc4396 => ?_) (fun hc4396 => ?_)
  ·
    have hf4397 := of_decide_eq_true hc4396
    refine go_seq_region [0] (by kernel_rfl) ?_
    refine go_runs [0] [] [2] hW4390 hE4395 (env' := [(2, .v (.bool false))]) (by kernel_rfl) rfl fun a4398 hE4399 => ?_
    clear hE4395
    refine wpOps_nil ?_
    refine then_normal ?_
    refine wp_ret ?_
    refine then_ret ?_
    refine leave hE4399 hW4390.cells (v := .bool false) (by kernel_rfl) ?_
    exact ⟨_, rfl, hW4390.step⟩
  ·
    have hf4400 := of_decide_eq_false hc4396
    refine wp_skip ?_
    refine then_normal ?_
    refine wp_seq ?_
    refine go_seq_region [0, 1, 2, 3] (by kernel_rfl) ?_
    refine go_runs [0, 1, 2, 3] [] [1, 10] hW4390 hE4395 (env' := [(1, .p 0 0), (10, .v (.bool (decide (((l4367.length : Nat) : Int) > 2147483647))))]) (by kernel_rfl) rfl fun a4401 hE4402 => ?_
    clear hE4395
    refine wpOps_nil ?_
    refine then_normal ?_
    refine cond_of hE4402 (b := decide (((l4367.length : Nat) : Int) > 2147483647)) (by kernel_rfl) (fun hc4403 => ?_) (fun hc4403 => ?_)
    ·
      have hf4404 := of_decide_eq_true hc4403
      refine go_seq_region [0] (by kernel_rfl) ?_
      refine go_runs [0] [] [2] hW4390 hE4402 (env' := [(2, .v (.bool false))]) (by kernel_rfl) rfl fun a4405 hE4406 => ?_
      clear hE4402
      refine wpOps_nil ?_
      refine then_normal ?_
      refine wp_ret ?_
      refine then_ret ?_
      refine leave hE4406 hW4390.cells (v := .bool false) (by kernel_rfl) ?_
      exact ⟨_, rfl, hW4390.step⟩
    ·
      have hf4407 := of_decide_eq_false hc4403
      refine wp_skip ?_
      refine then_normal ?_
      refine wp_seq ?_
      refine go_seq_region [0, 1, 2, 3] (by kernel_rfl) ?_
      refine go_runs [0, 1] [2, 3] [12] hW4390 hE4402 (env' := [(12, .v (.slice A4373 u4368.length c4374))]) (by kernel_rfl) rfl fun a4408 hE4409 => ?_
      clear hE4402
      refine of_op (wpOp_call hE4409 (f := 29) (vs := [.slice A4373 u4368.length c4374]) (d := 13) (by kernel_rfl) Try.call29 (lFits2 _ _ u4368 _ _ (h4380.move hW4390.step nilM hW4390.imm)) ?_)
      rintro e_ w4412 ⟨b4411, rfl, hs4410⟩
      refine ⟨_, rfl, fun a4413 hE4414 => ?_⟩
      have hW4415 := hW4390.next_nil hs4410
      have hF4416 := Fr.nil [⟨b4384, 0, [.int .i64 n4364, .slice A4369 s4365.length c4370, .bool b4366, .slice A4371 l4367.length c4372, .slice A4373 u4368.length c4374], true⟩] [] hs4410
      clear hE4409 hW4390
      refine go_runs [3] [] [14] hW4415 hE4414 (env' := [(14, .v (.bool (!b4411)))]) (by kernel_rfl) rfl fun a4417 hE4418 => ?_
      clear hE4414
      refine wpOps_nil ?_
      refine then_normal ?_
      refine cond_of hE4418 (b := !b4411) (by kernel_rfl) (fun hc4419 => ?_) (fun hc4419 => ?_)
      ·
        refine go_seq_region [0] (by kernel_rfl) ?_
        refine go_runs [0] [] [2] hW4415 hE4418 (env' := [(2, .v (.bool false))]) (by kernel_rfl) rfl fun a4421 hE4422 => ?_
        clear hE4418
        refine wpOps_nil ?_
        refine then_normal ?_
        refine wp_ret ?_
        refine then_ret ?_
        refine leave hE4422 hW4415.cells (v := .bool false) (by kernel_rfl) ?_
        exact ⟨_, rfl, hW4415.step⟩
      ·
        refine wp_skip ?_
        refine then_normal ?_
        refine go_seq_region [0] (by kernel_rfl) ?_
        refine go_runs [0] [] [2] hW4415 hE4418 (env' := [(2, .v (.bool true))]) (by kernel_rfl) rfl fun a4424 hE4425 => ?_
        clear hE4418
        refine wpOps_nil ?_
        refine then_normal ?_
        refine wp_ret ?_
        refine leave hE4425 hW4415.cells (v := .bool true) (by kernel_rfl) ?_
        exact ⟨_, rfl, hW4415.step⟩

theorem lVersion (x m : Int) (hx : 0 ≤ x) (hx' : x < 256) (hm : 0 ≤ m) (hm' : m < 32768) (w : World) : Calls Try.prog 17 #[.int .u8 x, .int .i64 m] w (Gives w (.int .i64 (Int.tmod x (m + 1)))) := by
  refine enter (n := 10) Try.func17 rfl Try.ntmps17 (by kernel_rfl) fun a hE => ?_
  have hW := WOk.start w Nil
  refine go_seq_region [0] (by kernel_rfl) ?_
  refine go_runs [0] [] [0, 1] hW hE (env' := [(0, .v (.int .u8 x)), (1, .v (.int .i64 m))]) (by kernel_rfl) rfl fun a4426 hE4427 => ?_
  clear hE
  refine wpOps_nil ?_
  refine then_normal ?_
  refine go_seq_region [0, 1, 2, 3, 4, 5] (by kernel_rfl) ?_
  refine go_runs [0, 1, 2, 3] [4, 5] [6, 8] hW hE4427 (env' := [(6, .v (.int .i64 (IntKind.i64.wrap x))), (8, .v (.int .i64 (IntKind.i64.wrap (m + 1))))]) (by kernel_rfl) rfl fun a4428 hE4429 => ?_
  clear hE4427
  refine of_op (wpOp_rem hE4429 (k := .i64) (p := (IntKind.i64.wrap x)) (q := (IntKind.i64.wrap (m + 1))) (d := 9) (by kernel_rfl) (by simp only [IntKind.wrap_i64]; omega) fun a4430 hE4431 => ?_)
  clear hE4429
  refine go_runs [5] [] [4] hW hE4431 (env' := [(4, .v (.int .i64 (Int.tmod (IntKind.i64.wrap x) (IntKind.i64.wrap (m + 1)))))]) (by kernel_rfl) rfl fun a4432 hE4433 => ?_
  clear hE4431
  refine wpOps_nil ?_
  refine then_normal ?_
  refine wp_ret ?_
  refine leave hE4433 hW.cells (v := .int .i64 (Int.tmod (IntKind.i64.wrap x) (IntKind.i64.wrap (m + 1)))) (by kernel_rfl) ?_
  exact ⟨by rw [wrap_i64 (by omega) (by omega), wrap_i64 (by omega) (by omega)], hW.step⟩

end Go.Proofs.Ytlkiilgbpliakaa.ME
