/- Contracts: printed by tools/sp.py. Own work. -/
import Derived.Test.YtlkiilgbpliakaaSz
namespace Go.Proofs.Ytlkiilgbpliakaa.ME
open Go
set_option linter.unusedVariables false
set_option linter.unusedSimpArgs false
set_option maxRecDepth 20000

def sEndTxnMarkerF : List Fld := [(Fld.mk 3 0 (-1) (-1) (-1) 0 0 [])]
def sEndTxnMarkerX : Int := -1
theorem sEndTxnMarker (w : World) (F : Nat → Nat → Prop) : Calls Try.prog 9 #[] w (GivesM w F sEndTxnMarkerF sEndTxnMarkerX) := by
  refine enter (n := 4) Try.func9 rfl Try.ntmps9 (by kernel_rfl) fun a hE => ?_
  have hW := WOk.start w Nil
  refine go_seq_region [0] (by kernel_rfl) ?_
  refine of_op (wpOp_alloc hW hE (d := 0) (cs := [.slice none 0 0, .int .i64 0]) (by kernel_rfl) fun b4434 a4435 w4436 hb4437 hz4438 hF4439 hW4440 hE4441 => ?_)
  clear hE hW
  refine wpOps_nil ?_
  refine then_normal ?_
  refine go_seq_region [0, 1, 2, 3] (by kernel_rfl) ?_
  refine go_runs [0] [1, 2, 3] [0, 1] hW4440 hE4441 (env' := [(0, .p 0 0), (1, .v (.agg #[.int .i64 3, .int .i64 0, .int .i64 (-1), .int .i64 (-1), .int .i64 (-1), .int .i64 0, .int .i64 0, .slice none 0 0]))]) (by kernel_rfl) rfl fun a4442 hE4443 => ?_
  clear hE4441
  refine of_op (wpOp_lit hW4440 hE4443 (e := 46) (size := 8) (len := 1) (cs := [.int .i64 3, .int .i64 0, .int .i64 (-1), .int .i64 (-1), .int .i64 (-1), .int .i64 0, .int .i64 0, .slice none 0 0]) (d := 2) (by kernel_rfl) (by kernel_rfl) fun b4444 a4445 w4446 hb4447 hz4448 hF4449 hW4450 hE4451 => ?_)
  clear hE4443 hW4440
  refine go_runs [2] [3] [0, 3] hW4450 hE4451 (env' := [(0, .p 0 0), (3, .v (.agg #[.slice (some ⟨b4444, 0, none⟩) 1 1, .int .i64 (-1)]))]) (by kernel_rfl) rfl fun a4452 hE4453 => ?_
  clear hE4451
  refine of_op (wpOp_store hW4450 hE4453 (oi := 0) (cs := [.slice (some ⟨b4444, 0, none⟩) 1 1, .int .i64 (-1)]) (by kernel_rfl) fun w4454 hF4455 hW4456 hE4457 => ?_)
  clear hE4453 hW4450
  refine wpOps_nil ?_
  refine then_normal ?_
  refine wp_ret ?_
  refine leave hE4457 hW4456.cells (v := .agg #[.slice (some ⟨b4444, 0, none⟩) 1 1, .int .i64 (-1)]) (by kernel_rfl) ?_
  have hfl4458 := Flds.slots (F := F) hW4456 (k := 0) (n := 1) (xs := [.int .i64 3, .int .i64 0, .int .i64 (-1), .int .i64 (-1), .int .i64 (-1), .int .i64 0, .int .i64 0, .slice none 0 0]) rfl (Flds.snoc (Flds.nil _ _) (c := [.int .i64 3, .int .i64 0, .int .i64 (-1), .int .i64 (-1), .int .i64 (-1), .int .i64 0, .int .i64 0, .slice none 0 0]) (x := (Fld.mk 3 0 (-1) (-1) (-1) 0 0 [])) (FldR.mk (l := []) _ (noFlds w4454 (Fp F w)).1 (noFlds w4454 (Fp F w)).2)) rfl (by decide)
  exact ⟨_, _, rfl, ⟨_, hfl4458.1, hfl4458.2⟩, hW4456.step⟩

def sGetTelemetrySubscriptionsRequestF : List Fld := [(Fld.mk 7 0 (-1) (-1) (-1) 0 0 [])]
def sGetTelemetrySubscriptionsRequestX : Int := 0
theorem sGetTelemetrySubscriptionsRequest (w : World) (F : Nat → Nat → Prop) : Calls Try.prog 21 #[] w (GivesM w F sGetTelemetrySubscriptionsRequestF sGetTelemetrySubscriptionsRequestX) := by
  refine enter (n := 4) Try.func21 rfl Try.ntmps21 (by kernel_rfl) fun a hE => ?_
  have hW := WOk.start w Nil
  refine go_seq_region [0] (by kernel_rfl) ?_
  refine of_op (wpOp_alloc hW hE (d := 0) (cs := [.slice none 0 0, .int .i64 0]) (by kernel_rfl) fun b4459 a4460 w4461 hb4462 hz4463 hF4464 hW4465 hE4466 => ?_)
  clear hE hW
  refine wpOps_nil ?_
  refine then_normal ?_
  refine go_seq_region [0, 1, 2, 3] (by kernel_rfl) ?_
  refine go_runs [0] [1, 2, 3] [0, 1] hW4465 hE4466 (env' := [(0, .p 0 0), (1, .v (.agg #[.int .i64 7, .int .i64 0, .int .i64 (-1), .int .i64 (-1), .int .i64 (-1), .int .i64 0, .int .i64 0, .slice none 0 0]))]) (by kernel_rfl) rfl fun a4467 hE4468 => ?_
  clear hE4466
  refine of_op (wpOp_lit hW4465 hE4468 (e := 46) (size := 8) (len := 1) (cs := [.int .i64 7, .int .i64 0, .int .i64 (-1), .int .i64 (-1), .int .i64 (-1), .int .i64 0, .int .i64 0, .slice none 0 0]) (d := 2) (by kernel_rfl) (by kernel_rfl) fun b4469 a4470 w4471 hb4472 hz4473 hF4474 hW4475 hE4476 => ?_)
  clear hE4468 hW4465
  refine go_runs [2] [3] [0, 3] hW4475 hE4476 (env' := [(0, .p 0 0), (3, .v (.agg #[.slice (some ⟨b4469, 0, none⟩) 1 1, .int .i64 0]))]) (by kernel_rfl) rfl fun a4477 hE4478 => ?_
  clear hE4476
  refine of_op (wpOp_store hW4475 hE4478 (oi := 0) (cs := [.slice (some ⟨b4469, 0, none⟩) 1 1, .int .i64 0]) (by kernel_rfl) fun w4479 hF4480 hW4481 hE4482 => ?_)
  clear hE4478 hW4475
  refine wpOps_nil ?_
  refine then_normal ?_
  refine wp_ret ?_
  refine leave hE4482 hW4481.cells (v := .agg #[.slice (some ⟨b4469, 0, none⟩) 1 1, .int .i64 0]) (by kernel_rfl) ?_
  have hfl4483 := Flds.slots (F := F) hW4481 (k := 0) (n := 1) (xs := [.int .i64 7, .int .i64 0, .int .i64 (-1), .int .i64 (-1), .int .i64 (-1), .int .i64 0, .int .i64 0, .slice none 0 0]) rfl (Flds.snoc (Flds.nil _ _) (c := [.int .i64 7, .int .i64 0, .int .i64 (-1), .int .i64 (-1), .int .i64 (-1), .int .i64 0, .int .i64 0, .slice none 0 0]) (x := (Fld.mk 7 0 (-1) (-1) (-1) 0 0 [])) (FldR.mk (l := []) _ (noFlds w4479 (Fp F w)).1 (noFlds w4479 (Fp F w)).2)) rfl (by decide)
  exact ⟨_, _, rfl, ⟨_, hfl4483.1, hfl4483.2⟩, hW4481.step⟩

def sHeartbeatResponseF : List Fld := [(Fld.mk 3 1 (-1) (-1) (-1) 0 0 []), (Fld.mk 2 0 (-1) (-1) (-1) 0 0 [])]
def sHeartbeatResponseX : Int := 4
theorem sHeartbeatResponse (w : World) (F : Nat → Nat → Prop) : Calls Try.prog 24 #[] w (GivesM w F sHeartbeatResponseF sHeartbeatResponseX) := by
  refine enter (n := 5) Try.func24 rfl Try.ntmps24 (by kernel_rfl) fun a hE => ?_
  have hW := WOk.start w Nil
  refine go_seq_region [0] (by kernel_rfl) ?_
  refine of_op (wpOp_alloc hW hE (d := 0) (cs := [.slice none 0 0, .int .i64 0]) (by kernel_rfl) fun b4484 a4485 w4486 hb4487 hz4488 hF4489 hW4490 hE4491 => ?_)
  clear hE hW
  refine wpOps_nil ?_
  refine then_normal ?_
  refine go_seq_region [0, 1, 2, 3, 4] (by kernel_rfl) ?_
  refine go_runs [0, 1] [2, 3, 4] [0, 1, 2] hW4490 hE4491 (env' := [(0, .p 0 0), (1, .v (.agg #[.int .i64 3, .int .i64 1, .int .i64 (-1), .int .i64 (-1), .int .i64 (-1), .int .i64 0, .int .i64 0, .slice none 0 0])), (2, .v (.agg #[.int .i64 2, .int .i64 0, .int .i64 (-1), .int .i64 (-1), .int .i64 (-1), .int .i64 0, .int .i64 0, .slice none 0 0]))]) (by kernel_rfl) rfl fun a4492 hE4493 => ?_
  clear hE4491
  refine of_op (wpOp_lit hW4490 hE4493 (e := 46) (size := 8) (len := 2) (cs := [.int .i64 3, .int .i64 1, .int .i64 (-1), .int .i64 (-1), .int .i64 (-1), .int .i64 0, .int .i64 0, .slice none 0 0, .int .i64 2, .int .i64 0, .int .i64 (-1), .int .i64 (-1), .int .i64 (-1), .int .i64 0, .int .i64 0, .slice none 0 0]) (d := 3) (by kernel_rfl) (by kernel_rfl) fun b4494 a4495 w4496 hb4497 hz4498 hF4499 hW4500 hE4501 => ?_)
  clear hE4493 hW4490
  refine go_runs [3] [4] [0, 4] hW4500 hE4501 (env' := [(0, .p 0 0), (4, .v (.agg #[.slice (some ⟨b4494, 0, none⟩) 2 2, .int .i64 4]))]) (by kernel_rfl) rfl fun a4502 hE4503 => ?_
  clear hE4501
  refine of_op (wpOp_store hW4500 hE4503 (oi := 0) (cs := [.slice (some ⟨b4494, 0, none⟩) 2 2, .int .i64 4]) (by kernel_rfl) fun w4504 hF4505 hW4506 hE4507 => ?_)
  clear hE4503 hW4500
  refine wpOps_nil ?_
  refine then_normal ?_
  refine wp_ret ?_
  refine leave hE4507 hW4506.cells (v := .agg #[.slice (some ⟨b4494, 0, none⟩) 2 2, .int .i64 4]) (by kernel_rfl) ?_
  have hfl4508 := Flds.slots (F := F) hW4506 (k := 0) (n := 2) (xs := [.int .i64 3, .int .i64 1, .int .i64 (-1), .int .i64 (-1), .int .i64 (-1), .int .i64 0, .int .i64 0, .slice none 0 0, .int .i64 2, .int .i64 0, .int .i64 (-1), .int .i64 (-1), .int .i64 (-1), .int .i64 0, .int .i64 0, .slice none 0 0]) rfl (Flds.snoc (Flds.snoc (Flds.nil _ _) (c := [.int .i64 3, .int .i64 1, .int .i64 (-1), .int .i64 (-1), .int .i64 (-1), .int .i64 0, .int .i64 0, .slice none 0 0]) (x := (Fld.mk 3 1 (-1) (-1) (-1) 0 0 [])) (FldR.mk (l := []) _ (noFlds w4504 (Fp F w)).1 (noFlds w4504 (Fp F w)).2)) (c := [.int .i64 2, .int .i64 0, .int .i64 (-1), .int .i64 (-1), .int .i64 (-1), .int .i64 0, .int .i64 0, .slice none 0 0]) (x := (Fld.mk 2 0 (-1) (-1) (-1) 0 0 [])) (FldR.mk (l := []) _ (noFlds w4504 (Fp F w)).1 (noFlds w4504 (Fp F w)).2)) rfl (by decide)
  exact ⟨_, _, rfl, ⟨_, hfl4508.1, hfl4508.2⟩, hW4506.step⟩

def sRenewDelegationTokenResponseF : List Fld := [(Fld.mk 2 0 (-1) (-1) (-1) 0 0 []), (Fld.mk 4 0 (-1) (-1) (-1) 0 0 []), (Fld.mk 3 0 (-1) (-1) (-1) 0 0 [])]
def sRenewDelegationTokenResponseX : Int := 2
theorem sRenewDelegationTokenResponse (w : World) (F : Nat → Nat → Prop) : Calls Try.prog 27 #[] w (GivesM w F sRenewDelegationTokenResponseF sRenewDelegationTokenResponseX) := by
  refine enter (n := 6) Try.func27 rfl Try.ntmps27 (by kernel_rfl) fun a hE => ?_
  have hW := WOk.start w Nil
  refine go_seq_region [0] (by kernel_rfl) ?_
  refine of_op (wpOp_alloc hW hE (d := 0) (cs := [.slice none 0 0, .int .i64 0]) (by kernel_rfl) fun b4509 a4510 w4511 hb4512 hz4513 hF4514 hW4515 hE4516 => ?_)
  clear hE hW
  refine wpOps_nil ?_
  refine then_normal ?_
  refine go_seq_region [0, 1, 2, 3, 4, 5] (by kernel_rfl) ?_
  refine go_runs [0, 1, 2] [3, 4, 5] [0, 1, 2, 3] hW4515 hE4516 (env' := [(0, .p 0 0), (1, .v (.agg #[.int .i64 2, .int .i64 0, .int .i64 (-1), .int .i64 (-1), .int .i64 (-1), .int .i64 0, .int .i64 0, .slice none 0 0])), (2, .v (.agg #[.int .i64 4, .int .i64 0, .int .i64 (-1), .int .i64 (-1), .int .i64 (-1), .int .i64 0, .int .i64 0, .slice none 0 0])), (3, .v (.agg #[.int .i64 3, .int .i64 0, .int .i64 (-1), .int .i64 (-1), .int .i64 (-1), .int .i64 0, .int .i64 0, .slice none 0 0]))]) (by kernel_rfl) rfl fun a4517 hE4518 => ?_
  clear hE4516
  refine of_op (wpOp_lit hW4515 hE4518 (e := 46) (size := 8) (len := 3) (cs := [.int .i64 2, .int .i64 0, .int .i64 (-1), .int .i64 (-1), .int .i64 (-1), .int .i64 0, .int .i64 0, .slice none 0 0, .int .i64 4, .int .i64 0, .int .i64 (-1), .int .i64 (-1), .int .i64 (-1), .int .i64 0, .int .i64 0, .slice none 0 0, .int .i64 3, .int .i64 0, .int .i64 (-1), .int .i64 (-1), .int .i64 (-1), .int .i64 0, .int .i64 0, .slice none 0 0]) (d := 4) (by kernel_rfl) (by kernel_rfl) fun b4519 a4520 w4521 hb4522 hz4523 hF4524 hW4525 hE4526 => ?_)
  clear hE4518 hW4515
  refine go_runs [4] [5] [0, 5] hW4525 hE4526 (env' := [(0, .p 0 0), (5, .v (.agg #[.slice (some ⟨b4519, 0, none⟩) 3 3, .int .i64 2]))]) (by kernel_rfl) rfl fun a4527 hE4528 => ?_
  clear hE4526
  refine of_op (wpOp_store hW4525 hE4528 (oi := 0) (cs := [.slice (some ⟨b4519, 0, none⟩) 3 3, .int .i64 2]) (by kernel_rfl) fun w4529 hF4530 hW4531 hE4532 => ?_)
  clear hE4528 hW4525
  refine wpOps_nil ?_
  refine then_normal ?_
  refine wp_ret ?_
  refine leave hE4532 hW4531.cells (v := .agg #[.slice (some ⟨b4519, 0, none⟩) 3 3, .int .i64 2]) (by kernel_rfl) ?_
  have hfl4533 := Flds.slots (F := F) hW4531 (k := 0) (n := 3) (xs := [.int .i64 2, .int .i64 0, .int .i64 (-1), .int .i64 (-1), .int .i64 (-1), .int .i64 0, .int .i64 0, .slice none 0 0, .int .i64 4, .int .i64 0, .int .i64 (-1), .int .i64 (-1), .int .i64 (-1), .int .i64 0, .int .i64 0, .slice none 0 0, .int .i64 3, .int .i64 0, .int .i64 (-1), .int .i64 (-1), .int .i64 (-1), .int .i64 0, .int .i64 0, .slice none 0 0]) rfl (Flds.snoc (Flds.snoc (Flds.snoc (Flds.nil _ _) (c := [.int .i64 2, .int .i64 0, .int .i64 (-1), .int .i64 (-1), .int .i64 (-1), .int .i64 0, .int .i64 0, .slice none 0 0]) (x := (Fld.mk 2 0 (-1) (-1) (-1) 0 0 [])) (FldR.mk (l := []) _ (noFlds w4529 (Fp F w)).1 (noFlds w4529 (Fp F w)).2)) (c := [.int .i64 4, .int .i64 0, .int .i64 (-1), .int .i64 (-1), .int .i64 (-1), .int .i64 0, .int .i64 0, .slice none 0 0]) (x := (Fld.mk 4 0 (-1) (-1) (-1) 0 0 [])) (FldR.mk (l := []) _ (noFlds w4529 (Fp F w)).1 (noFlds w4529 (Fp F w)).2)) (c := [.int .i64 3, .int .i64 0, .int .i64 (-1), .int .i64 (-1), .int .i64 (-1), .int .i64 0, .int .i64 0, .slice none 0 0]) (x := (Fld.mk 3 0 (-1) (-1) (-1) 0 0 [])) (FldR.mk (l := []) _ (noFlds w4529 (Fp F w)).1 (noFlds w4529 (Fp F w)).2)) rfl (by decide)
  exact ⟨_, _, rfl, ⟨_, hfl4533.1, hfl4533.2⟩, hW4531.step⟩

def sUnregisterControllerRequestF : List Fld := [(Fld.mk 3 0 (-1) (-1) (-1) 0 0 [])]
def sUnregisterControllerRequestX : Int := 0
theorem sUnregisterControllerRequest (w : World) (F : Nat → Nat → Prop) : Calls Try.prog 16 #[] w (GivesM w F sUnregisterControllerRequestF sUnregisterControllerRequestX) := by
  refine enter (n := 4) Try.func16 rfl Try.ntmps16 (by kernel_rfl) fun a hE => ?_
  have hW := WOk.start w Nil
  refine go_seq_region [0] (by kernel_rfl) ?_
  refine of_op (wpOp_alloc hW hE (d := 0) (cs := [.slice none 0 0, .int .i64 0]) (by kernel_rfl) fun b4534 a4535 w4536 hb4537 hz4538 hF4539 hW4540 hE4541 => ?_)
  clear hE hW
  refine wpOps_nil ?_
  refine then_normal ?_
  refine go_seq_region [0, 1, 2, 3] (by kernel_rfl) ?_
  refine go_runs [0] [1, 2, 3] [0, 1] hW4540 hE4541 (env' := [(0, .p 0 0), (1, .v (.agg #[.int .i64 3, .int .i64 0, .int .i64 (-1), .int .i64 (-1), .int .i64 (-1), .int .i64 0, .int .i64 0, .slice none 0 0]))]) (by kernel_rfl) rfl fun a4542 hE4543 => ?_
  clear hE4541
  refine of_op (wpOp_lit hW4540 hE4543 (e := 46) (size := 8) (len := 1) (cs := [.int .i64 3, .int .i64 0, .int .i64 (-1), .int .i64 (-1), .int .i64 (-1), .int .i64 0, .int .i64 0, .slice none 0 0]) (d := 2) (by kernel_rfl) (by kernel_rfl) fun b4544 a4545 w4546 hb4547 hz4548 hF4549 hW4550 hE4551 => ?_)
  clear hE4543 hW4540
  refine go_runs [2] [3] [0, 3] hW4550 hE4551 (env' := [(0, .p 0 0), (3, .v (.agg #[.slice (some ⟨b4544, 0, none⟩) 1 1, .int .i64 0]))]) (by kernel_rfl) rfl fun a4552 hE4553 => ?_
  clear hE4551
  refine of_op (wpOp_store hW4550 hE4553 (oi := 0) (cs := [.slice (some ⟨b4544, 0, none⟩) 1 1, .int .i64 0]) (by kernel_rfl) fun w4554 hF4555 hW4556 hE4557 => ?_)
  clear hE4553 hW4550
  refine wpOps_nil ?_
  refine then_normal ?_
  refine wp_ret ?_
  refine leave hE4557 hW4556.cells (v := .agg #[.slice (some ⟨b4544, 0, none⟩) 1 1, .int .i64 0]) (by kernel_rfl) ?_
  have hfl4558 := Flds.slots (F := F) hW4556 (k := 0) (n := 1) (xs := [.int .i64 3, .int .i64 0, .int .i64 (-1), .int .i64 (-1), .int .i64 (-1), .int .i64 0, .int .i64 0, .slice none 0 0]) rfl (Flds.snoc (Flds.nil _ _) (c := [.int .i64 3, .int .i64 0, .int .i64 (-1), .int .i64 (-1), .int .i64 (-1), .int .i64 0, .int .i64 0, .slice none 0 0]) (x := (Fld.mk 3 0 (-1) (-1) (-1) 0 0 [])) (FldR.mk (l := []) _ (noFlds w4554 (Fp F w)).1 (noFlds w4554 (Fp F w)).2)) rfl (by decide)
  exact ⟨_, _, rfl, ⟨_, hfl4558.1, hfl4558.2⟩, hW4556.step⟩

end Go.Proofs.Ytlkiilgbpliakaa.ME
