/- Contracts: printed by tools/sp.py. Own work. -/
import Derived.Test.YtbjopfcbpobnpaaSz
namespace Go.Proofs.Ytbjopfcbpobnpaa.ME
open Go
set_option linter.unusedVariables false
set_option linter.unusedSimpArgs false
set_option maxRecDepth 20000

def sAddRaftVoterResponseF : List Fld := [(Fld.mk 3 0 (-1) (-1) (-1) 0 0 []), (Fld.mk 2 0 (-1) (-1) (-1) 0 0 []), (Fld.mk 8 0 (-1) 0 (-1) 0 0 [])]
def sAddRaftVoterResponseX : Int := 0
theorem sAddRaftVoterResponse (w : World) (F : Nat → Nat → Prop) : Calls Try.prog 21 #[] w (GivesM w F sAddRaftVoterResponseF sAddRaftVoterResponseX) := by
  refine enter (n := 6) Try.func21 rfl Try.ntmps21 (by kernel_rfl) fun a hE => ?_
  have hW := WOk.start w Nil
  refine go_seq_region [0] (by kernel_rfl) ?_
  refine of_op (wpOp_alloc hW hE (d := 0) (cs := [.slice none 0 0, .int .i64 0]) (by kernel_rfl) fun b4355 a4356 w4357 hb4358 hz4359 hF4360 hW4361 hE4362 => ?_)
  clear hE hW
  refine wpOps_nil ?_
  refine then_normal ?_
  refine go_seq_region [0, 1, 2, 3, 4, 5] (by kernel_rfl) ?_
  refine go_runs [0, 1, 2] [3, 4, 5] [0, 1, 2, 3] hW4361 hE4362 (env' := [(0, .p 0 0), (1, .v (.agg #[.int .i64 3, .int .i64 0, .int .i64 (-1), .int .i64 (-1), .int .i64 (-1), .int .i64 0, .int .i64 0, .slice none 0 0])), (2, .v (.agg #[.int .i64 2, .int .i64 0, .int .i64 (-1), .int .i64 (-1), .int .i64 (-1), .int .i64 0, .int .i64 0, .slice none 0 0])), (3, .v (.agg #[.int .i64 8, .int .i64 0, .int .i64 (-1), .int .i64 0, .int .i64 (-1), .int .i64 0, .int .i64 0, .slice none 0 0]))]) (by kernel_rfl) rfl fun a4363 hE4364 => ?_
  clear hE4362
  refine of_op (wpOp_lit hW4361 hE4364 (e := 50) (size := 8) (len := 3) (cs := [.int .i64 3, .int .i64 0, .int .i64 (-1), .int .i64 (-1), .int .i64 (-1), .int .i64 0, .int .i64 0, .slice none 0 0, .int .i64 2, .int .i64 0, .int .i64 (-1), .int .i64 (-1), .int .i64 (-1), .int .i64 0, .int .i64 0, .slice none 0 0, .int .i64 8, .int .i64 0, .int .i64 (-1), .int .i64 0, .int .i64 (-1), .int .i64 0, .int .i64 0, .slice none 0 0]) (d := 4) (by kernel_rfl) (by kernel_rfl) fun b4365 a4366 w4367 hb4368 hz4369 hF4370 hW4371 hE4372 => ?_)
  clear hE4364 hW4361
  refine go_runs [4] [5] [0, 5] hW4371 hE4372 (env' := [(0, .p 0 0), (5, .v (.agg #[.slice (some ⟨b4365, 0, none⟩) 3 3, .int .i64 0]))]) (by kernel_rfl) rfl fun a4373 hE4374 => ?_
  clear hE4372
  refine of_op (wpOp_store hW4371 hE4374 (oi := 0) (cs := [.slice (some ⟨b4365, 0, none⟩) 3 3, .int .i64 0]) (by kernel_rfl) fun w4375 hF4376 hW4377 hE4378 => ?_)
  clear hE4374 hW4371
  refine wpOps_nil ?_
  refine then_normal ?_
  refine wp_ret ?_
  refine leave hE4378 hW4377.cells (v := .agg #[.slice (some ⟨b4365, 0, none⟩) 3 3, .int .i64 0]) (by kernel_rfl) ?_
  have hfl4379 := Flds.slots (F := F) hW4377 (k := 0) (n := 3) (xs := [.int .i64 3, .int .i64 0, .int .i64 (-1), .int .i64 (-1), .int .i64 (-1), .int .i64 0, .int .i64 0, .slice none 0 0, .int .i64 2, .int .i64 0, .int .i64 (-1), .int .i64 (-1), .int .i64 (-1), .int .i64 0, .int .i64 0, .slice none 0 0, .int .i64 8, .int .i64 0, .int .i64 (-1), .int .i64 0, .int .i64 (-1), .int .i64 0, .int .i64 0, .slice none 0 0]) rfl (Flds.snoc (Flds.snoc (Flds.snoc (Flds.nil _ _) (c := [.int .i64 3, .int .i64 0, .int .i64 (-1), .int .i64 (-1), .int .i64 (-1), .int .i64 0, .int .i64 0, .slice none 0 0]) (x := (Fld.mk 3 0 (-1) (-1) (-1) 0 0 [])) (FldR.mk (l := []) _ (noFlds w4375 (Fp F w)).1 (noFlds w4375 (Fp F w)).2)) (c := [.int .i64 2, .int .i64 0, .int .i64 (-1), .int .i64 (-1), .int .i64 (-1), .int .i64 0, .int .i64 0, .slice none 0 0]) (x := (Fld.mk 2 0 (-1) (-1) (-1) 0 0 [])) (FldR.mk (l := []) _ (noFlds w4375 (Fp F w)).1 (noFlds w4375 (Fp F w)).2)) (c := [.int .i64 8, .int .i64 0, .int .i64 (-1), .int .i64 0, .int .i64 (-1), .int .i64 0, .int .i64 0, .slice none 0 0]) (x := (Fld.mk 8 0 (-1) 0 (-1) 0 0 [])) (FldR.mk (l := []) _ (noFlds w4375 (Fp F w)).1 (noFlds w4375 (Fp F w)).2)) rfl (by decide)
  exact ⟨_, _, rfl, ⟨_, hfl4379.1, hfl4379.2⟩, hW4377.step⟩

def sEnvelopeResponseF : List Fld := [(Fld.mk 9 0 (-1) 0 (-1) 0 0 []), (Fld.mk 2 0 (-1) (-1) (-1) 0 0 [])]
def sEnvelopeResponseX : Int := 0
theorem sEnvelopeResponse (w : World) (F : Nat → Nat → Prop) : Calls Try.prog 13 #[] w (GivesM w F sEnvelopeResponseF sEnvelopeResponseX) := by
  refine enter (n := 5) Try.func13 rfl Try.ntmps13 (by kernel_rfl) fun a hE => ?_
  have hW := WOk.start w Nil
  refine go_seq_region [0] (by kernel_rfl) ?_
  refine of_op (wpOp_alloc hW hE (d := 0) (cs := [.slice none 0 0, .int .i64 0]) (by kernel_rfl) fun b4418 a4419 w4420 hb4421 hz4422 hF4423 hW4424 hE4425 => ?_)
  clear hE hW
  refine wpOps_nil ?_
  refine then_normal ?_
  refine go_seq_region [0, 1, 2, 3, 4] (by kernel_rfl) ?_
  refine go_runs [0, 1] [2, 3, 4] [0, 1, 2] hW4424 hE4425 (env' := [(0, .p 0 0), (1, .v (.agg #[.int .i64 9, .int .i64 0, .int .i64 (-1), .int .i64 0, .int .i64 (-1), .int .i64 0, .int .i64 0, .slice none 0 0])), (2, .v (.agg #[.int .i64 2, .int .i64 0, .int .i64 (-1), .int .i64 (-1), .int .i64 (-1), .int .i64 0, .int .i64 0, .slice none 0 0]))]) (by kernel_rfl) rfl fun a4426 hE4427 => ?_
  clear hE4425
  refine of_op (wpOp_lit hW4424 hE4427 (e := 50) (size := 8) (len := 2) (cs := [.int .i64 9, .int .i64 0, .int .i64 (-1), .int .i64 0, .int .i64 (-1), .int .i64 0, .int .i64 0, .slice none 0 0, .int .i64 2, .int .i64 0, .int .i64 (-1), .int .i64 (-1), .int .i64 (-1), .int .i64 0, .int .i64 0, .slice none 0 0]) (d := 3) (by kernel_rfl) (by kernel_rfl) fun b4428 a4429 w4430 hb4431 hz4432 hF4433 hW4434 hE4435 => ?_)
  clear hE4427 hW4424
  refine go_runs [3] [4] [0, 4] hW4434 hE4435 (env' := [(0, .p 0 0), (4, .v (.agg #[.slice (some ⟨b4428, 0, none⟩) 2 2, .int .i64 0]))]) (by kernel_rfl) rfl fun a4436 hE4437 => ?_
  clear hE4435
  refine of_op (wpOp_store hW4434 hE4437 (oi := 0) (cs := [.slice (some ⟨b4428, 0, none⟩) 2 2, .int .i64 0]) (by kernel_rfl) fun w4438 hF4439 hW4440 hE4441 => ?_)
  clear hE4437 hW4434
  refine wpOps_nil ?_
  refine then_normal ?_
  refine wp_ret ?_
  refine leave hE4441 hW4440.cells (v := .agg #[.slice (some ⟨b4428, 0, none⟩) 2 2, .int .i64 0]) (by kernel_rfl) ?_
  have hfl4442 := Flds.slots (F := F) hW4440 (k := 0) (n := 2) (xs := [.int .i64 9, .int .i64 0, .int .i64 (-1), .int .i64 0, .int .i64 (-1), .int .i64 0, .int .i64 0, .slice none 0 0, .int .i64 2, .int .i64 0, .int .i64 (-1), .int .i64 (-1), .int .i64 (-1), .int .i64 0, .int .i64 0, .slice none 0 0]) rfl (Flds.snoc (Flds.snoc (Flds.nil _ _) (c := [.int .i64 9, .int .i64 0, .int .i64 (-1), .int .i64 0, .int .i64 (-1), .int .i64 0, .int .i64 0, .slice none 0 0]) (x := (Fld.mk 9 0 (-1) 0 (-1) 0 0 [])) (FldR.mk (l := []) _ (noFlds w4438 (Fp F w)).1 (noFlds w4438 (Fp F w)).2)) (c := [.int .i64 2, .int .i64 0, .int .i64 (-1), .int .i64 (-1), .int .i64 (-1), .int .i64 0, .int .i64 0, .slice none 0 0]) (x := (Fld.mk 2 0 (-1) (-1) (-1) 0 0 [])) (FldR.mk (l := []) _ (noFlds w4438 (Fp F w)).1 (noFlds w4438 (Fp F w)).2)) rfl (by decide)
  exact ⟨_, _, rfl, ⟨_, hfl4442.1, hfl4442.2⟩, hW4440.step⟩

def sRemoveRaftVoterRequestF : List Fld := [(Fld.mk 8 0 (-1) 0 (-1) 0 0 []), (Fld.mk 3 0 (-1) (-1) (-1) 0 0 []), (Fld.mk 7 0 (-1) (-1) (-1) 0 0 [])]
def sRemoveRaftVoterRequestX : Int := 0
theorem sRemoveRaftVoterRequest (w : World) (F : Nat → Nat → Prop) : Calls Try.prog 24 #[] w (GivesM w F sRemoveRaftVoterRequestF sRemoveRaftVoterRequestX) := by
  refine enter (n := 6) Try.func24 rfl Try.ntmps24 (by kernel_rfl) fun a hE => ?_
  have hW := WOk.start w Nil
  refine go_seq_region [0] (by kernel_rfl) ?_
  refine of_op (wpOp_alloc hW hE (d := 0) (cs := [.slice none 0 0, .int .i64 0]) (by kernel_rfl) fun b4443 a4444 w4445 hb4446 hz4447 hF4448 hW4449 hE4450 => ?_)
  clear hE hW
  refine wpOps_nil ?_
  refine then_normal ?_
  refine go_seq_region [0, 1, 2, 3, 4, 5] (by kernel_rfl) ?_
  refine go_runs [0, 1, 2] [3, 4, 5] [0, 1, 2, 3] hW4449 hE4450 (env' := [(0, .p 0 0), (1, .v (.agg #[.int .i64 8, .int .i64 0, .int .i64 (-1), .int .i64 0, .int .i64 (-1), .int .i64 0, .int .i64 0, .slice none 0 0])), (2, .v (.agg #[.int .i64 3, .int .i64 0, .int .i64 (-1), .int .i64 (-1), .int .i64 (-1), .int .i64 0, .int .i64 0, .slice none 0 0])), (3, .v (.agg #[.int .i64 7, .int .i64 0, .int .i64 (-1), .int .i64 (-1), .int .i64 (-1), .int .i64 0, .int .i64 0, .slice none 0 0]))]) (by kernel_rfl) rfl fun a4451 hE4452 => ?_
  clear hE4450
  refine of_op (wpOp_lit hW4449 hE4452 (e := 50) (size := 8) (len := 3) (cs := [.int .i64 8, .int .i64 0, .int .i64 (-1), .int .i64 0, .int .i64 (-1), .int .i64 0, .int .i64 0, .slice none 0 0, .int .i64 3, .int .i64 0, .int .i64 (-1), .int .i64 (-1), .int .i64 (-1), .int .i64 0, .int .i64 0, .slice none 0 0, .int .i64 7, .int .i64 0, .int .i64 (-1), .int .i64 (-1), .int .i64 (-1), .int .i64 0, .int .i64 0, .slice none 0 0]) (d := 4) (by kernel_rfl) (by kernel_rfl) fun b4453 a4454 w4455 hb4456 hz4457 hF4458 hW4459 hE4460 => ?_)
  clear hE4452 hW4449
  refine go_runs [4] [5] [0, 5] hW4459 hE4460 (env' := [(0, .p 0 0), (5, .v (.agg #[.slice (some ⟨b4453, 0, none⟩) 3 3, .int .i64 0]))]) (by kernel_rfl) rfl fun a4461 hE4462 => ?_
  clear hE4460
  refine of_op (wpOp_store hW4459 hE4462 (oi := 0) (cs := [.slice (some ⟨b4453, 0, none⟩) 3 3, .int .i64 0]) (by kernel_rfl) fun w4463 hF4464 hW4465 hE4466 => ?_)
  clear hE4462 hW4459
  refine wpOps_nil ?_
  refine then_normal ?_
  refine wp_ret ?_
  refine leave hE4466 hW4465.cells (v := .agg #[.slice (some ⟨b4453, 0, none⟩) 3 3, .int .i64 0]) (by kernel_rfl) ?_
  have hfl4467 := Flds.slots (F := F) hW4465 (k := 0) (n := 3) (xs := [.int .i64 8, .int .i64 0, .int .i64 (-1), .int .i64 0, .int .i64 (-1), .int .i64 0, .int .i64 0, .slice none 0 0, .int .i64 3, .int .i64 0, .int .i64 (-1), .int .i64 (-1), .int .i64 (-1), .int .i64 0, .int .i64 0, .slice none 0 0, .int .i64 7, .int .i64 0, .int .i64 (-1), .int .i64 (-1), .int .i64 (-1), .int .i64 0, .int .i64 0, .slice none 0 0]) rfl (Flds.snoc (Flds.snoc (Flds.snoc (Flds.nil _ _) (c := [.int .i64 8, .int .i64 0, .int .i64 (-1), .int .i64 0, .int .i64 (-1), .int .i64 0, .int .i64 0, .slice none 0 0]) (x := (Fld.mk 8 0 (-1) 0 (-1) 0 0 [])) (FldR.mk (l := []) _ (noFlds w4463 (Fp F w)).1 (noFlds w4463 (Fp F w)).2)) (c := [.int .i64 3, .int .i64 0, .int .i64 (-1), .int .i64 (-1), .int .i64 (-1), .int .i64 0, .int .i64 0, .slice none 0 0]) (x := (Fld.mk 3 0 (-1) (-1) (-1) 0 0 [])) (FldR.mk (l := []) _ (noFlds w4463 (Fp F w)).1 (noFlds w4463 (Fp F w)).2)) (c := [.int .i64 7, .int .i64 0, .int .i64 (-1), .int .i64 (-1), .int .i64 (-1), .int .i64 0, .int .i64 0, .slice none 0 0]) (x := (Fld.mk 7 0 (-1) (-1) (-1) 0 0 [])) (FldR.mk (l := []) _ (noFlds w4463 (Fp F w)).1 (noFlds w4463 (Fp F w)).2)) rfl (by decide)
  exact ⟨_, _, rfl, ⟨_, hfl4467.1, hfl4467.2⟩, hW4465.step⟩

end Go.Proofs.Ytbjopfcbpobnpaa.ME
