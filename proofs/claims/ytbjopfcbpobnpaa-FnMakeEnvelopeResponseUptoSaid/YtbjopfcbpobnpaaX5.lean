/- Printed by tools/mk.py. Own work. -/
import Derived.Test.YtbjopfcbpobnpaaXc
import Derived.Test.YtbjopfcbpobnpaaLa
import Derived.Test.YtbjopfcbpobnpaaLb
namespace Go.Proofs.Ytbjopfcbpobnpaa.ME
open Go
open Go.RowKit
set_option linter.unusedVariables false
set_option linter.unusedSimpArgs false
set_option maxRecDepth 20000

def aEnvelopeResponse (x0 : Int) (x1 : Bs) (x2 : Int) (n1 : Bool) (u : List (Int × Bs)) : Bs := (if (decide (x0 ≥ 0)) = true then (if n1 = true then uv 0 else uv (x1.length + 1) ++ x1) else (if n1 = true then be 4 (-1) else be 4 x1.length ++ x1)) ++ ((be 2 x2) ++ ((if (decide (x0 ≥ 0)) = true then (uv u.length) ++ (tagsR u) else []) ++ ([])))
theorem kEnvelopeResponse (x0 : Int) (x1 : Bs) (x2 : Int) (u : List (Int × Bs)) (b o : Nat) (m : Option Nat) (p1 : Option Addr) (c1 : Nat) (A : Option Addr) (cp : Nat) (s : Bs) (w : World) (F : Nat → Nat → Prop) (hat : AtF w F b o [.int .i16 x0, .slice p1 x1.length c1, .int .i16 x2, .map m]) (hm : MapR w F m u) (hul : u.length ≤ 1000000) (hx : ∀ x ∈ u, x.2.length < 4294967296) (hO1 : Octs w F p1 c1 x1) (hs1 : x1.length ≤ 1000000) (hF : ∀ b o, F b o → ¬ Blk A b o) (ho : w.ownsRow 0 5 1 (.slice A s.length cp) s.length (bc s)) (hroom : s.length + (aEnvelopeResponse x0 x1 x2 p1.isNone u).length + 16 ≤ 1099511627776) :
    Calls Try.prog 46 [.pointer (some ⟨b, o, none⟩), .slice A s.length cp].toArray w (AppPost w 5 A (s ++ aEnvelopeResponse x0 x1 x2 p1.isNone u)) := by
  refine chr_calls (n := 50) Try.func46 rfl Try.ntmps46 (by kernel_rfl) rfl ho hroom ?_
  unfold aEnvelopeResponse
  refine chr_ob b o [.int .i16 x0, .slice p1 x1.length c1, .int .i16 x2, .map m] hat hF (by kernel_rfl) (by kernel_rfl) ?_
  refine chr_ptr 0 0 0 b o (by simp) rfl rfl rfl ?_
  refine chr_seq0 (ch_pure (env' := [(0, .p 0 0)]) [0] (fun _ _ _ => by kernel_rfl)) ?_
  refine chr_seq0 (ch_pure (env' := [(0, .p 0 0), (5, .v (.int .i16 x0))]) [0, 5] (fun _ _ _ => by kernel_rfl)) ?_
  refine chr_seq0 (ch_pure (env' := [(0, .p 0 0), (5, .v (.int .i16 x0))]) [0, 5] (fun _ _ _ => by kernel_rfl)) ?_
  refine chr_seq0 (ch_pure (env' := [(0, .p 0 0), (6, .v (.bool (decide (x0 ≥ 0))))]) [0, 6] (fun _ _ _ => by kernel_rfl)) ?_
  refine chr_seq0 (ch_pure (env' := [(0, .p 0 0), (6, .v (.bool (decide (x0 ≥ 0))))]) [0, 6] (fun _ _ _ => by kernel_rfl)) ?_
  refine chr_seq (e1 := [(0, .p 0 0), (6, .v (.bool (decide (x0 ≥ 0))))]) ?_ ?_
  ·
    refine ch_seq0 (ch_pure (env' := [(0, .p 0 0), (6, .v (.bool (decide (x0 ≥ 0)))), (7, .v (.slice p1 x1.length c1))]) [0, 6, 7] (fun _ _ _ => by kernel_rfl)) ?_
    refine ch_seq0 (ch_pure (env' := [(0, .p 0 0), (6, .v (.bool (decide (x0 ≥ 0)))), (7, .v (.slice p1 x1.length c1)), (21, .v (.bool (decide (x0 ≥ 0))))]) [0, 6, 7, 21] (fun _ _ _ => by kernel_rfl)) ?_
    refine ch_if (b := decide (x0 ≥ 0)) (fun _ _ _ => by kernel_rfl) (fun hb => ?_) (fun hb => ?_)
    ·
      exact ch_call (f := 97) (vs := [.slice p1 x1.length c1]) 2 [0, 6] (fun _ _ _ _ _ _ => by kernel_rfl) (by kernel_rfl) Try.call97 (fun A cp s w hs hA ho hr => kAppendCompactNullableBytes' x1 p1 c1 (Lo F _) A cp s w ho (lo_dis hF hA) (hO1.move hs (lo_M hF) lo_F) hs1 hr)
    ·
      exact ch_call (f := 98) (vs := [.slice p1 x1.length c1]) 2 [0, 6] (fun _ _ _ _ _ _ => by kernel_rfl) (by kernel_rfl) Try.call98 (fun A cp s w hs hA ho hr => kAppendNullableBytes' x1 p1 c1 (Lo F _) A cp s w ho (lo_dis hF hA) (hO1.move hs (lo_M hF) lo_F) hs1 hr)
  refine chr_seq (e1 := [(0, .p 0 0), (6, .v (.bool (decide (x0 ≥ 0))))]) ?_ ?_
  ·
    refine ch_seq0 (ch_pure (env' := [(0, .p 0 0), (6, .v (.bool (decide (x0 ≥ 0)))), (8, .v (.int .i16 x2))]) [0, 6, 8] (fun _ _ _ => by kernel_rfl)) ?_
    exact ch_call (f := 99) (vs := [.int .i16 x2]) 2 [0, 6] (fun _ _ _ _ _ _ => by kernel_rfl) (by kernel_rfl) Try.call99 (fun A cp s w _ _ ho hr => kAppendInt16 A cp s x2 w ho (by omega))
  refine chr_seq (e1 := []) ?_ ?_
  ·
    refine ch_seq0 (ch_pure (env' := [(0, .p 0 0), (35, .v (.bool (decide (x0 ≥ 0))))]) [0, 35] (fun _ _ _ => by kernel_rfl)) ?_
    refine ch_when (b := decide (x0 ≥ 0)) (fun _ _ _ => by kernel_rfl) (fun hb => ?_) (fun hb => ?_)
    ·
      refine ch_seq (e1 := [(0, .p 0 0)]) ?_ ?_
      ·
        exact ch_call2 (f1 := 101) (vs1 := [.pointer (some ⟨b, o + 3, none⟩)]) (r1 := .int .i64 ((u.length : Nat) : Int)) (f := 100) (vs := [.int .u32 (IntKind.u32.wrap (0 + (IntKind.u32.wrap ((u.length : Nat) : Int))))]) 4 7 [0] (fun _ _ _ _ _ _ => by kernel_rfl) (by kernel_rfl) Try.call101 Try.call100 (fun w hs => kTagsLen (F := Lo F _) ((hat.one 3 rfl).move hs (lo_M hF) lo_F) (hm.move hs (lo_M hF) lo_F)) (fun A cp s w _ _ ho hr => by rw [show (IntKind.u32.wrap (0 + (IntKind.u32.wrap ((u.length : Nat) : Int))) : Int) = ((u.length : Nat) : Int) from wrap_u32_len _ hul]; exact kAppendUvarint u.length (by omega) A cp s w ho hr)
      ·
        exact ch_callG (f := 102) 4 [] (fun s => [.pointer (some ⟨b, o + 3, none⟩), s]) (fun _ _ _ _ _ _ => by kernel_rfl) (by kernel_rfl) Try.call102 (fun A cp s w hs hA ho hr => kAppendEach (F := Lo F _) ((hat.one 3 rfl).move hs (lo_M hF) lo_F) (hm.move hs (lo_M hF) lo_F) ho (lo_dis hF hA) hx hr)
    · exact ch_pick (e1 := []) [] (fun _ _ _ => by kernel_rfl) ch_skip
  exact chr_end (fun _ _ _ => by kernel_rfl)

def makeEnvelopeResponse (v : Int) (t : Tree) : Bs := aEnvelopeResponse (IntKind.i16.wrap v) (octOf (t.at_ 0)) (IntKind.i16.wrap (t.at_ 1).N) ((t.at_ 0).null) t.U
theorem mEnvelopeResponse (v : Int) (ct : List Value) (t : Tree) (w : World) (F : Nat → Nat → Prop) (ht : TreeR w F ct t) (hsort : Sorted t.U) (hul : t.U.length ≤ 1000000) (hxl : ∀ x ∈ t.U, x.2.length < 4294967296) (hb0 : (octOf (t.at_ 0)).length ≤ 1000000) (hroom : (makeEnvelopeResponse v t).length + 16 ≤ 1099511627776) : Calls Try.prog 16 #[.int .i64 v, .agg ct.toArray] w (FreshB w 5 (makeEnvelopeResponse v t)) := by
  obtain ⟨n5397, s5398, b5399, l5400, u5401, A5402, c5403, A5404, c5405, A5406, c5407, xs5408, rfl, rfl, h5410, h5411, h5412, h5413⟩ := ht.open_
  have hsm5415 := h5410.small
  have hsm5416 := h5411.small
  replace hsort : Sorted u5401 := hsort
  replace hul : u5401.length ≤ 1000000 := hul
  replace hxl : ∀ x ∈ u5401, x.2.length < 4294967296 := hxl
  refine enter (n := 17) Try.func16 rfl Try.ntmps16 (by kernel_rfl) fun a hE => ?_
  have hW := WOk.start w Nil
  refine go_seq_region [0, 1] (by kernel_rfl) ?_
  refine of_op (wpOp_box hW hE (d := 3) (cs := [.int .i64 n5397, .slice A5402 s5398.length c5403, .bool b5399, .slice A5404 l5400.length c5405, .slice A5406 u5401.length c5407]) (by kernel_rfl) fun b5417 a5418 w5419 hb5420 hz5421 hF5422 hW5423 hE5424 => ?_)
  clear hE hW
  refine go_runs [1] [] [0, 3] hW5423 hE5424 (env' := [(0, .v (.int .i64 v)), (3, .p 0 0)]) (by kernel_rfl) rfl fun a5425 hE5426 => ?_
  clear hE5424
  refine wpOps_nil ?_
  refine then_normal ?_
  refine go_seq_region [0, 1, 2] (by kernel_rfl) ?_
  refine go_runs [0] [1, 2] [0, 3, 6] hW5423 hE5426 (env' := [(0, .v (.int .i64 v)), (3, .p 0 0), (6, .v (.agg #[.int .i16 0, .slice none 0 0, .int .i16 0, .map none]))]) (by kernel_rfl) rfl fun a5427 hE5428 => ?_
  clear hE5426
  refine of_op (wpOp_box hW5423 hE5428 (d := 7) (cs := [.int .i16 0, .slice none 0 0, .int .i16 0, .map none]) (by kernel_rfl) fun b5429 a5430 w5431 hb5432 hz5433 hF5434 hW5435 hE5436 => ?_)
  clear hE5428 hW5423
  refine go_runs [2] [] [0, 3, 5] hW5435 hE5436 (env' := [(0, .v (.int .i64 v)), (3, .p 0 0), (5, .p 1 0)]) (by kernel_rfl) rfl fun a5437 hE5438 => ?_
  clear hE5436
  refine wpOps_nil ?_
  refine then_normal ?_
  refine go_seq_region [0, 1, 2, 3] (by kernel_rfl) ?_
  refine go_runs [0, 1, 2] [3] [3, 5, 8, 10] hW5435 hE5438 (env' := [(3, .p 0 0), (5, .p 1 0), (8, .p 1 0), (10, .v (.int .i16 (IntKind.i16.wrap v)))]) (by kernel_rfl) rfl fun a5439 hE5440 => ?_
  clear hE5438
  refine of_op (wpOp_inline hE5440 (f := 44) (vs := [.pointer (some ⟨b5429, 0, none⟩), .int .i16 (IntKind.i16.wrap v)]) (d := 11) (n' := 8) (by kernel_rfl) Try.call44 Try.func44 rfl Try.ntmps44 (by kernel_rfl) fun a5441 hE5442 => ?_)
  have hE5443 := hE5442.recast 0 (.v (.pointer (some ⟨b5429, 0, none⟩))) (.p 1 0) rfl rfl (Nat.le_of_ble_eq_true (n := 2) rfl)
  refine go_region [0, 1, 2, 3, 4] (by kernel_rfl) ?_
  refine go_runs [0, 1, 2, 3] [4] [5, 7] hW5435 hE5443 (env' := [(5, .v (.int .i16 (IntKind.i16.wrap v))), (7, .p 1 0)]) (by kernel_rfl) rfl fun a5444 hE5445 => ?_
  clear hE5443
  refine of_op (wpOp_store hW5435 hE5445 (oi := 1) (cs := [.int .i16 (IntKind.i16.wrap v), .slice none 0 0, .int .i16 0, .map none]) (by kernel_rfl) fun w5446 hF5447 hW5448 hE5449 => ?_)
  clear hE5445 hW5435
  refine wpOps_nil ?_
  refine leave_end hE5449 hW5448.cells (v := .tuple #[]) (by kernel_rfl) ?_
  refine ⟨_, rfl, fun a5450 hE5451 => ?_⟩
  have hE5452 : EnvOk 17 [⟨b5417, 0, [.int .i64 n5397, .slice A5402 s5398.length c5403, .bool b5399, .slice A5404 l5400.length c5405, .slice A5406 u5401.length c5407], true⟩, ⟨b5429, 0, [.int .i16 (IntKind.i16.wrap v), .slice none 0 0, .int .i16 0, .map none], true⟩] [(11, .v (.tuple #[])), (3, .p 0 0), (5, .p 1 0), (8, .p 1 0), (10, .v (.int .i16 (IntKind.i16.wrap v)))] _ := hE5451.places (⟨rfl, rfl, ⟨rfl, rfl, trivial⟩⟩)
  refine wpOps_nil ?_
  refine then_normal ?_
  refine go_seq_region [0, 1, 2] (by kernel_rfl) ?_
  refine go_runs [0, 1] [2] [5, 12, 13] hW5448 hE5452 (env' := [(5, .p 1 0), (12, .p 1 0), (13, .v (.agg #[.int .i64 n5397, .slice A5402 s5398.length c5403, .bool b5399, .slice A5404 l5400.length c5405, .slice A5406 u5401.length c5407]))]) (by kernel_rfl) rfl fun a5453 hE5454 => ?_
  clear hE5452
  refine of_op (wpOp_inline hE5454 (f := 45) (vs := [.pointer (some ⟨b5429, 0, none⟩), .agg #[.int .i64 n5397, .slice A5402 s5398.length c5403, .bool b5399, .slice A5404 l5400.length c5405, .slice A5406 u5401.length c5407]]) (d := 14) (n' := 35) (by kernel_rfl) Try.call45 Try.func45 rfl Try.ntmps45 (by kernel_rfl) fun a5455 hE5456 => ?_)
  have hE5457 := hE5456.recast 0 (.v (.pointer (some ⟨b5429, 0, none⟩))) (.p 1 0) rfl rfl (Nat.le_of_ble_eq_true (n := 2) rfl)
  refine go_seq_region [0] (by kernel_rfl) ?_
  refine of_op (wpOp_box hW5448 hE5457 (d := 3) (cs := [.int .i64 n5397, .slice A5402 s5398.length c5403, .bool b5399, .slice A5404 l5400.length c5405, .slice A5406 u5401.length c5407]) (by kernel_rfl) fun b5458 a5459 w5460 hb5461 hz5462 hF5463 hW5464 hE5465 => ?_)
  clear hE5457 hW5448
  refine wpOps_nil ?_
  refine then_normal ?_
  refine go_seq_region [0, 1, 2, 3, 4, 5, 6] (by kernel_rfl) ?_
  refine go_runs [0, 1] [2, 3, 4, 5, 6] [0, 3, 6, 7] hW5464 hE5465 (env' := [(0, .p 1 0), (3, .p 2 0), (6, .p 1 0), (7, .v (.agg #[.int .i64 n5397, .slice A5402 s5398.length c5403, .bool b5399, .slice A5404 l5400.length c5405, .slice A5406 u5401.length c5407]))]) (by kernel_rfl) rfl fun a5466 hE5467 => ?_
  clear hE5465
  refine of_op (wpOp_call hE5467 (f := 95) (vs := [.agg #[.int .i64 n5397, .slice A5402 s5398.length c5403, .bool b5399, .slice A5404 l5400.length c5405, .slice A5406 u5401.length c5407], .int .i64 0]) (d := 8) (by kernel_rfl) Try.call95 (iAt _ _ 0 _ _ (ht.move hW5464.step nilM hW5464.imm)) ?_)
  rintro e_ w5471 ⟨cs5470, rfl, hr5469, hs5468⟩
  have hr5472 := hr5469.move hs5468 nilM (fun b o h_ hb_ => hW5464.laid (G := F) hs5468 b o (.inl h_) (Nat.lt_of_lt_of_le hb_ hs5468.size))
  obtain ⟨n5473, s5474, b5475, l5476, u5477, A5478, c5479, A5480, c5481, A5482, c5483, xs5484, ht5490, hcs5485, h5486, h5487, h5488, h5489⟩ := hr5472.open_
  rw [hcs5485] at hr5472
  have hsm5491 := h5486.small
  have hsm5492 := h5487.small
  rw [hcs5485]
  refine ⟨_, rfl, fun a5493 hE5494 => ?_⟩
  have hW5495 := hW5464.next_nil hs5468
  have hF5496 := Fr.nil [⟨b5417, 0, [.int .i64 n5397, .slice A5402 s5398.length c5403, .bool b5399, .slice A5404 l5400.length c5405, .slice A5406 u5401.length c5407], true⟩, ⟨b5429, 0, [.int .i16 (IntKind.i16.wrap v), .slice none 0 0, .int .i16 0, .map none], true⟩, ⟨b5458, 0, [.int .i64 n5397, .slice A5402 s5398.length c5403, .bool b5399, .slice A5404 l5400.length c5405, .slice A5406 u5401.length c5407], true⟩] [] hs5468
  clear hE5467
  refine of_op (wpOp_call hE5494 (f := 94) (vs := [.agg #[.int .i64 n5473, .slice A5478 s5474.length c5479, .bool b5475, .slice A5480 l5476.length c5481, .slice A5482 u5477.length c5483]]) (d := 9) (by kernel_rfl) Try.call94 (kOctetsOf _ (Tree.at_ (Tree.mk n5397 s5398 b5399 l5400 u5401) 0) _ _ hr5472) ?_)
  rintro e_ w5503 ⟨A5500, c5501, rfl, hr5498, hn5499, hs5497⟩
  have hr5502 := hr5498.move (Step.refl _ Nil) nilM (hW5495.laid (G := F) hs5497)
  refine ⟨_, rfl, fun a5504 hE5505 => ?_⟩
  have hW5506 := hW5495.next_nil hs5497
  have hF5507 := Fr.nil [⟨b5417, 0, [.int .i64 n5397, .slice A5402 s5398.length c5403, .bool b5399, .slice A5404 l5400.length c5405, .slice A5406 u5401.length c5407], true⟩, ⟨b5429, 0, [.int .i16 (IntKind.i16.wrap v), .slice none 0 0, .int .i16 0, .map none], true⟩, ⟨b5458, 0, [.int .i64 n5397, .slice A5402 s5398.length c5403, .bool b5399, .slice A5404 l5400.length c5405, .slice A5406 u5401.length c5407], true⟩] [] hs5497
  clear hE5494
  refine go_runs [4, 5] [6] [0, 3, 9, 11] hW5506 hE5505 (env' := [(0, .p 1 0), (3, .p 2 0), (9, .v (.slice A5500 ((octOf (Tree.at_ (Tree.mk n5397 s5398 b5399 l5400 u5401) 0)).length) c5501)), (11, .p 1 1)]) (by kernel_rfl) rfl fun a5508 hE5509 => ?_
  clear hE5505
  refine of_op (wpOp_store hW5506 hE5509 (oi := 1) (cs := [.int .i16 (IntKind.i16.wrap v), .slice A5500 ((octOf (Tree.at_ (Tree.mk n5397 s5398 b5399 l5400 u5401) 0)).length) c5501, .int .i16 0, .map none]) (by kernel_rfl) fun w5510 hF5511 hW5512 hE5513 => ?_)
  clear hE5509 hW5506
  refine wpOps_nil ?_
  refine then_normal ?_
  refine go_seq_region [0, 1, 2, 3, 4, 5, 6, 7] (by kernel_rfl) ?_
  refine go_runs [0, 1] [2, 3, 4, 5, 6, 7] [0, 3, 12, 13] hW5512 hE5513 (env' := [(0, .p 1 0), (3, .p 2 0), (12, .p 1 0), (13, .v (.agg #[.int .i64 n5397, .slice A5402 s5398.length c5403, .bool b5399, .slice A5404 l5400.length c5405, .slice A5406 u5401.length c5407]))]) (by kernel_rfl) rfl fun a5514 hE5515 => ?_
  clear hE5513
  refine of_op (wpOp_call hE5515 (f := 95) (vs := [.agg #[.int .i64 n5397, .slice A5402 s5398.length c5403, .bool b5399, .slice A5404 l5400.length c5405, .slice A5406 u5401.length c5407], .int .i64 1]) (d := 14) (by kernel_rfl) Try.call95 (iAt _ _ 1 _ _ (ht.move hW5512.step nilM hW5512.imm)) ?_)
  rintro e_ w5519 ⟨cs5518, rfl, hr5517, hs5516⟩
  have hr5520 := hr5517.move hs5516 nilM (fun b o h_ hb_ => hW5512.laid (G := F) hs5516 b o (.inl h_) (Nat.lt_of_lt_of_le hb_ hs5516.size))
  obtain ⟨n5521, s5522, b5523, l5524, u5525, A5526, c5527, A5528, c5529, A5530, c5531, xs5532, ht5538, hcs5533, h5534, h5535, h5536, h5537⟩ := hr5520.open_
  rw [hcs5533] at hr5520
  have hsm5539 := h5534.small
  have hsm5540 := h5535.small
  rw [hcs5533]
  refine ⟨_, rfl, fun a5541 hE5542 => ?_⟩
  have hW5543 := hW5512.next_nil hs5516
  have hF5544 := Fr.nil [⟨b5417, 0, [.int .i64 n5397, .slice A5402 s5398.length c5403, .bool b5399, .slice A5404 l5400.length c5405, .slice A5406 u5401.length c5407], true⟩, ⟨b5429, 0, [.int .i16 (IntKind.i16.wrap v), .slice A5500 ((octOf (Tree.at_ (Tree.mk n5397 s5398 b5399 l5400 u5401) 0)).length) c5501, .int .i16 0, .map none], true⟩, ⟨b5458, 0, [.int .i64 n5397, .slice A5402 s5398.length c5403, .bool b5399, .slice A5404 l5400.length c5405, .slice A5406 u5401.length c5407], true⟩] [] hs5516
  clear hE5515
  refine go_runs [3, 4, 5, 6] [7] [0, 3, 16, 18] hW5543 hE5542 (env' := [(0, .p 1 0), (3, .p 2 0), (16, .v (.int .i16 (IntKind.i16.wrap n5521))), (18, .p 1 2)]) (by kernel_rfl) rfl fun a5545 hE5546 => ?_
  clear hE5542
  refine of_op (wpOp_store hW5543 hE5546 (oi := 1) (cs := [.int .i16 (IntKind.i16.wrap v), .slice A5500 ((octOf (Tree.at_ (Tree.mk n5397 s5398 b5399 l5400 u5401) 0)).length) c5501, .int .i16 (IntKind.i16.wrap n5521), .map none]) (by kernel_rfl) fun w5547 hF5548 hW5549 hE5550 => ?_)
  clear hE5546 hW5543
  refine wpOps_nil ?_
  refine then_normal ?_
  refine go_seq_region [0, 1, 2, 3] (by kernel_rfl) ?_
  refine go_runs [0, 1, 2, 3] [] [0, 20, 21, 22] hW5549 hE5550 (env' := [(0, .p 1 0), (20, .v (.slice A5406 u5401.length c5407)), (21, .v (.int .i64 ((u5401.length : Nat) : Int))), (22, .v (.int .i64 0))]) (by kernel_rfl) rfl fun a5551 hE5552 => ?_
  clear hE5550
  refine wpOps_nil ?_
  refine then_normal ?_
  refine wp_block ?_
  have hO0_ := (hr5502.move (Fr.trans (Fr.trans hF5511 hF5544) hF5548).step immM (Fr.trans (Fr.trans hF5511 hF5544) hF5548).to')
  have hpB := new_of hW5549 1 rfl (by kernel_rfl)
  have hE0 := hE5552.recast 0 (.p 1 0) (.v (.pointer (some ⟨b5429, 0, none⟩))) rfl rfl trivial
  have hE1 := (hE0.pick (ks := [0, 20, 21, 22]) (env' := [(0, .v (.pointer (some ⟨b5429, 0, none⟩))), (20, .v (.slice A5406 u5401.length c5407)), (21, .v (.int .i64 ((u5401.length : Nat) : Int))), (22, .v (.int .i64 0))]) (by kernel_rfl)).cutTb 0 (by kernel_rfl)
  refine wp_loop_ghost (fun q a_ w_ => ∃ (j : Nat) (m_ : Option Nat), q = u5401.length - j ∧ j ≤ u5401.length ∧ EnvOk 35 [] [(0, .v (.pointer (some ⟨b5429, 0, none⟩))), (20, .v (.slice A5406 u5401.length c5407)), (21, .v (.int .i64 ((u5401.length : Nat) : Int))), (22, .v (.int .i64 ((j : Nat) : Int)))] a_ ∧ TL w w5547 w_ F b5429 3 [.int .i16 (IntKind.i16.wrap v), .slice A5500 ((octOf (Tree.at_ (Tree.mk n5397 s5398 b5399 l5400 u5401) 0)).length) c5501, .int .i16 (IntKind.i16.wrap n5521), .map none] m_ (u5401.take j)) u5401.length
    ⟨0, none, by omega, by omega, hE1, TL.start hW5549 1 rfl rfl⟩ ?_
  rintro q aq wq ⟨j, m_, rfl, hj, hE2, hT⟩
  have hWq := WOk.start wq Nil
  refine go_seq_region [0] (by kernel_rfl) (go_runs [0] [] [0, 20, 21, 22, 23] hWq hE2 (env' := [(0, .v (.pointer (some ⟨b5429, 0, none⟩))), (20, .v (.slice A5406 u5401.length c5407)), (21, .v (.int .i64 ((u5401.length : Nat) : Int))), (22, .v (.int .i64 ((j : Nat) : Int))), (23, .v (.bool (decide (((j : Nat) : Int) < ((u5401.length : Nat) : Int)))))]) (by kernel_rfl) rfl fun aq2 hE3 => wpOps_nil (then_normal (wp_seq ?_)))
  refine cond_of hE3 (b := decide (((j : Nat) : Int) < ((u5401.length : Nat) : Int))) (by kernel_rfl) (fun hc => ?_) (fun hc => ?_)
  · have hlt : j < u5401.length := by have := of_decide_eq_true hc; omega
    refine wp_skip (then_normal (wp_seq (wp_block ?_)))
    obtain ⟨⟨k, x⟩, hu⟩ : ∃ y, u5401[j]? = some y := ⟨_, List.getElem?_eq_getElem hlt⟩
    obtain ⟨bb, bo, xA, xc, hA, hat, hxo, hk⟩ := tag_at h5413 hu
    refine go_seq_region [0, 1, 2, 3] (by kernel_rfl) ?_
    refine of_op (wpOp_index hE3 (t := 37) (e := 62) (size := 2) (bytes := 32) (d := 24) (b := bb) (o := bo) (m := u5401.length) (j := j) (by kernel_rfl) (by kernel_rfl) hA rfl hlt fun aq3 hE4 => ?_)
    refine of_op (wpOp_load hE4 (t := 62) (d := 25) (cs := [.int .u32 k, .slice xA x.length xc]) (v := .agg #[.int .u32 k, .slice xA x.length xc]) (by kernel_rfl) (by kernel_rfl) (hat.step_nil hT.step) fun aq4 hE5 => ?_)
    refine of_op (wpOp_alloc hWq hE5 (d := 5) (cs := [.int .u32 0, .slice none 0 0]) (by kernel_rfl) fun bx aq5 wq2 hbx hbx0 hFq2 hWq2 hE6 => ?_)
    refine of_op (wpOp_store hWq2 hE6 (oi := 0) (cs := [.int .u32 k, .slice xA x.length xc]) (by kernel_rfl) fun wq3 hFq3 hWq3 hE7 => wpOps_nil (then_normal ?_))
    have hWq4 := hWq3.drew
    refine region_draw (fun wz => CellsOk wz [⟨bx, 0, [.int .u32 k, .slice xA x.length xc], true⟩]) 8 (by kernel_rfl) ?_
    refine go_runsD [0, 1, 2, 3, 4, 5, 6] [0, 20, 21, 22, 28, 30, 32] 1 (by kernel_rfl) (panicFree_block (panicFree_then (panicFree_then (panicFree_block panicFree_body)))) (fun _ h => h) hWq4.cells hE7 (by kernel_rfl) (env' := [(0, .v (.pointer (some ⟨b5429, 0, none⟩))), (20, .v (.slice A5406 u5401.length c5407)), (21, .v (.int .i64 ((u5401.length : Nat) : Int))), (22, .v (.int .i64 ((j : Nat) : Int))), (28, .v (.pointer (some ⟨b5429, 3, none⟩))), (30, .v (.int .u32 k)), (32, .v (.slice xA x.length xc))]) (by kernel_rfl) rfl fun aq6 hE8 => ?_
    refine anyC_op (i := 7) (by kernel_rfl) (wpOp_call hE8 (f := 96) (vs := [.pointer (some ⟨b5429, 3, none⟩), .int .u32 k, .slice xA x.length xc]) (d := 33) (by kernel_rfl) Try.call96 ((hT.move hWq4.step).set hpB (by kernel_rfl) hsort hu hxo hk) ?_)
    rintro e_ wq5 ⟨rfl, hS5, r, hT5⟩
    refine ⟨_, rfl, fun aq7 hE9 => ⟨fun _ => hT.keeps (off := 3) (by kernel_rfl) hS5 hWq4.cells (fun ob hm => by rw [List.mem_singleton.1 hm]; exact Nat.le_of_eq hbx.symm), anyC_done (by kernel_rfl) (block_normal (then_normal ?_)) _⟩⟩
    have hE10 := (hE9.pick (ks := [0, 20, 21, 22]) (env' := [(0, .v (.pointer (some ⟨b5429, 0, none⟩))), (20, .v (.slice A5406 u5401.length c5407)), (21, .v (.int .i64 ((u5401.length : Nat) : Int))), (22, .v (.int .i64 ((j : Nat) : Int)))]) (by kernel_rfl)).cutTb 0 (by kernel_rfl)
    refine go_region [0, 1] (by kernel_rfl) (go_runs [0, 1] [] [0, 20, 21, 22] (WOk.start wq5 Nil) hE10 (env' := [(0, .v (.pointer (some ⟨b5429, 0, none⟩))), (20, .v (.slice A5406 u5401.length c5407)), (21, .v (.int .i64 ((u5401.length : Nat) : Int))), (22, .v (.int .i64 (IntKind.i64.wrap (((j : Nat) : Int) + 1))))]) (by kernel_rfl) rfl fun aq8 hE11 => wpOps_nil (then_normal ?_))
    rw [wrap_succ (by omega)] at hE11
    exact ⟨u5401.length - (j + 1), by omega, j + 1, some r, rfl, by omega, hE11, hT5⟩
  · obtain rfl : j = u5401.length := by have := of_decide_eq_false hc; omega
    refine wp_exit (then_exit (then_exit (block_exit ?_)))
    rw [List.take_length] at hT
    refine leave_end hE3 hWq.cells (v := .tuple #[]) (by kernel_rfl) ?_
    refine ⟨_, rfl, fun aq9 hE12 => ?_⟩
    have hE13 := ((hE12.recast 5 (.p 1 0) (.v (.pointer (some ⟨b5429, 0, none⟩))) rfl rfl trivial).pick (ks := [5]) (env' := [(5, .v (.pointer (some ⟨b5429, 0, none⟩)))]) (by kernel_rfl)).cutTb 0 (by kernel_rfl)
    refine wpOps_nil (then_normal ?_)
    refine go_seq_region [0, 1, 2] (by kernel_rfl) ?_
    refine go_runs [0] [1, 2] [15] hWq hE13 (env' := [(15, .v (.pointer (some ⟨b5429, 0, none⟩)))]) (by kernel_rfl) rfl fun aq10 hE14 => ?_
    have he : aEnvelopeResponse (IntKind.i16.wrap v) (octOf (Tree.at_ (Tree.mk n5397 s5398 b5399 l5400 u5401) 0)) (IntKind.i16.wrap n5521) A5500.isNone u5401 = makeEnvelopeResponse v (Tree.mk n5397 s5398 b5399 l5400 u5401) := by simp only [makeEnvelopeResponse, hn5499, ht5490, ht5538]; rfl
    rw [← he] at hroom ⊢
    refine of_op (wpOp_call hE14 (f := 46) (vs := [.pointer (some ⟨b5429, 0, none⟩), .slice none 0 0]) (d := 16) (by kernel_rfl) Try.call46 (kEnvelopeResponse (IntKind.i16.wrap v) (octOf (Tree.at_ (Tree.mk n5397 s5398 b5399 l5400 u5401) 0)) (IntKind.i16.wrap n5521) u5401 b5429 0 m_ A5500 c5501 none 0 [] _ _ hT.str.atF (hT.map hsort (tags_range h5413)) hul hxl (hO0_.move hT.keep (imm_off 1 rfl (by kernel_rfl)) (fun _ _ _ _ => trivial)) (by first | exact hb0 | omega) none_blk (World.ownsRow_nil _ 0 _ _) (by simpa using hroom)) ?_)
    rintro e_ wq6 ⟨A', c', rfl, ho, hs, hn⟩
    refine ⟨_, rfl, fun aq11 hE15 => ?_⟩
    refine go_runs [2] [] [4] (WOk.start wq6 Nil) hE15 (env' := [(4, .v (.slice A' ([] ++ aEnvelopeResponse (IntKind.i16.wrap v) (octOf (Tree.at_ (Tree.mk n5397 s5398 b5399 l5400 u5401) 0)) (IntKind.i16.wrap n5521) A5500.isNone u5401).length c'))]) (by kernel_rfl) rfl fun aq12 hE16 => wpOps_nil (then_normal (wp_ret ?_))
    refine leave hE16 (WOk.start wq6 Nil).cells (v := .slice A' ([] ++ aEnvelopeResponse (IntKind.i16.wrap v) (octOf (Tree.at_ (Tree.mk n5397 s5398 b5399 l5400 u5401) 0)) (IntKind.i16.wrap n5521) A5500.isNone u5401).length c') (by kernel_rfl) ?_
    exact fresh_of_app hT.step ⟨A', c', rfl, ho, hs, hn⟩

theorem xEnvelopeResponse (w : World) : Calls Try.prog 12 #[] w (Gives w (.int .i64 0)) := by
  refine enter (n := 4) Try.func12 rfl Try.ntmps12 (by kernel_rfl) fun a hE => ?_
  have hW := WOk.start w Nil
  refine go_seq_region [0] (by kernel_rfl) ?_
  refine go_runs [0] [] [] hW hE (env' := []) (by kernel_rfl) rfl fun a5589 hE5590 => ?_
  clear hE
  refine wpOps_nil ?_
  refine then_normal ?_
  refine go_seq_region [0, 1, 2, 3] (by kernel_rfl) ?_
  refine of_op (wpOp_inline hE5590 (f := 42) (vs := []) (d := 1) (n' := 3) (by kernel_rfl) Try.call42 Try.func42 rfl Try.ntmps42 (by kernel_rfl) fun a5591 hE5592 => ?_)
  refine go_seq_region [0] (by kernel_rfl) ?_
  refine go_runs [0] [] [] hW hE5592 (env' := []) (by kernel_rfl) rfl fun a5593 hE5594 => ?_
  clear hE5592
  refine wpOps_nil ?_
  refine then_normal ?_
  refine go_seq_region [0] (by kernel_rfl) ?_
  refine of_op (wpOp_alloc hW hE5594 (d := 1) (cs := [.int .i16 0, .slice none 0 0, .int .i16 0, .map none]) (by kernel_rfl) fun b5595 a5596 w5597 hb5598 hz5599 hF5600 hW5601 hE5602 => ?_)
  clear hE5594 hW
  refine wpOps_nil ?_
  refine then_normal ?_
  refine go_seq_region [0] (by kernel_rfl) ?_
  refine of_op (wpOp_inline hE5602 (f := 93) (vs := [.pointer (some ⟨b5595, 0, none⟩)]) (d := 2) (n' := 2) (by kernel_rfl) Try.call93 Try.func93 rfl Try.ntmps93 (by kernel_rfl) fun a5603 hE5604 => ?_)
  have hE5605 := hE5604.recast 0 (.v (.pointer (some ⟨b5595, 0, none⟩))) (.p 0 0) rfl rfl (Nat.le_of_ble_eq_true (n := 1) rfl)
  refine wp_skip ?_
  refine leave_end hE5605 hW5601.cells (v := .tuple #[]) (by kernel_rfl) ?_
  refine ⟨_, rfl, fun a5606 hE5607 => ?_⟩
  have hE5608 : EnvOk 3 [⟨b5595, 0, [.int .i16 0, .slice none 0 0, .int .i16 0, .map none], true⟩] [(2, .v (.tuple #[])), (1, .p 0 0)] _ := hE5607.places (⟨rfl, rfl, trivial⟩)
  refine wpOps_nil ?_
  refine then_normal ?_
  refine go_seq_region [0] (by kernel_rfl) ?_
  refine go_runs [0] [] [0] hW5601 hE5608 (env' := [(0, .p 0 0)]) (by kernel_rfl) rfl fun a5609 hE5610 => ?_
  clear hE5608
  refine wpOps_nil ?_
  refine then_normal ?_
  refine wp_ret ?_
  refine leave hE5610 hW5601.cells (v := .pointer (some ⟨b5595, 0, none⟩)) (by kernel_rfl) ?_
  refine ⟨_, rfl, fun a5611 hE5612 => ?_⟩
  have hE5613 : EnvOk 4 [⟨b5595, 0, [.int .i16 0, .slice none 0 0, .int .i16 0, .map none], true⟩] [(1, .v (.pointer (some ⟨b5595, 0, none⟩)))] _ := hE5612.places (trivial)
  refine of_op (wpOp_inline hE5613 (f := 43) (vs := [.pointer (some ⟨b5595, 0, none⟩)]) (d := 2) (n' := 3) (by kernel_rfl) Try.call43 Try.func43 rfl Try.ntmps43 (by kernel_rfl) fun a5614 hE5615 => ?_)
  refine go_seq_region [0] (by kernel_rfl) ?_
  refine go_runs [0] [] [] hW5601 hE5615 (env' := []) (by kernel_rfl) rfl fun a5616 hE5617 => ?_
  clear hE5615
  refine wpOps_nil ?_
  refine then_normal ?_
  refine go_seq_region [0] (by kernel_rfl) ?_
  refine go_runs [0] [] [2] hW5601 hE5617 (env' := [(2, .v (.int .i16 0))]) (by kernel_rfl) rfl fun a5618 hE5619 => ?_
  clear hE5617
  refine wpOps_nil ?_
  refine then_normal ?_
  refine wp_ret ?_
  refine leave hE5619 hW5601.cells (v := .int .i16 0) (by kernel_rfl) ?_
  refine ⟨_, rfl, fun a5620 hE5621 => ?_⟩
  have hE5622 : EnvOk 4 [⟨b5595, 0, [.int .i16 0, .slice none 0 0, .int .i16 0, .map none], true⟩] [(2, .v (.int .i16 0)), (1, .v (.pointer (some ⟨b5595, 0, none⟩)))] _ := hE5621.places (⟨rfl, rfl, trivial⟩)
  refine go_runs [2, 3] [] [0] hW5601 hE5622 (env' := [(0, .v (.int .i64 0))]) (by kernel_rfl) rfl fun a5623 hE5624 => ?_
  clear hE5622
  refine wpOps_nil ?_
  refine then_normal ?_
  refine wp_ret ?_
  refine leave hE5624 hW5601.cells (v := .int .i64 0) (by kernel_rfl) ?_
  exact ⟨rfl, hW5601.step⟩

theorem sEnvelopeResponse_depth : depths sEnvelopeResponseF ≤ 8 := by simp [sEnvelopeResponseF, Fld.depth.depths, Fld.depth]
theorem sEnvelopeResponse_plain : plains sEnvelopeResponseF := by simp [sEnvelopeResponseF, Fld.plain.plains, Fld.plain]

theorem lawEnvelopeResponse (x : Int) (hx : 0 ≤ x) (hx' : x < 256) (ct : List Value) (t : Tree) (w : World) (F : Nat → Nat → Prop) (ht : TreeR w F ct t) (hroom : (writeB 8 sEnvelopeResponseF sEnvelopeResponseX (Int.tmod x (0 + 1)) t).length ≤ 1099511627776) (hsort : Sorted (fitT (Int.tmod x (0 + 1)) 8 sEnvelopeResponseF t).U) (hul : (fitT (Int.tmod x (0 + 1)) 8 sEnvelopeResponseF t).U.length ≤ 1000000) (hxl : ∀ y ∈ (fitT (Int.tmod x (0 + 1)) 8 sEnvelopeResponseF t).U, y.2.length < 4294967296) (hb0 : (octOf ((fitT (Int.tmod x (0 + 1)) 8 sEnvelopeResponseF t).at_ 0)).length ≤ 1000000) (hmade : (makeEnvelopeResponse (Int.tmod x (0 + 1)) (fitT (Int.tmod x (0 + 1)) 8 sEnvelopeResponseF t)).length + 16 ≤ 1099511627776) (hpure : makeEnvelopeResponse (Int.tmod x (0 + 1)) (fitT (Int.tmod x (0 + 1)) 8 sEnvelopeResponseF t) = writeB 8 sEnvelopeResponseF sEnvelopeResponseX (Int.tmod x (0 + 1)) t) :
    Calls Try.prog 3 #[.int .u8 x, .agg ct.toArray] w (Gives w (.bool true)) := by
  obtain ⟨n5625, s5626, b5627, l5628, u5629, A5630, c5631, A5632, c5633, A5634, c5635, xs5636, rfl, rfl, h5638, h5639, h5640, h5641⟩ := ht.open_
  have hsm5643 := h5638.small
  have hsm5644 := h5639.small
  refine enter (n := 31) Try.func3 rfl Try.ntmps3 (by kernel_rfl) fun a hE => ?_
  have hW := WOk.start w Nil
  refine go_seq_region [0, 1] (by kernel_rfl) ?_
  refine of_op (wpOp_box hW hE (d := 3) (cs := [.int .i64 n5625, .slice A5630 s5626.length c5631, .bool b5627, .slice A5632 l5628.length c5633, .slice A5634 u5629.length c5635]) (by kernel_rfl) fun b5645 a5646 w5647 hb5648 hz5649 hF5650 hW5651 hE5652 => ?_)
  clear hE hW
  refine go_runs [1] [] [0, 3] hW5651 hE5652 (env' := [(0, .v (.int .u8 x)), (3, .p 0 0)]) (by kernel_rfl) rfl fun a5653 hE5654 => ?_
  clear hE5652
  refine wpOps_nil ?_
  refine then_normal ?_
  refine wp_seq ?_
  refine go_seq_region [0, 1, 2] (by kernel_rfl) ?_
  refine go_runs [0] [1, 2] [0, 3, 8] hW5651 hE5654 (env' := [(0, .v (.int .u8 x)), (3, .p 0 0), (8, .v (.agg #[.int .i64 n5625, .slice A5630 s5626.length c5631, .bool b5627, .slice A5632 l5628.length c5633, .slice A5634 u5629.length c5635]))]) (by kernel_rfl) rfl fun a5655 hE5656 => ?_
  clear hE5654
  refine of_op (wpOp_call hE5656 (f := 11) (vs := [.agg #[.int .i64 n5625, .slice A5630 s5626.length c5631, .bool b5627, .slice A5632 l5628.length c5633, .slice A5634 u5629.length c5635]]) (d := 9) (by kernel_rfl) Try.call11 (lFits1 _ _ _ _ (ht.move hW5651.step nilM hW5651.imm)) ?_)
  rintro e_ w5659 ⟨b5658, rfl, hs5657⟩
  refine ⟨_, rfl, fun a5660 hE5661 => ?_⟩
  have hW5662 := hW5651.next_nil hs5657
  have hF5663 := Fr.nil [⟨b5645, 0, [.int .i64 n5625, .slice A5630 s5626.length c5631, .bool b5627, .slice A5632 l5628.length c5633, .slice A5634 u5629.length c5635], true⟩] [] hs5657
  clear hE5656 hW5651
  refine go_runs [2] [] [0, 3, 10] hW5662 hE5661 (env' := [(0, .v (.int .u8 x)), (3, .p 0 0), (10, .v (.bool (!b5658)))]) (by kernel_rfl) rfl fun a5664 hE5665 => ?_
  clear hE5661
  refine wpOps_nil ?_
  refine then_normal ?_
  refine cond_of hE5665 (b := !b5658) (by kernel_rfl) (fun hc5666 => ?_) (fun hc5666 => ?_)
  ·
    refine go_seq_region [0] (by kernel_rfl) ?_
    refine go_runs [0] [] [4] hW5662 hE5665 (env' := [(4, .v (.bool true))]) (by kernel_rfl) rfl fun a5668 hE5669 => ?_
    clear hE5665
    refine wpOps_nil ?_
    refine then_normal ?_
    refine wp_ret ?_
    refine then_ret ?_
    refine leave hE5669 hW5662.cells (v := .bool true) (by kernel_rfl) ?_
    exact ⟨rfl, hW5662.step⟩
  ·
    refine wp_skip ?_
    refine then_normal ?_
    refine go_seq_region [0, 1] (by kernel_rfl) ?_
    refine of_op (wpOp_call hE5665 (f := 12) (vs := []) (d := 11) (by kernel_rfl) Try.call12 (xEnvelopeResponse _) ?_)
    rintro e_ w5672 ⟨rfl, hs5671⟩
    refine ⟨_, rfl, fun a5673 hE5674 => ?_⟩
    have hW5675 := hW5662.next_nil hs5671
    have hF5676 := Fr.nil [⟨b5645, 0, [.int .i64 n5625, .slice A5630 s5626.length c5631, .bool b5627, .slice A5632 l5628.length c5633, .slice A5634 u5629.length c5635], true⟩] [] hs5671
    clear hE5665 hW5662
    refine go_runs [1] [] [0, 3, 5] hW5675 hE5674 (env' := [(0, .v (.int .u8 x)), (3, .p 0 0), (5, .v (.int .i64 0))]) (by kernel_rfl) rfl fun a5677 hE5678 => ?_
    clear hE5674
    refine wpOps_nil ?_
    refine then_normal ?_
    refine wp_seq ?_
    refine go_seq_region [0, 1] (by kernel_rfl) ?_
    refine go_runs [0, 1] [] [0, 3, 5, 13] hW5675 hE5678 (env' := [(0, .v (.int .u8 x)), (3, .p 0 0), (5, .v (.int .i64 0)), (13, .v (.bool false))]) (by kernel_rfl) rfl fun a5679 hE5680 => ?_
    clear hE5678
    refine wpOps_nil ?_
    refine then_normal ?_
    refine cond_false hE5680 (b := false) (by kernel_rfl) rfl ?_
    refine wp_skip ?_
    refine then_normal ?_
    refine go_seq_region [0, 1, 2, 3, 4, 5, 6] (by kernel_rfl) ?_
    refine of_op (wpOp_call hE5680 (f := 13) (vs := []) (d := 14) (by kernel_rfl) Try.call13 (sEnvelopeResponse _ (Imm F w w5672 [⟨b5645, 0, [.int .i64 n5625, .slice A5630 s5626.length c5631, .bool b5627, .slice A5632 l5628.length c5633, .slice A5634 u5629.length c5635], true⟩] [])) ?_)
    rintro e_ w5685 ⟨A5683, c5684, rfl, hr5682, hs5681⟩
    obtain ⟨xs5686, h5687, h5688⟩ := hr5682.move (Step.refl _ Nil) nilM (hW5675.laid (G := F) hs5681)
    refine ⟨_, rfl, fun a5689 hE5690 => ?_⟩
    have hW5691 := hW5675.next_nil hs5681
    have hF5692 := Fr.nil [⟨b5645, 0, [.int .i64 n5625, .slice A5630 s5626.length c5631, .bool b5627, .slice A5632 l5628.length c5633, .slice A5634 u5629.length c5635], true⟩] [] hs5681
    clear hE5680
    refine go_runs [1, 2] [3, 4, 5, 6] [3, 14, 15, 16] hW5691 hE5690 (env' := [(3, .p 0 0), (14, .v (.agg #[.slice A5683 sEnvelopeResponseF.length c5684, .int .i64 sEnvelopeResponseX])), (15, .v (.int .u8 x)), (16, .v (.int .i64 0))]) (by kernel_rfl) rfl fun a5693 hE5694 => ?_
    clear hE5690
    refine of_op (wpOp_call hE5694 (f := 14) (vs := [.int .u8 x, .int .i64 0]) (d := 17) (by kernel_rfl) Try.call14 (lVersion x 0 hx hx' (by decide) (by decide) _) ?_)
    rintro e_ w5696 ⟨rfl, hs5695⟩
    refine ⟨_, rfl, fun a5697 hE5698 => ?_⟩
    have hW5699 := hW5691.next_nil hs5695
    have hF5700 := Fr.nil [⟨b5645, 0, [.int .i64 n5625, .slice A5630 s5626.length c5631, .bool b5627, .slice A5632 l5628.length c5633, .slice A5634 u5629.length c5635], true⟩] [] hs5695
    clear hE5694 hW5691
    refine of_op (wpOp_alloc hW5699 hE5698 (d := 6) (cs := [.slice none 0 0, .int .i64 0]) (by kernel_rfl) fun b5701 a5702 w5703 hb5704 hz5705 hF5706 hW5707 hE5708 => ?_)
    clear hE5698 hW5699
    refine of_op (wpOp_store hW5707 hE5708 (oi := 1) (cs := [.slice A5683 sEnvelopeResponseF.length c5684, .int .i64 sEnvelopeResponseX]) (by kernel_rfl) fun w5709 hF5710 hW5711 hE5712 => ?_)
    clear hE5708 hW5707
    refine go_runs [6] [] [3, 6, 7] hW5711 hE5712 (env' := [(3, .p 0 0), (6, .p 1 0), (7, .v (.int .i64 (Int.tmod x (0 + 1))))]) (by kernel_rfl) rfl fun a5713 hE5714 => ?_
    clear hE5712
    refine wpOps_nil ?_
    refine then_normal ?_
    refine go_seq_drawK 13 (by kernel_rfl) hW5711 fun w5715 hF5716 hW5717 hT5718 => ?_
    clear hW5711
    refine go_runsD [0, 1, 2, 3, 4, 8, 9, 10] [18, 20, 21, 22, 26, 27, 28] 6 (by kernel_rfl) (panicFree_then panicFree_body) (fun _ h => h.cells) hT5718 hE5714 (by kernel_rfl) (env' := [(18, .v (.int .i64 (Int.tmod x (0 + 1)))), (20, .v (.slice A5683 sEnvelopeResponseF.length c5684)), (21, .v (.int .i64 (Int.tmod x (0 + 1)))), (22, .v (.agg #[.int .i64 n5625, .slice A5630 s5626.length c5631, .bool b5627, .slice A5632 l5628.length c5633, .slice A5634 u5629.length c5635])), (26, .v (.agg #[.slice A5683 sEnvelopeResponseF.length c5684, .int .i64 sEnvelopeResponseX])), (27, .v (.int .i64 (Int.tmod x (0 + 1)))), (28, .v (.agg #[.int .i64 n5625, .slice A5630 s5626.length c5631, .bool b5627, .slice A5632 l5628.length c5633, .slice A5634 u5629.length c5635]))]) (by kernel_rfl) rfl fun a5719 hE5720 => ?_
    clear hE5714
    refine anyC_op (i := 5) (by kernel_rfl) (wpOp_call hE5720 (f := 18) (vs := [.slice A5683 sEnvelopeResponseF.length c5684, .int .i64 (Int.tmod x (0 + 1)), .agg #[.int .i64 n5625, .slice A5630 s5626.length c5631, .bool b5627, .slice A5632 l5628.length c5633, .slice A5634 u5629.length c5635]]) (d := 23) (by kernel_rfl) Try.call18 (sFitOK _ _ _ sEnvelopeResponseF (Int.tmod x (0 + 1)) _ (Tree.mk n5625 s5626 b5627 l5628 u5629) _ _ ⟨xs5686, (h5687.move (Fr.trans (Fr.trans (Fr.trans hF5700 hF5706) hF5710) hF5716).step immM (Fr.trans (Fr.trans (Fr.trans hF5700 hF5706) hF5710) hF5716).to'), (fun i_ x_ h_ => ((h5688 i_ x_ h_).move (Fr.trans (Fr.trans (Fr.trans hF5700 hF5706) hF5710) hF5716).step immM (Fr.trans (Fr.trans (Fr.trans hF5700 hF5706) hF5710) hF5716).to'))⟩ sEnvelopeResponse_plain sEnvelopeResponse_depth (ht.move hW5717.step nilM hW5717.imm)) ?_)
    rintro e_ w5724 ⟨cs5723, rfl, hr5722, hs5721⟩
    have hr5725 := hr5722.move (Step.refl _ Nil) nilM (hW5717.laid (G := F) hs5721)
    obtain ⟨n5726, s5727, b5728, l5729, u5730, A5731, c5732, A5733, c5734, A5735, c5736, xs5737, ht5743, hcs5738, h5739, h5740, h5741, h5742⟩ := hr5725.open_
    rw [hcs5738] at hr5725
    have hsm5744 := h5739.small
    have hsm5745 := h5740.small
    rw [hcs5738]
    refine ⟨_, rfl, fun a5746 hE5747 => ?_⟩
    have hW5748 := hW5717.next_nil hs5721
    have hF5749 := Fr.nil [⟨b5645, 0, [.int .i64 n5625, .slice A5630 s5626.length c5631, .bool b5627, .slice A5632 l5628.length c5633, .slice A5634 u5629.length c5635], true⟩, ⟨b5701, 0, [.slice A5683 sEnvelopeResponseF.length c5684, .int .i64 sEnvelopeResponseX], true⟩] [] hs5721
    clear hE5720
    have hT5750 : TT w5715 [⟨b5645, 0, [.int .i64 n5625, .slice A5630 s5626.length c5631, .bool b5627, .slice A5632 l5628.length c5633, .slice A5634 u5629.length c5635], true⟩, ⟨b5701, 0, [.slice A5683 sEnvelopeResponseF.length c5684, .int .i64 sEnvelopeResponseX], true⟩] [] w5724 := ⟨hW5748.cells, hF5749.step⟩
    refine ⟨fun _ => hT5750, ?_⟩
    refine anyC_op (i := 6) (by kernel_rfl) (wpOp_call hE5747 (f := 17) (vs := [.agg #[.int .i64 n5726, .slice A5731 s5727.length c5732, .bool b5728, .slice A5733 l5729.length c5734, .slice A5735 u5730.length c5736]]) (d := 24) (by kernel_rfl) Try.call17 (lGiven _ _ _ _ _ hr5725 (Nat.le_refl _)) ?_)
    rintro e_ w5754 ⟨cs5753, rfl, hr5752, hs5751⟩
    have hr5755 := hr5752.move (Step.refl _ Nil) nilM (hW5748.laid (G := F) hs5751)
    obtain ⟨n5756, s5757, b5758, l5759, u5760, A5761, c5762, A5763, c5764, A5765, c5766, xs5767, ht5773, hcs5768, h5769, h5770, h5771, h5772⟩ := hr5755.open_
    rw [hcs5768] at hr5755
    have hsm5774 := h5769.small
    have hsm5775 := h5770.small
    rw [hcs5768]
    refine ⟨_, rfl, fun a5776 hE5777 => ?_⟩
    have hW5778 := hW5748.next_nil hs5751
    have hF5779 := Fr.nil [⟨b5645, 0, [.int .i64 n5625, .slice A5630 s5626.length c5631, .bool b5627, .slice A5632 l5628.length c5633, .slice A5634 u5629.length c5635], true⟩, ⟨b5701, 0, [.slice A5683 sEnvelopeResponseF.length c5684, .int .i64 sEnvelopeResponseX], true⟩] [] hs5751
    clear hE5747
    have hT5780 : TT w5715 [⟨b5645, 0, [.int .i64 n5625, .slice A5630 s5626.length c5631, .bool b5627, .slice A5632 l5628.length c5633, .slice A5634 u5629.length c5635], true⟩, ⟨b5701, 0, [.slice A5683 sEnvelopeResponseF.length c5684, .int .i64 sEnvelopeResponseX], true⟩] [] w5754 := ⟨hW5778.cells, (Fr.trans hF5749 hF5779).step⟩
    refine ⟨fun _ => hT5780, ?_⟩
    refine anyC_op (i := 7) (by kernel_rfl) (wpOp_call hE5777 (f := 16) (vs := [.int .i64 (Int.tmod x (0 + 1)), .agg #[.int .i64 n5756, .slice A5761 s5757.length c5762, .bool b5758, .slice A5763 l5759.length c5764, .slice A5765 u5760.length c5766]]) (d := 25) (by kernel_rfl) Try.call16 (mEnvelopeResponse (Int.tmod x (0 + 1)) _ (fitT (Int.tmod x (0 + 1)) 8 sEnvelopeResponseF (Tree.mk n5625 s5626 b5627 l5628 u5629)) _ _ hr5755 hsort hul hxl hb0 hmade) ?_)
    rintro e_ w5785 ⟨A5783, c5784, rfl, ho5782, hs5781⟩
    refine ⟨_, rfl, fun a5786 hE5787 => ?_⟩
    have hW5788 := hW5778.fresh hs5781 (brow A5783 c5784 5 (makeEnvelopeResponse (Int.tmod x (0 + 1)) (fitT (Int.tmod x (0 + 1)) 8 sEnvelopeResponseF (Tree.mk n5625 s5626 b5627 l5628 u5629)))) (Nat.le_refl _) ho5782
    have hF5789 := Fr.fresh [⟨b5645, 0, [.int .i64 n5625, .slice A5630 s5626.length c5631, .bool b5627, .slice A5632 l5628.length c5633, .slice A5634 u5629.length c5635], true⟩, ⟨b5701, 0, [.slice A5683 sEnvelopeResponseF.length c5684, .int .i64 sEnvelopeResponseX], true⟩] [] hs5781 (brow A5783 c5784 5 (makeEnvelopeResponse (Int.tmod x (0 + 1)) (fitT (Int.tmod x (0 + 1)) 8 sEnvelopeResponseF (Tree.mk n5625 s5626 b5627 l5628 u5629)))) (Nat.le_refl _) ho5782
    clear hE5777 hW5778
    have hT5790 : TT w5715 [⟨b5645, 0, [.int .i64 n5625, .slice A5630 s5626.length c5631, .bool b5627, .slice A5632 l5628.length c5633, .slice A5634 u5629.length c5635], true⟩, ⟨b5701, 0, [.slice A5683 sEnvelopeResponseF.length c5684, .int .i64 sEnvelopeResponseX], true⟩] [] w5785 := ⟨hW5788.cells, (Fr.trans (Fr.trans hF5749 hF5779) hF5789).step⟩
    refine ⟨fun _ => hT5790, ?_⟩
    refine anyC_op (i := 11) (by kernel_rfl) (wpOp_call hE5787 (f := 19) (vs := [.agg #[.slice A5683 sEnvelopeResponseF.length c5684, .int .i64 sEnvelopeResponseX], .int .i64 (Int.tmod x (0 + 1)), .agg #[.int .i64 n5625, .slice A5630 s5626.length c5631, .bool b5627, .slice A5632 l5628.length c5633, .slice A5634 u5629.length c5635]]) (d := 29) (by kernel_rfl) Try.call19 (sWrite _ _ sEnvelopeResponseF sEnvelopeResponseX (Int.tmod x (0 + 1)) _ (Tree.mk n5625 s5626 b5627 l5628 u5629) _ _ ⟨xs5686, (h5687.move (Fr.trans (Fr.trans (Fr.trans (Fr.trans (Fr.trans (Fr.trans hF5700 hF5706) hF5710) hF5716) hF5749) hF5779) hF5789).step immM (Fr.trans (Fr.trans (Fr.trans (Fr.trans (Fr.trans (Fr.trans hF5700 hF5706) hF5710) hF5716) hF5749) hF5779) hF5789).to'), (fun i_ x_ h_ => ((h5688 i_ x_ h_).move (Fr.trans (Fr.trans (Fr.trans (Fr.trans (Fr.trans (Fr.trans hF5700 hF5706) hF5710) hF5716) hF5749) hF5779) hF5789).step immM (Fr.trans (Fr.trans (Fr.trans (Fr.trans (Fr.trans (Fr.trans hF5700 hF5706) hF5710) hF5716) hF5749) hF5779) hF5789).to'))⟩ sEnvelopeResponse_depth (ht.move hW5788.step nilM hW5788.imm) hroom) ?_)
    rintro e_ w5795 ⟨A5793, c5794, rfl, ho5792, hs5791⟩
    refine ⟨_, rfl, fun a5796 hE5797 => ?_⟩
    have hW5798 := hW5788.fresh hs5791 (brow A5793 c5794 5 (writeB 8 sEnvelopeResponseF sEnvelopeResponseX (Int.tmod x (0 + 1)) (Tree.mk n5625 s5626 b5627 l5628 u5629))) (Nat.le_refl _) ho5792
    have hF5799 := Fr.fresh [⟨b5645, 0, [.int .i64 n5625, .slice A5630 s5626.length c5631, .bool b5627, .slice A5632 l5628.length c5633, .slice A5634 u5629.length c5635], true⟩, ⟨b5701, 0, [.slice A5683 sEnvelopeResponseF.length c5684, .int .i64 sEnvelopeResponseX], true⟩] [brow A5783 c5784 5 (makeEnvelopeResponse (Int.tmod x (0 + 1)) (fitT (Int.tmod x (0 + 1)) 8 sEnvelopeResponseF (Tree.mk n5625 s5626 b5627 l5628 u5629)))] hs5791 (brow A5793 c5794 5 (writeB 8 sEnvelopeResponseF sEnvelopeResponseX (Int.tmod x (0 + 1)) (Tree.mk n5625 s5626 b5627 l5628 u5629))) (Nat.le_refl _) ho5792
    clear hE5787 hW5788
    have hT5800 : TT w5715 [⟨b5645, 0, [.int .i64 n5625, .slice A5630 s5626.length c5631, .bool b5627, .slice A5632 l5628.length c5633, .slice A5634 u5629.length c5635], true⟩, ⟨b5701, 0, [.slice A5683 sEnvelopeResponseF.length c5684, .int .i64 sEnvelopeResponseX], true⟩] [] w5795 := ⟨hW5798.cells, (Fr.trans (Fr.trans (Fr.trans hF5749 hF5779) hF5789) hF5799).step⟩
    refine ⟨fun _ => hT5800, ?_⟩
    refine anyC_op (i := 12) (by kernel_rfl) (wpOp_call hE5797 (f := 15) (vs := [.slice A5783 ((makeEnvelopeResponse (Int.tmod x (0 + 1)) (fitT (Int.tmod x (0 + 1)) 8 sEnvelopeResponseF (Tree.mk n5625 s5626 b5627 l5628 u5629))).length) c5784, .slice A5793 ((writeB 8 sEnvelopeResponseF sEnvelopeResponseX (Int.tmod x (0 + 1)) (Tree.mk n5625 s5626 b5627 l5628 u5629)).length) c5794]) (d := 30) (by kernel_rfl) Try.call15 (sSame _ _ _ _ (makeEnvelopeResponse (Int.tmod x (0 + 1)) (fitT (Int.tmod x (0 + 1)) 8 sEnvelopeResponseF (Tree.mk n5625 s5626 b5627 l5628 u5629))) (writeB 8 sEnvelopeResponseF sEnvelopeResponseX (Int.tmod x (0 + 1)) (Tree.mk n5625 s5626 b5627 l5628 u5629)) _ _ (octs_own (hW5798.own 0 _ rfl) (by first | omega | (simp only [be_length]; exact Nat.le_trans (widthI_le _) (by decide)) | (have := hroom; omega) | (have := hmade; omega)) (F := fun _ _ => True) (fun _ _ _ => trivial)) (octs_own (hW5798.own 1 _ rfl) (by first | omega | (simp only [be_length]; exact Nat.le_trans (widthI_le _) (by decide)) | (have := hroom; omega) | (have := hmade; omega)) (F := fun _ _ => True) (fun _ _ _ => trivial))) ?_)
    rintro e_ w5802 ⟨rfl, hs5801⟩
    refine ⟨_, rfl, fun a5803 hE5804 => ?_⟩
    have hW5805 := hW5798.next_nil hs5801
    have hF5806 := Fr.nil [⟨b5645, 0, [.int .i64 n5625, .slice A5630 s5626.length c5631, .bool b5627, .slice A5632 l5628.length c5633, .slice A5634 u5629.length c5635], true⟩, ⟨b5701, 0, [.slice A5683 sEnvelopeResponseF.length c5684, .int .i64 sEnvelopeResponseX], true⟩] [brow A5783 c5784 5 (makeEnvelopeResponse (Int.tmod x (0 + 1)) (fitT (Int.tmod x (0 + 1)) 8 sEnvelopeResponseF (Tree.mk n5625 s5626 b5627 l5628 u5629))), brow A5793 c5794 5 (writeB 8 sEnvelopeResponseF sEnvelopeResponseX (Int.tmod x (0 + 1)) (Tree.mk n5625 s5626 b5627 l5628 u5629))] hs5801
    clear hE5797 hW5798
    have hT5807 : TT w5715 [⟨b5645, 0, [.int .i64 n5625, .slice A5630 s5626.length c5631, .bool b5627, .slice A5632 l5628.length c5633, .slice A5634 u5629.length c5635], true⟩, ⟨b5701, 0, [.slice A5683 sEnvelopeResponseF.length c5684, .int .i64 sEnvelopeResponseX], true⟩] [] w5802 := ⟨hW5805.cells, (Fr.trans (Fr.trans (Fr.trans (Fr.trans hF5749 hF5779) hF5789) hF5799) hF5806).step⟩
    refine ⟨fun _ => hT5807, ?_⟩
    refine anyC_op (i := 13) (by kernel_rfl) (wpOp_pure [4] hW5805.cells hE5804 (env' := [(4, .v (.bool (decide (makeEnvelopeResponse (Int.tmod x (0 + 1)) (fitT (Int.tmod x (0 + 1)) 8 sEnvelopeResponseF (Tree.mk n5625 s5626 b5627 l5628 u5629)) = writeB 8 sEnvelopeResponseF sEnvelopeResponseX (Int.tmod x (0 + 1)) (Tree.mk n5625 s5626 b5627 l5628 u5629)))))]) (by kernel_rfl) fun a5808 hE5809 => ?_)
    clear hE5804
    refine ⟨fun h => absurd rfl h, ?_⟩
    refine anyC_done (by kernel_rfl) ?_ _
    refine then_normal ?_
    refine wp_ret ?_
    refine leave hE5809 hW5805.cells (v := .bool (decide (makeEnvelopeResponse (Int.tmod x (0 + 1)) (fitT (Int.tmod x (0 + 1)) 8 sEnvelopeResponseF (Tree.mk n5625 s5626 b5627 l5628 u5629)) = writeB 8 sEnvelopeResponseF sEnvelopeResponseX (Int.tmod x (0 + 1)) (Tree.mk n5625 s5626 b5627 l5628 u5629)))) (by kernel_rfl) ?_
    exact ⟨by rw [hpure]; simp, hW5805.step⟩

theorem pureEnvelopeResponse (v : Int) (h0 : 0 ≤ v) (h1 : v < 32768) (t : Tree) : makeEnvelopeResponse v (fitT v 8 sEnvelopeResponseF t) = writeB 8 sEnvelopeResponseF sEnvelopeResponseX v t := by
  have e1 : ((fitT v 8 sEnvelopeResponseF t).at_ 1).N = (t.at_ 1).N := fit_N (d := 7) (show sEnvelopeResponseF[1]? = _ from rfl) (by decide)
  have o0 := fit_o (v := v) (d := 7) (t := t) (show sEnvelopeResponseF[0]? = _ from rfl) (by decide)
  rw [makeEnvelopeResponse, aEnvelopeResponse, fit_U, tagsR_whole, wholeU_len, i16_small h0 h1, o0.1, o0.2]
  simp only [e1, be4_i32', be2_i16, be8_i64, be1_i8]
  by_cases n0 : Fld.nul (Fld.mk 9 0 (-1) 0 (-1) 0 0 []) v (t.at_ 0) = true <;> simp [writeB, sEnvelopeResponseX, partB, partW, bodyB, sEnvelopeResponseF, Fld.tag, Fld.has, fieldB, Fld.kind, Fld.null, valueB, widthI, tagsN, tagsK, knownI, h0, n0, countedB, uv0, h0]
theorem closeEnvelopeResponse (x : Int) (hx : 0 ≤ x ∧ x ≤ 255) (ct : List Value) (t : Tree) (w : World) (F : Nat → Nat → Prop) (ht : TreeR w F ct t) : Calls Try.prog 3 #[.int .u8 x, .agg ct.toArray] w (Gives w (.bool true)) := by
  obtain ⟨g0, g1⟩ := ver_ok (m := 0 + 1) hx.1 hx.2 (by decide) (by decide)
  obtain ⟨h1, h2, h3, h4⟩ := fit_ok ht (Int.tmod x (0 + 1)) 8 sEnvelopeResponseF
  have hp := pureEnvelopeResponse (Int.tmod x (0 + 1)) g0 g1 t
  have huv := uv_len_le (fitT (Int.tmod x (0 + 1)) 8 sEnvelopeResponseF t).U.length 5 (by omega) (by decide)
  have hb0 : (octOf ((fitT (Int.tmod x (0 + 1)) 8 sEnvelopeResponseF t).at_ 0)).length ≤ 1000000 := octs_le (d := 7) (show sEnvelopeResponseF[0]? = _ from rfl) (by decide)
  have hw0 := uv_len_le ((octOf ((fitT (Int.tmod x (0 + 1)) 8 sEnvelopeResponseF t).at_ 0)).length + 1) 5 (by omega) (by decide)
  have hu0 : (uv 0).length = 1 := by rw [uv0]; rfl
  have hm : (makeEnvelopeResponse (Int.tmod x (0 + 1)) (fitT (Int.tmod x (0 + 1)) 8 sEnvelopeResponseF t)).length + 16 ≤ 1099511627776 := by
    simp only [makeEnvelopeResponse, aEnvelopeResponse, List.length_append, be_length, List.length_nil]
    repeat' split
    all_goals (simp only [List.length_append, be_length, List.length_nil]; omega)
  exact lawEnvelopeResponse x hx.1 (by omega) ct t w F ht (by rw [← hp]; omega) h1 h2 h3 hb0 hm hp

end Go.Proofs.Ytbjopfcbpobnpaa.ME
