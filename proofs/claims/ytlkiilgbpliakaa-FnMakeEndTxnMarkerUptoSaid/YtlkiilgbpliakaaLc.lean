/- Contracts: printed by tools/sp.py. Own work. -/
import Derived.Test.YtlkiilgbpliakaaLb
namespace Go.Proofs.Ytlkiilgbpliakaa.ME
open Go
set_option linter.unusedVariables false
set_option linter.unusedSimpArgs false
set_option maxRecDepth 20000

theorem kAppendUint16 (A : Option Addr) (c : Nat) (s : List UInt8) (x : Int) (w : World) (ho : w.ownsRow 0 5 1 (.slice A s.length c) s.length (bc s)) (hroom : s.length + 16 ≤ 1099511627776) :
    Calls Try.prog 80 #[.slice A s.length c, .int .u16 x] w (AppPost w 5 A (s ++ be 2 x)) := by
  refine enter (n := 13) Try.func80 rfl Try.ntmps80 (by kernel_rfl) fun a hE => ?_
  have hW := WOk.startRow w ho
  refine go_seq_region [0] (by kernel_rfl) ?_
  refine go_runs [0] [] [0, 1] hW hE (env' := [(0, .v (.slice A s.length c)), (1, .v (.int .u16 x))]) (by kernel_rfl) rfl fun a4559 hE4560 => ?_
  clear hE
  refine wpOps_nil ?_
  refine then_normal ?_
  refine go_seq_region [0, 1, 2, 3, 4, 5, 6, 7, 8] (by kernel_rfl) ?_
  refine go_runs [0, 1, 2, 3, 4, 5] [6, 7, 8] [5, 8, 10] hW hE4560 (env' := [(5, .v (.slice A s.length c)), (8, .v (.int .u8 (IntKind.u8.wrap (Int.fdiv x 256)))), (10, .v (.int .u8 (IntKind.u8.wrap x)))]) (by kernel_rfl) rfl fun a4561 hE4562 => ?_
  clear hE4560
  refine wpOps_push hW hE4562 (k := 0) (e := 5) (size := 1) (len := 2) (cs := [.int .u8 (IntKind.u8.wrap (Int.fdiv x 256)), .int .u8 (IntKind.u8.wrap x)]) (d1 := 11) (d := 12) (by kernel_rfl) (t := 22) (bytes := 1) (by kernel_rfl) (fun _ => by kernel_rfl) rfl (by kernel_rfl) (by first | (have := hroom; omega) | (simp; done) | (simp; omega)) fun A4563 c4564 a4565 w4566 hF4567 hW4568 ⟨_, hE4569⟩ => ?_
  clear hE4562 hW
  have er4570 : (⟨A4563, c4564, 5, 1, s.length + 2, bc s ++ [.int .u8 (IntKind.u8.wrap (Int.fdiv x 256)), .int .u8 (IntKind.u8.wrap x)]⟩ : Rw) = brow A4563 c4564 5 (s ++ [by8 (Int.fdiv x 256), by8 x]) := brow_eq (by simp only [bc, List.map, by8_wrap]; try rfl) rfl
  have hW4571 : WOk _ _ _ _ [brow A4563 c4564 5 (s ++ [by8 (Int.fdiv x 256), by8 x])] := hW4568.castR (congrArg (fun r_ => List.set [⟨A4563, c4564, 5, 1, s.length + 2, bc s ++ [.int .u8 (IntKind.u8.wrap (Int.fdiv x 256)), .int .u8 (IntKind.u8.wrap x)]⟩] 0 r_) er4570)
  have hF4573 : Fr w4566 [] [⟨A4563, c4564, 5, 1, s.length + 2, bc s ++ [.int .u8 (IntKind.u8.wrap (Int.fdiv x 256)), .int .u8 (IntKind.u8.wrap x)]⟩] w4566 [] [brow A4563 c4564 5 (s ++ [by8 (Int.fdiv x 256), by8 x])] := Fr.castR (Fr.refl _ _ _) (congrArg (fun r_ => List.set [⟨A4563, c4564, 5, 1, s.length + 2, bc s ++ [.int .u8 (IntKind.u8.wrap (Int.fdiv x 256)), .int .u8 (IntKind.u8.wrap x)]⟩] 0 r_) er4570)
  clear hW4568
  have hE4574 := EnvOk.pick hE4569 (ks := [5, 8, 10, 12]) (env' := [(5, .v (.slice A s.length c)), (8, .v (.int .u8 (IntKind.u8.wrap (Int.fdiv x 256)))), (10, .v (.int .u8 (IntKind.u8.wrap x))), (12, .v (.slice A4563 (s.length + 2) c4564))]) (by kernel_rfl)
  have hE4572 := hE4574.cast (env' := [(5, .v (.slice A s.length c)), (8, .v (.int .u8 (IntKind.u8.wrap (Int.fdiv x 256)))), (10, .v (.int .u8 (IntKind.u8.wrap x))), (12, .v (.slice A4563 ((s ++ [by8 (Int.fdiv x 256), by8 x]).length) c4564))]) (by simp only [List.length_append, List.length_cons, List.length_nil, Nat.zero_add])
  clear hE4569
  clear hE4574
  refine go_runs [8] [] [4] hW4571 hE4572 (env' := [(4, .v (.slice A4563 ((s ++ [by8 (Int.fdiv x 256), by8 x]).length) c4564))]) (by kernel_rfl) rfl fun a4575 hE4576 => ?_
  clear hE4572
  refine wpOps_nil ?_
  refine then_normal ?_
  refine wp_ret ?_
  refine leave hE4576 hW4571.cells (v := .slice A4563 ((s ++ [by8 (Int.fdiv x 256), by8 x]).length) c4564) (by kernel_rfl) ?_
  have e0 : (s ++ [by8 (Int.fdiv x 256), by8 x]) = (s ++ be 2 x) := by simp [bc, be, by8_wrap, Int.fdiv_eq_ediv_of_nonneg]
  have h0 := app_end hW4571 0 rfl
  rw [e0] at h0
  have e1 : (s ++ [by8 (Int.fdiv x 256), by8 x]).length = (s ++ be 2 x).length := by rw [← e0]
  rw [e1]; exact h0

theorem kAppendUint32 (A : Option Addr) (c : Nat) (s : List UInt8) (x : Int) (w : World) (ho : w.ownsRow 0 5 1 (.slice A s.length c) s.length (bc s)) (hroom : s.length + 16 ≤ 1099511627776) :
    Calls Try.prog 81 #[.slice A s.length c, .int .u32 x] w (AppPost w 5 A (s ++ be 4 x)) := by
  refine enter (n := 19) Try.func81 rfl Try.ntmps81 (by kernel_rfl) fun a hE => ?_
  have hW := WOk.startRow w ho
  refine go_seq_region [0] (by kernel_rfl) ?_
  refine go_runs [0] [] [0, 1] hW hE (env' := [(0, .v (.slice A s.length c)), (1, .v (.int .u32 x))]) (by kernel_rfl) rfl fun a4577 hE4578 => ?_
  clear hE
  refine wpOps_nil ?_
  refine then_normal ?_
  refine go_seq_region [0, 1, 2, 3, 4, 5, 6, 7, 8, 9, 10, 11, 12, 13, 14] (by kernel_rfl) ?_
  refine go_runs [0, 1, 2, 3, 4, 5, 6, 7, 8, 9, 10, 11] [12, 13, 14] [5, 8, 11, 14, 16] hW hE4578 (env' := [(5, .v (.slice A s.length c)), (8, .v (.int .u8 (IntKind.u8.wrap (Int.fdiv x 16777216)))), (11, .v (.int .u8 (IntKind.u8.wrap (Int.fdiv x 65536)))), (14, .v (.int .u8 (IntKind.u8.wrap (Int.fdiv x 256)))), (16, .v (.int .u8 (IntKind.u8.wrap x)))]) (by kernel_rfl) rfl fun a4579 hE4580 => ?_
  clear hE4578
  refine wpOps_push hW hE4580 (k := 0) (e := 5) (size := 1) (len := 4) (cs := [.int .u8 (IntKind.u8.wrap (Int.fdiv x 16777216)), .int .u8 (IntKind.u8.wrap (Int.fdiv x 65536)), .int .u8 (IntKind.u8.wrap (Int.fdiv x 256)), .int .u8 (IntKind.u8.wrap x)]) (d1 := 17) (d := 18) (by kernel_rfl) (t := 22) (bytes := 1) (by kernel_rfl) (fun _ => by kernel_rfl) rfl (by kernel_rfl) (by first | (have := hroom; omega) | (simp; done) | (simp; omega)) fun A4581 c4582 a4583 w4584 hF4585 hW4586 ⟨_, hE4587⟩ => ?_
  clear hE4580 hW
  have er4588 : (⟨A4581, c4582, 5, 1, s.length + 4, bc s ++ [.int .u8 (IntKind.u8.wrap (Int.fdiv x 16777216)), .int .u8 (IntKind.u8.wrap (Int.fdiv x 65536)), .int .u8 (IntKind.u8.wrap (Int.fdiv x 256)), .int .u8 (IntKind.u8.wrap x)]⟩ : Rw) = brow A4581 c4582 5 (s ++ [by8 (Int.fdiv x 16777216), by8 (Int.fdiv x 65536), by8 (Int.fdiv x 256), by8 x]) := brow_eq (by simp only [bc, List.map, by8_wrap]; try rfl) rfl
  have hW4589 : WOk _ _ _ _ [brow A4581 c4582 5 (s ++ [by8 (Int.fdiv x 16777216), by8 (Int.fdiv x 65536), by8 (Int.fdiv x 256), by8 x])] := hW4586.castR (congrArg (fun r_ => List.set [⟨A4581, c4582, 5, 1, s.length + 4, bc s ++ [.int .u8 (IntKind.u8.wrap (Int.fdiv x 16777216)), .int .u8 (IntKind.u8.wrap (Int.fdiv x 65536)), .int .u8 (IntKind.u8.wrap (Int.fdiv x 256)), .int .u8 (IntKind.u8.wrap x)]⟩] 0 r_) er4588)
  have hF4591 : Fr w4584 [] [⟨A4581, c4582, 5, 1, s.length + 4, bc s ++ [.int .u8 (IntKind.u8.wrap (Int.fdiv x 16777216)), .int .u8 (IntKind.u8.wrap (Int.fdiv x 65536)), .int .u8 (IntKind.u8.wrap (Int.fdiv x 256)), .int .u8 (IntKind.u8.wrap x)]⟩] w4584 [] [brow A4581 c4582 5 (s ++ [by8 (Int.fdiv x 16777216), by8 (Int.fdiv x 65536), by8 (Int.fdiv x 256), by8 x])] := Fr.castR (Fr.refl _ _ _) (congrArg (fun r_ => List.set [⟨A4581, c4582, 5, 1, s.length + 4, bc s ++ [.int .u8 (IntKind.u8.wrap (Int.fdiv x 16777216)), .int .u8 (IntKind.u8.wrap (Int.fdiv x 65536)), .int .u8 (IntKind.u8.wrap (Int.fdiv x 256)), .int .u8 (IntKind.u8.wrap x)]⟩] 0 r_) er4588)
  clear hW4586
  have hE4592 := EnvOk.pick hE4587 (ks := [5, 8, 11, 14, 16, 18]) (env' := [(5, .v (.slice A s.length c)), (8, .v (.int .u8 (IntKind.u8.wrap (Int.fdiv x 16777216)))), (11, .v (.int .u8 (IntKind.u8.wrap (Int.fdiv x 65536)))), (14, .v (.int .u8 (IntKind.u8.wrap (Int.fdiv x 256)))), (16, .v (.int .u8 (IntKind.u8.wrap x))), (18, .v (.slice A4581 (s.length + 4) c4582))]) (by kernel_rfl)
  have hE4590 := hE4592.cast (env' := [(5, .v (.slice A s.length c)), (8, .v (.int .u8 (IntKind.u8.wrap (Int.fdiv x 16777216)))), (11, .v (.int .u8 (IntKind.u8.wrap (Int.fdiv x 65536)))), (14, .v (.int .u8 (IntKind.u8.wrap (Int.fdiv x 256)))), (16, .v (.int .u8 (IntKind.u8.wrap x))), (18, .v (.slice A4581 ((s ++ [by8 (Int.fdiv x 16777216), by8 (Int.fdiv x 65536), by8 (Int.fdiv x 256), by8 x]).length) c4582))]) (by simp only [List.length_append, List.length_cons, List.length_nil, Nat.zero_add])
  clear hE4587
  clear hE4592
  refine go_runs [14] [] [4] hW4589 hE4590 (env' := [(4, .v (.slice A4581 ((s ++ [by8 (Int.fdiv x 16777216), by8 (Int.fdiv x 65536), by8 (Int.fdiv x 256), by8 x]).length) c4582))]) (by kernel_rfl) rfl fun a4593 hE4594 => ?_
  clear hE4590
  refine wpOps_nil ?_
  refine then_normal ?_
  refine wp_ret ?_
  refine leave hE4594 hW4589.cells (v := .slice A4581 ((s ++ [by8 (Int.fdiv x 16777216), by8 (Int.fdiv x 65536), by8 (Int.fdiv x 256), by8 x]).length) c4582) (by kernel_rfl) ?_
  have e0 : (s ++ [by8 (Int.fdiv x 16777216), by8 (Int.fdiv x 65536), by8 (Int.fdiv x 256), by8 x]) = (s ++ be 4 x) := by simp [bc, be, by8_wrap, Int.fdiv_eq_ediv_of_nonneg]
  have h0 := app_end hW4589 0 rfl
  rw [e0] at h0
  have e1 : (s ++ [by8 (Int.fdiv x 16777216), by8 (Int.fdiv x 65536), by8 (Int.fdiv x 256), by8 x]).length = (s ++ be 4 x).length := by rw [← e0]
  rw [e1]; exact h0

theorem kAppendUint64 (A : Option Addr) (c : Nat) (s : List UInt8) (x : Int) (w : World) (ho : w.ownsRow 0 5 1 (.slice A s.length c) s.length (bc s)) (hroom : s.length + 16 ≤ 1099511627776) :
    Calls Try.prog 88 #[.slice A s.length c, .int .u64 x] w (AppPost w 5 A (s ++ be 8 x)) := by
  refine enter (n := 31) Try.func88 rfl Try.ntmps88 (by kernel_rfl) fun a hE => ?_
  have hW := WOk.startRow w ho
  refine go_seq_region [0] (by kernel_rfl) ?_
  refine go_runs [0] [] [0, 1] hW hE (env' := [(0, .v (.slice A s.length c)), (1, .v (.int .u64 x))]) (by kernel_rfl) rfl fun a4595 hE4596 => ?_
  clear hE
  refine wpOps_nil ?_
  refine then_normal ?_
  refine go_seq_region [0, 1, 2, 3, 4, 5, 6, 7, 8, 9, 10, 11, 12, 13, 14, 15, 16, 17, 18, 19, 20, 21, 22, 23, 24, 25, 26] (by kernel_rfl) ?_
  refine go_runs [0, 1, 2, 3, 4, 5, 6, 7, 8, 9, 10, 11, 12, 13, 14, 15, 16, 17, 18, 19, 20, 21, 22, 23] [24, 25, 26] [5, 8, 11, 14, 17, 20, 23, 26, 28] hW hE4596 (env' := [(5, .v (.slice A s.length c)), (8, .v (.int .u8 (IntKind.u8.wrap (Int.fdiv x 72057594037927936)))), (11, .v (.int .u8 (IntKind.u8.wrap (Int.fdiv x 281474976710656)))), (14, .v (.int .u8 (IntKind.u8.wrap (Int.fdiv x 1099511627776)))), (17, .v (.int .u8 (IntKind.u8.wrap (Int.fdiv x 4294967296)))), (20, .v (.int .u8 (IntKind.u8.wrap (Int.fdiv x 16777216)))), (23, .v (.int .u8 (IntKind.u8.wrap (Int.fdiv x 65536)))), (26, .v (.int .u8 (IntKind.u8.wrap (Int.fdiv x 256)))), (28, .v (.int .u8 (IntKind.u8.wrap x)))]) (by kernel_rfl) rfl fun a4597 hE4598 => ?_
  clear hE4596
  refine wpOps_push hW hE4598 (k := 0) (e := 5) (size := 1) (len := 8) (cs := [.int .u8 (IntKind.u8.wrap (Int.fdiv x 72057594037927936)), .int .u8 (IntKind.u8.wrap (Int.fdiv x 281474976710656)), .int .u8 (IntKind.u8.wrap (Int.fdiv x 1099511627776)), .int .u8 (IntKind.u8.wrap (Int.fdiv x 4294967296)), .int .u8 (IntKind.u8.wrap (Int.fdiv x 16777216)), .int .u8 (IntKind.u8.wrap (Int.fdiv x 65536)), .int .u8 (IntKind.u8.wrap (Int.fdiv x 256)), .int .u8 (IntKind.u8.wrap x)]) (d1 := 29) (d := 30) (by kernel_rfl) (t := 22) (bytes := 1) (by kernel_rfl) (fun _ => by kernel_rfl) rfl (by kernel_rfl) (by first | (have := hroom; omega) | (simp; done) | (simp; omega)) fun A4599 c4600 a4601 w4602 hF4603 hW4604 ⟨_, hE4605⟩ => ?_
  clear hE4598 hW
  have er4606 : (⟨A4599, c4600, 5, 1, s.length + 8, bc s ++ [.int .u8 (IntKind.u8.wrap (Int.fdiv x 72057594037927936)), .int .u8 (IntKind.u8.wrap (Int.fdiv x 281474976710656)), .int .u8 (IntKind.u8.wrap (Int.fdiv x 1099511627776)), .int .u8 (IntKind.u8.wrap (Int.fdiv x 4294967296)), .int .u8 (IntKind.u8.wrap (Int.fdiv x 16777216)), .int .u8 (IntKind.u8.wrap (Int.fdiv x 65536)), .int .u8 (IntKind.u8.wrap (Int.fdiv x 256)), .int .u8 (IntKind.u8.wrap x)]⟩ : Rw) = brow A4599 c4600 5 (s ++ [by8 (Int.fdiv x 72057594037927936), by8 (Int.fdiv x 281474976710656), by8 (Int.fdiv x 1099511627776), by8 (Int.fdiv x 4294967296), by8 (Int.fdiv x 16777216), by8 (Int.fdiv x 65536), by8 (Int.fdiv x 256), by8 x]) := brow_eq (by simp only [bc, List.map, by8_wrap]; try rfl) rfl
  have hW4607 : WOk _ _ _ _ [brow A4599 c4600 5 (s ++ [by8 (Int.fdiv x 72057594037927936), by8 (Int.fdiv x 281474976710656), by8 (Int.fdiv x 1099511627776), by8 (Int.fdiv x 4294967296), by8 (Int.fdiv x 16777216), by8 (Int.fdiv x 65536), by8 (Int.fdiv x 256), by8 x])] := hW4604.castR (congrArg (fun r_ => List.set [⟨A4599, c4600, 5, 1, s.length + 8, bc s ++ [.int .u8 (IntKind.u8.wrap (Int.fdiv x 72057594037927936)), .int .u8 (IntKind.u8.wrap (Int.fdiv x 281474976710656)), .int .u8 (IntKind.u8.wrap (Int.fdiv x 1099511627776)), .int .u8 (IntKind.u8.wrap (Int.fdiv x 4294967296)), .int .u8 (IntKind.u8.wrap (Int.fdiv x 16777216)), .int .u8 (IntKind.u8.wrap (Int.fdiv x 65536)), .int .u8 (IntKind.u8.wrap (Int.fdiv x 256)), .int .u8 (IntKind.u8.wrap x)]⟩] 0 r_) er4606)
  have hF4609 : Fr w4602 [] [⟨A4599, c4600, 5, 1, s.length + 8, bc s ++ [.int .u8 (IntKind.u8.wrap (Int.fdiv x 72057594037927936)), .int .u8 (IntKind.u8.wrap (Int.fdiv x 281474976710656)), .int .u8 (IntKind.u8.wrap (Int.fdiv x 1099511627776)), .int .u8 (IntKind.u8.wrap (Int.fdiv x 4294967296)), .int .u8 (IntKind.u8.wrap (Int.fdiv x 16777216)), .int .u8 (IntKind.u8.wrap (Int.fdiv x 65536)), .int .u8 (IntKind.u8.wrap (Int.fdiv x 256)), .int .u8 (IntKind.u8.wrap x)]⟩] w4602 [] [brow A4599 c4600 5 (s ++ [by8 (Int.fdiv x 72057594037927936), by8 (Int.fdiv x 281474976710656), by8 (Int.fdiv x 1099511627776), by8 (Int.fdiv x 4294967296), by8 (Int.fdiv x 16777216), by8 (Int.fdiv x 65536), by8 (Int.fdiv x 256), by8 x])] := Fr.castR (Fr.refl _ _ _) (congrArg (fun r_ => List.set [⟨A4599, c4600, 5, 1, s.length + 8, bc s ++ [.int .u8 (IntKind.u8.wrap (Int.fdiv x 72057594037927936)), .int .u8 (IntKind.u8.wrap (Int.fdiv x 281474976710656)), .int .u8 (IntKind.u8.wrap (Int.fdiv x 1099511627776)), .int .u8 (IntKind.u8.wrap (Int.fdiv x 4294967296)), .int .u8 (IntKind.u8.wrap (Int.fdiv x 16777216)), .int .u8 (IntKind.u8.wrap (Int.fdiv x 65536)), .int .u8 (IntKind.u8.wrap (Int.fdiv x 256)), .int .u8 (IntKind.u8.wrap x)]⟩] 0 r_) er4606)
  clear hW4604
  have hE4610 := EnvOk.pick hE4605 (ks := [5, 8, 11, 14, 17, 20, 23, 26, 28, 30]) (env' := [(5, .v (.slice A s.length c)), (8, .v (.int .u8 (IntKind.u8.wrap (Int.fdiv x 72057594037927936)))), (11, .v (.int .u8 (IntKind.u8.wrap (Int.fdiv x 281474976710656)))), (14, .v (.int .u8 (IntKind.u8.wrap (Int.fdiv x 1099511627776)))), (17, .v (.int .u8 (IntKind.u8.wrap (Int.fdiv x 4294967296)))), (20, .v (.int .u8 (IntKind.u8.wrap (Int.fdiv x 16777216)))), (23, .v (.int .u8 (IntKind.u8.wrap (Int.fdiv x 65536)))), (26, .v (.int .u8 (IntKind.u8.wrap (Int.fdiv x 256)))), (28, .v (.int .u8 (IntKind.u8.wrap x))), (30, .v (.slice A4599 (s.length + 8) c4600))]) (by kernel_rfl)
  have hE4608 := hE4610.cast (env' := [(5, .v (.slice A s.length c)), (8, .v (.int .u8 (IntKind.u8.wrap (Int.fdiv x 72057594037927936)))), (11, .v (.int .u8 (IntKind.u8.wrap (Int.fdiv x 281474976710656)))), (14, .v (.int .u8 (IntKind.u8.wrap (Int.fdiv x 1099511627776)))), (17, .v (.int .u8 (IntKind.u8.wrap (Int.fdiv x 4294967296)))), (20, .v (.int .u8 (IntKind.u8.wrap (Int.fdiv x 16777216)))), (23, .v (.int .u8 (IntKind.u8.wrap (Int.fdiv x 65536)))), (26, .v (.int .u8 (IntKind.u8.wrap (Int.fdiv x 256)))), (28, .v (.int .u8 (IntKind.u8.wrap x))), (30, .v (.slice A4599 ((s ++ [by8 (Int.fdiv x 72057594037927936), by8 (Int.fdiv x 281474976710656), by8 (Int.fdiv x 1099511627776), by8 (Int.fdiv x 4294967296), by8 (Int.fdiv x 16777216), by8 (Int.fdiv x 65536), by8 (Int.fdiv x 256), by8 x]).length) c4600))]) (by simp only [List.length_append, List.length_cons, List.length_nil, Nat.zero_add])
  clear hE4605
  clear hE4610
  refine go_runs [26] [] [4] hW4607 hE4608 (env' := [(4, .v (.slice A4599 ((s ++ [by8 (Int.fdiv x 72057594037927936), by8 (Int.fdiv x 281474976710656), by8 (Int.fdiv x 1099511627776), by8 (Int.fdiv x 4294967296), by8 (Int.fdiv x 16777216), by8 (Int.fdiv x 65536), by8 (Int.fdiv x 256), by8 x]).length) c4600))]) (by kernel_rfl) rfl fun a4611 hE4612 => ?_
  clear hE4608
  refine wpOps_nil ?_
  refine then_normal ?_
  refine wp_ret ?_
  refine leave hE4612 hW4607.cells (v := .slice A4599 ((s ++ [by8 (Int.fdiv x 72057594037927936), by8 (Int.fdiv x 281474976710656), by8 (Int.fdiv x 1099511627776), by8 (Int.fdiv x 4294967296), by8 (Int.fdiv x 16777216), by8 (Int.fdiv x 65536), by8 (Int.fdiv x 256), by8 x]).length) c4600) (by kernel_rfl) ?_
  have e0 : (s ++ [by8 (Int.fdiv x 72057594037927936), by8 (Int.fdiv x 281474976710656), by8 (Int.fdiv x 1099511627776), by8 (Int.fdiv x 4294967296), by8 (Int.fdiv x 16777216), by8 (Int.fdiv x 65536), by8 (Int.fdiv x 256), by8 x]) = (s ++ be 8 x) := by simp [bc, be, by8_wrap, Int.fdiv_eq_ediv_of_nonneg]
  have h0 := app_end hW4607 0 rfl
  rw [e0] at h0
  have e1 : (s ++ [by8 (Int.fdiv x 72057594037927936), by8 (Int.fdiv x 281474976710656), by8 (Int.fdiv x 1099511627776), by8 (Int.fdiv x 4294967296), by8 (Int.fdiv x 16777216), by8 (Int.fdiv x 65536), by8 (Int.fdiv x 256), by8 x]).length = (s ++ be 8 x).length := by rw [← e0]
  rw [e1]; exact h0

theorem kAppendInt16 (A : Option Addr) (c : Nat) (s : List UInt8) (x : Int) (w : World) (ho : w.ownsRow 0 5 1 (.slice A s.length c) s.length (bc s)) (hroom : s.length + 16 ≤ 1099511627776) :
    Calls Try.prog 60 #[.slice A s.length c, .int .i16 x] w (AppPost w 5 A (s ++ be 2 x)) := by
  refine enter (n := 9) Try.func60 rfl Try.ntmps60 (by kernel_rfl) fun a hE => ?_
  have hW := WOk.startRow w ho
  refine go_seq_region [0] (by kernel_rfl) ?_
  refine go_runs [0] [] [0, 1] hW hE (env' := [(0, .v (.slice A s.length c)), (1, .v (.int .i16 x))]) (by kernel_rfl) rfl fun a4613 hE4614 => ?_
  clear hE
  refine wpOps_nil ?_
  refine then_normal ?_
  refine go_seq_region [0, 1, 2, 3, 4] (by kernel_rfl) ?_
  refine go_runs [0, 1, 2] [3, 4] [5, 7] hW hE4614 (env' := [(5, .v (.slice A s.length c)), (7, .v (.int .u16 (IntKind.u16.wrap x)))]) (by kernel_rfl) rfl fun a4615 hE4616 => ?_
  clear hE4614
  refine of_op (wpOp_call hE4616 (f := 80) (vs := [.slice A s.length c, .int .u16 (IntKind.u16.wrap x)]) (d := 8) (by kernel_rfl) Try.call80 (kAppendUint16 A c s (IntKind.u16.wrap x) _ (hW.own 0 _ rfl) (by first | (have := hroom; omega) | (simp; done) | (simp; omega))) ?_)
  rintro e_ w4619 ⟨A4617, c4618, rfl, ho4621, hs4622, hn4623⟩
  refine ⟨_, rfl, fun a4620 hE4626 => ?_⟩
  have hW4625 : WOk _ _ _ _ [brow A4617 c4618 5 (s ++ be 2 (IntKind.u16.wrap x))] := hW.grow (k := 0) rfl hs4622 ho4621 hn4623
  have hF4624 : Fr _ [] [brow A c 5 s] _ [] [brow A4617 c4618 5 (s ++ be 2 (IntKind.u16.wrap x))] := Fr.grow _ (k := 0) (r' := (brow A4617 c4618 5 (s ++ be 2 (IntKind.u16.wrap x)))) rfl hs4622 hn4623
  clear hE4616 hW
  refine go_runs [4] [] [4] hW4625 hE4626 (env' := [(4, .v (.slice A4617 ((s ++ be 2 (IntKind.u16.wrap x)).length) c4618))]) (by kernel_rfl) rfl fun a4627 hE4628 => ?_
  clear hE4626
  refine wpOps_nil ?_
  refine then_normal ?_
  refine wp_ret ?_
  refine leave hE4628 hW4625.cells (v := .slice A4617 ((s ++ be 2 (IntKind.u16.wrap x)).length) c4618) (by kernel_rfl) ?_
  have e0 : (s ++ be 2 (IntKind.u16.wrap x)) = (s ++ be 2 x) := by rw [be2_wrap]
  have h0 := app_end hW4625 0 rfl
  rw [e0] at h0
  have e1 : (s ++ be 2 (IntKind.u16.wrap x)).length = (s ++ be 2 x).length := by rw [← e0]
  rw [e1]; exact h0

theorem kAppendInt32 (A : Option Addr) (c : Nat) (s : List UInt8) (x : Int) (w : World) (ho : w.ownsRow 0 5 1 (.slice A s.length c) s.length (bc s)) (hroom : s.length + 16 ≤ 1099511627776) :
    Calls Try.prog 61 #[.slice A s.length c, .int .i32 x] w (AppPost w 5 A (s ++ be 4 x)) := by
  refine enter (n := 9) Try.func61 rfl Try.ntmps61 (by kernel_rfl) fun a hE => ?_
  have hW := WOk.startRow w ho
  refine go_seq_region [0] (by kernel_rfl) ?_
  refine go_runs [0] [] [0, 1] hW hE (env' := [(0, .v (.slice A s.length c)), (1, .v (.int .i32 x))]) (by kernel_rfl) rfl fun a4629 hE4630 => ?_
  clear hE
  refine wpOps_nil ?_
  refine then_normal ?_
  refine go_seq_region [0, 1, 2, 3, 4] (by kernel_rfl) ?_
  refine go_runs [0, 1, 2] [3, 4] [5, 7] hW hE4630 (env' := [(5, .v (.slice A s.length c)), (7, .v (.int .u32 (IntKind.u32.wrap x)))]) (by kernel_rfl) rfl fun a4631 hE4632 => ?_
  clear hE4630
  refine of_op (wpOp_call hE4632 (f := 81) (vs := [.slice A s.length c, .int .u32 (IntKind.u32.wrap x)]) (d := 8) (by kernel_rfl) Try.call81 (kAppendUint32 A c s (IntKind.u32.wrap x) _ (hW.own 0 _ rfl) (by first | (have := hroom; omega) | (simp; done) | (simp; omega))) ?_)
  rintro e_ w4635 ⟨A4633, c4634, rfl, ho4637, hs4638, hn4639⟩
  refine ⟨_, rfl, fun a4636 hE4642 => ?_⟩
  have hW4641 : WOk _ _ _ _ [brow A4633 c4634 5 (s ++ be 4 (IntKind.u32.wrap x))] := hW.grow (k := 0) rfl hs4638 ho4637 hn4639
  have hF4640 : Fr _ [] [brow A c 5 s] _ [] [brow A4633 c4634 5 (s ++ be 4 (IntKind.u32.wrap x))] := Fr.grow _ (k := 0) (r' := (brow A4633 c4634 5 (s ++ be 4 (IntKind.u32.wrap x)))) rfl hs4638 hn4639
  clear hE4632 hW
  refine go_runs [4] [] [4] hW4641 hE4642 (env' := [(4, .v (.slice A4633 ((s ++ be 4 (IntKind.u32.wrap x)).length) c4634))]) (by kernel_rfl) rfl fun a4643 hE4644 => ?_
  clear hE4642
  refine wpOps_nil ?_
  refine then_normal ?_
  refine wp_ret ?_
  refine leave hE4644 hW4641.cells (v := .slice A4633 ((s ++ be 4 (IntKind.u32.wrap x)).length) c4634) (by kernel_rfl) ?_
  have e0 : (s ++ be 4 (IntKind.u32.wrap x)) = (s ++ be 4 x) := by rw [be4_wrap]
  have h0 := app_end hW4641 0 rfl
  rw [e0] at h0
  have e1 : (s ++ be 4 (IntKind.u32.wrap x)).length = (s ++ be 4 x).length := by rw [← e0]
  rw [e1]; exact h0

theorem kAppendInt64 (A : Option Addr) (c : Nat) (s : List UInt8) (x : Int) (w : World) (ho : w.ownsRow 0 5 1 (.slice A s.length c) s.length (bc s)) (hroom : s.length + 16 ≤ 1099511627776) :
    Calls Try.prog 79 #[.slice A s.length c, .int .i64 x] w (AppPost w 5 A (s ++ be 8 x)) := by
  refine enter (n := 9) Try.func79 rfl Try.ntmps79 (by kernel_rfl) fun a hE => ?_
  have hW := WOk.startRow w ho
  refine go_seq_region [0] (by kernel_rfl) ?_
  refine go_runs [0] [] [0, 1] hW hE (env' := [(0, .v (.slice A s.length c)), (1, .v (.int .i64 x))]) (by kernel_rfl) rfl fun a4645 hE4646 => ?_
  clear hE
  refine wpOps_nil ?_
  refine then_normal ?_
  refine go_seq_region [0, 1, 2, 3, 4] (by kernel_rfl) ?_
  refine go_runs [0, 1, 2] [3, 4] [5, 7] hW hE4646 (env' := [(5, .v (.slice A s.length c)), (7, .v (.int .u64 (IntKind.u64.wrap x)))]) (by kernel_rfl) rfl fun a4647 hE4648 => ?_
  clear hE4646
  refine of_op (wpOp_call hE4648 (f := 88) (vs := [.slice A s.length c, .int .u64 (IntKind.u64.wrap x)]) (d := 8) (by kernel_rfl) Try.call88 (kAppendUint64 A c s (IntKind.u64.wrap x) _ (hW.own 0 _ rfl) (by first | (have := hroom; omega) | (simp; done) | (simp; omega))) ?_)
  rintro e_ w4651 ⟨A4649, c4650, rfl, ho4653, hs4654, hn4655⟩
  refine ⟨_, rfl, fun a4652 hE4658 => ?_⟩
  have hW4657 : WOk _ _ _ _ [brow A4649 c4650 5 (s ++ be 8 (IntKind.u64.wrap x))] := hW.grow (k := 0) rfl hs4654 ho4653 hn4655
  have hF4656 : Fr _ [] [brow A c 5 s] _ [] [brow A4649 c4650 5 (s ++ be 8 (IntKind.u64.wrap x))] := Fr.grow _ (k := 0) (r' := (brow A4649 c4650 5 (s ++ be 8 (IntKind.u64.wrap x)))) rfl hs4654 hn4655
  clear hE4648 hW
  refine go_runs [4] [] [4] hW4657 hE4658 (env' := [(4, .v (.slice A4649 ((s ++ be 8 (IntKind.u64.wrap x)).length) c4650))]) (by kernel_rfl) rfl fun a4659 hE4660 => ?_
  clear hE4658
  refine wpOps_nil ?_
  refine then_normal ?_
  refine wp_ret ?_
  refine leave hE4660 hW4657.cells (v := .slice A4649 ((s ++ be 8 (IntKind.u64.wrap x)).length) c4650) (by kernel_rfl) ?_
  have e0 : (s ++ be 8 (IntKind.u64.wrap x)) = (s ++ be 8 x) := by rw [be8_wrap]
  have h0 := app_end hW4657 0 rfl
  rw [e0] at h0
  have e1 : (s ++ be 8 (IntKind.u64.wrap x)).length = (s ++ be 8 x).length := by rw [← e0]
  rw [e1]; exact h0

def makeEndTxnMarker (v : Int) (t : Tree) : Bs := be 2 (IntKind.i16.wrap v) ++ be 4 (IntKind.i32.wrap (t.at_ 0).N)

theorem mEndTxnMarker (v : Int) (ct : List Value) (t : Tree) (w : World) (F : Nat → Nat → Prop) (ht : TreeR w F ct t) : Calls Try.prog 11 #[.int .i64 v, .agg ct.toArray] w (FreshB w 5 (makeEndTxnMarker v t)) := by
  obtain ⟨n4661, s4662, b4663, l4664, u4665, A4666, c4667, A4668, c4669, A4670, c4671, xs4672, rfl, rfl, h4674, h4675, h4676, h4677⟩ := ht.open_
  have hsm4679 := h4674.small
  have hsm4680 := h4675.small
  refine enter (n := 15) Try.func11 rfl Try.ntmps11 (by kernel_rfl) fun a hE => ?_
  have hW := WOk.start w Nil
  refine go_seq_region [0, 1] (by kernel_rfl) ?_
  refine of_op (wpOp_box hW hE (d := 3) (cs := [.int .i64 n4661, .slice A4666 s4662.length c4667, .bool b4663, .slice A4668 l4664.length c4669, .slice A4670 u4665.length c4671]) (by kernel_rfl) fun b4681 a4682 w4683 hb4684 hz4685 hF4686 hW4687 hE4688 => ?_)
  clear hE hW
  refine go_runs [1] [] [0, 3] hW4687 hE4688 (env' := [(0, .v (.int .i64 v)), (3, .p 0 0)]) (by kernel_rfl) rfl fun a4689 hE4690 => ?_
  clear hE4688
  refine wpOps_nil ?_
  refine then_normal ?_
  refine go_seq_region [0, 1, 2, 3, 4] (by kernel_rfl) ?_
  refine go_runs [0, 1, 2] [3, 4] [3, 8] hW4687 hE4690 (env' := [(3, .p 0 0), (8, .v (.agg #[.int .i16 (IntKind.i16.wrap v), .int .i32 0]))]) (by kernel_rfl) rfl fun a4691 hE4692 => ?_
  clear hE4690
  refine of_op (wpOp_box hW4687 hE4692 (d := 9) (cs := [.int .i16 (IntKind.i16.wrap v), .int .i32 0]) (by kernel_rfl) fun b4693 a4694 w4695 hb4696 hz4697 hF4698 hW4699 hE4700 => ?_)
  clear hE4692 hW4687
  refine go_runs [4] [] [3, 5] hW4699 hE4700 (env' := [(3, .p 0 0), (5, .p 1 0)]) (by kernel_rfl) rfl fun a4701 hE4702 => ?_
  clear hE4700
  refine wpOps_nil ?_
  refine then_normal ?_
  refine go_seq_region [0, 1, 2] (by kernel_rfl) ?_
  refine go_runs [0, 1] [2] [5, 10, 11] hW4699 hE4702 (env' := [(5, .p 1 0), (10, .p 1 0), (11, .v (.agg #[.int .i64 n4661, .slice A4666 s4662.length c4667, .bool b4663, .slice A4668 l4664.length c4669, .slice A4670 u4665.length c4671]))]) (by kernel_rfl) rfl fun a4703 hE4704 => ?_
  clear hE4702
  refine of_op (wpOp_inline hE4704 (f := 30) (vs := [.pointer (some ⟨b4693, 0, none⟩), .agg #[.int .i64 n4661, .slice A4666 s4662.length c4667, .bool b4663, .slice A4668 l4664.length c4669, .slice A4670 u4665.length c4671]]) (d := 12) (n' := 11) (by kernel_rfl) Try.call30 Try.func30 rfl Try.ntmps30 (by kernel_rfl) fun a4705 hE4706 => ?_)
  have hE4707 := hE4706.recast 0 (.v (.pointer (some ⟨b4693, 0, none⟩))) (.p 1 0) rfl rfl (Nat.le_of_ble_eq_true (n := 2) rfl)
  refine go_seq_region [0] (by kernel_rfl) ?_
  refine of_op (wpOp_box hW4699 hE4707 (d := 3) (cs := [.int .i64 n4661, .slice A4666 s4662.length c4667, .bool b4663, .slice A4668 l4664.length c4669, .slice A4670 u4665.length c4671]) (by kernel_rfl) fun b4708 a4709 w4710 hb4711 hz4712 hF4713 hW4714 hE4715 => ?_)
  clear hE4707 hW4699
  refine wpOps_nil ?_
  refine then_normal ?_
  refine go_region [0, 1, 2, 3, 4, 5, 6, 7] (by kernel_rfl) ?_
  refine go_runs [0, 1] [2, 3, 4, 5, 6, 7] [4, 5] hW4714 hE4715 (env' := [(4, .p 1 0), (5, .v (.agg #[.int .i64 n4661, .slice A4666 s4662.length c4667, .bool b4663, .slice A4668 l4664.length c4669, .slice A4670 u4665.length c4671]))]) (by kernel_rfl) rfl fun a4716 hE4717 => ?_
  clear hE4715
  refine of_op (wpOp_call hE4717 (f := 59) (vs := [.agg #[.int .i64 n4661, .slice A4666 s4662.length c4667, .bool b4663, .slice A4668 l4664.length c4669, .slice A4670 u4665.length c4671], .int .i64 0]) (d := 6) (by kernel_rfl) Try.call59 (iAt _ _ 0 _ _ (ht.move hW4714.step nilM hW4714.imm)) ?_)
  rintro e_ w4721 ⟨cs4720, rfl, hr4719, hs4718⟩
  have hr4722 := hr4719.move hs4718 nilM (fun b o h_ hb_ => hW4714.laid (G := F) hs4718 b o (.inl h_) (Nat.lt_of_lt_of_le hb_ hs4718.size))
  obtain ⟨n4723, s4724, b4725, l4726, u4727, A4728, c4729, A4730, c4731, A4732, c4733, xs4734, ht4740, hcs4735, h4736, h4737, h4738, h4739⟩ := hr4722.open_
  rw [hcs4735] at hr4722
  have hsm4741 := h4736.small
  have hsm4742 := h4737.small
  rw [hcs4735]
  refine ⟨_, rfl, fun a4743 hE4744 => ?_⟩
  have hW4745 := hW4714.next_nil hs4718
  have hF4746 := Fr.nil [⟨b4681, 0, [.int .i64 n4661, .slice A4666 s4662.length c4667, .bool b4663, .slice A4668 l4664.length c4669, .slice A4670 u4665.length c4671], true⟩, ⟨b4693, 0, [.int .i16 (IntKind.i16.wrap v), .int .i32 0], true⟩, ⟨b4708, 0, [.int .i64 n4661, .slice A4666 s4662.length c4667, .bool b4663, .slice A4668 l4664.length c4669, .slice A4670 u4665.length c4671], true⟩] [] hs4718
  clear hE4717
  refine go_runs [3, 4, 5, 6] [7] [8, 10] hW4745 hE4744 (env' := [(8, .v (.int .i32 (IntKind.i32.wrap n4723))), (10, .p 1 1)]) (by kernel_rfl) rfl fun a4747 hE4748 => ?_
  clear hE4744
  refine of_op (wpOp_store hW4745 hE4748 (oi := 1) (cs := [.int .i16 (IntKind.i16.wrap v), .int .i32 (IntKind.i32.wrap n4723)]) (by kernel_rfl) fun w4749 hF4750 hW4751 hE4752 => ?_)
  clear hE4748 hW4745
  refine wpOps_nil ?_
  refine leave_end hE4752 hW4751.cells (v := .tuple #[]) (by kernel_rfl) ?_
  refine ⟨_, rfl, fun a4753 hE4754 => ?_⟩
  have hE4755 : EnvOk 15 [⟨b4681, 0, [.int .i64 n4661, .slice A4666 s4662.length c4667, .bool b4663, .slice A4668 l4664.length c4669, .slice A4670 u4665.length c4671], true⟩, ⟨b4693, 0, [.int .i16 (IntKind.i16.wrap v), .int .i32 (IntKind.i32.wrap n4723)], true⟩, ⟨b4708, 0, [.int .i64 n4661, .slice A4666 s4662.length c4667, .bool b4663, .slice A4668 l4664.length c4669, .slice A4670 u4665.length c4671], true⟩] [(12, .v (.tuple #[])), (5, .p 1 0), (10, .p 1 0), (11, .v (.agg #[.int .i64 n4661, .slice A4666 s4662.length c4667, .bool b4663, .slice A4668 l4664.length c4669, .slice A4670 u4665.length c4671]))] _ := hE4754.places (⟨rfl, rfl, ⟨rfl, rfl, trivial⟩⟩)
  refine wpOps_nil ?_
  refine then_normal ?_
  refine go_seq_region [0, 1, 2] (by kernel_rfl) ?_
  refine go_runs [0] [1, 2] [13] hW4751 hE4755 (env' := [(13, .p 1 0)]) (by kernel_rfl) rfl fun a4756 hE4757 => ?_
  clear hE4755
  refine of_op (wpOp_inline hE4757 (f := 31) (vs := [.pointer (some ⟨b4693, 0, none⟩), .slice none 0 0]) (d := 14) (n' := 28) (by kernel_rfl) Try.call31 Try.func31 rfl Try.ntmps31 (by kernel_rfl) fun a4758 hE4759 => ?_)
  have hE4760 := hE4759.recast 0 (.v (.pointer (some ⟨b4693, 0, none⟩))) (.p 1 0) rfl rfl (Nat.le_of_ble_eq_true (n := 2) rfl)
  refine go_seq_region [0] (by kernel_rfl) ?_
  refine go_runs [0] [] [0, 1] hW4751 hE4760 (env' := [(0, .p 1 0), (1, .v (.slice none 0 0))]) (by kernel_rfl) rfl fun a4761 hE4762 => ?_
  clear hE4760
  refine wpOps_nil ?_
  refine then_normal ?_
  refine go_seq_region [0, 1, 2, 3, 4] (by kernel_rfl) ?_
  refine go_runs [0, 1, 2, 3, 4] [] [0, 1, 5] hW4751 hE4762 (env' := [(0, .p 1 0), (1, .v (.slice none 0 0)), (5, .v (.int .i16 (IntKind.i16.wrap v)))]) (by kernel_rfl) rfl fun a4763 hE4764 => ?_
  clear hE4762
  refine wpOps_nil ?_
  refine then_normal ?_
  refine go_seq_region [0] (by kernel_rfl) ?_
  refine go_runs [0] [] [0, 1] hW4751 hE4764 (env' := [(0, .p 1 0), (1, .v (.slice none 0 0))]) (by kernel_rfl) rfl fun a4765 hE4766 => ?_
  clear hE4764
  refine wpOps_nil ?_
  refine then_normal ?_
  refine wp_seq ?_
  refine go_seq_region [0, 1, 2, 3, 4] (by kernel_rfl) ?_
  refine go_runs [0, 1, 2, 3, 4] [] [0, 1, 6] hW4751 hE4766 (env' := [(0, .p 1 0), (1, .v (.slice none 0 0)), (6, .v (.int .i16 (IntKind.i16.wrap v)))]) (by kernel_rfl) rfl fun a4767 hE4768 => ?_
  clear hE4766
  refine wpOps_nil ?_
  refine then_normal ?_
  refine go_region [0, 1, 2, 3] (by kernel_rfl) ?_
  refine go_runs [0, 1] [2, 3] [0, 17, 18] hW4751 hE4768 (env' := [(0, .p 1 0), (17, .v (.slice none 0 0)), (18, .v (.int .i16 (IntKind.i16.wrap v)))]) (by kernel_rfl) rfl fun a4769 hE4770 => ?_
  clear hE4768
  have hW4771 := hW4751.addNil 5 1
  have hF4772 := Fr.addNil w4749 [⟨b4681, 0, [.int .i64 n4661, .slice A4666 s4662.length c4667, .bool b4663, .slice A4668 l4664.length c4669, .slice A4670 u4665.length c4671], true⟩, ⟨b4693, 0, [.int .i16 (IntKind.i16.wrap v), .int .i32 (IntKind.i32.wrap n4723)], true⟩, ⟨b4708, 0, [.int .i64 n4661, .slice A4666 s4662.length c4667, .bool b4663, .slice A4668 l4664.length c4669, .slice A4670 u4665.length c4671], true⟩] [] 5 1
  clear hW4751
  refine of_op (wpOp_call hE4770 (f := 60) (vs := [.slice none 0 0, .int .i16 (IntKind.i16.wrap v)]) (d := 19) (by kernel_rfl) Try.call60 (kAppendInt16 none 0 [] (IntKind.i16.wrap v) _ (hW4771.own 0 _ rfl) (by first | (have := hroom; omega) | (simp; done) | (simp; omega))) ?_)
  rintro e_ w4775 ⟨A4773, c4774, rfl, ho4777, hs4778, hn4779⟩
  refine ⟨_, rfl, fun a4776 hE4782 => ?_⟩
  have hW4781 : WOk _ _ _ _ [brow A4773 c4774 5 (be 2 (IntKind.i16.wrap v))] := hW4771.grow (k := 0) rfl hs4778 ho4777 hn4779
  have hF4780 : Fr _ [⟨b4681, 0, [.int .i64 n4661, .slice A4666 s4662.length c4667, .bool b4663, .slice A4668 l4664.length c4669, .slice A4670 u4665.length c4671], true⟩, ⟨b4693, 0, [.int .i16 (IntKind.i16.wrap v), .int .i32 (IntKind.i32.wrap n4723)], true⟩, ⟨b4708, 0, [.int .i64 n4661, .slice A4666 s4662.length c4667, .bool b4663, .slice A4668 l4664.length c4669, .slice A4670 u4665.length c4671], true⟩] [brow none 0 5 []] _ [⟨b4681, 0, [.int .i64 n4661, .slice A4666 s4662.length c4667, .bool b4663, .slice A4668 l4664.length c4669, .slice A4670 u4665.length c4671], true⟩, ⟨b4693, 0, [.int .i16 (IntKind.i16.wrap v), .int .i32 (IntKind.i32.wrap n4723)], true⟩, ⟨b4708, 0, [.int .i64 n4661, .slice A4666 s4662.length c4667, .bool b4663, .slice A4668 l4664.length c4669, .slice A4670 u4665.length c4671], true⟩] [brow A4773 c4774 5 (be 2 (IntKind.i16.wrap v))] := Fr.grow _ (k := 0) (r' := (brow A4773 c4774 5 (be 2 (IntKind.i16.wrap v)))) rfl hs4778 hn4779
  clear hE4770 hW4771
  refine go_runs [3] [] [0, 1] hW4781 hE4782 (env' := [(0, .p 1 0), (1, .v (.slice A4773 ((be 2 (IntKind.i16.wrap v)).length) c4774))]) (by kernel_rfl) rfl fun a4783 hE4784 => ?_
  clear hE4782
  refine wpOps_nil ?_
  refine then_normal ?_
  refine wp_seq ?_
  refine go_seq_region [0, 1, 2, 3, 4] (by kernel_rfl) ?_
  refine go_runs [0, 1, 2, 3, 4] [] [1, 7] hW4781 hE4784 (env' := [(1, .v (.slice A4773 ((be 2 (IntKind.i16.wrap v)).length) c4774)), (7, .v (.int .i32 (IntKind.i32.wrap n4723)))]) (by kernel_rfl) rfl fun a4785 hE4786 => ?_
  clear hE4784
  refine wpOps_nil ?_
  refine then_normal ?_
  refine go_region [0, 1, 2, 3] (by kernel_rfl) ?_
  refine go_runs [0, 1] [2, 3] [24, 25] hW4781 hE4786 (env' := [(24, .v (.slice A4773 ((be 2 (IntKind.i16.wrap v)).length) c4774)), (25, .v (.int .i32 (IntKind.i32.wrap n4723)))]) (by kernel_rfl) rfl fun a4787 hE4788 => ?_
  clear hE4786
  refine of_op (wpOp_call hE4788 (f := 61) (vs := [.slice A4773 ((be 2 (IntKind.i16.wrap v)).length) c4774, .int .i32 (IntKind.i32.wrap n4723)]) (d := 26) (by kernel_rfl) Try.call61 (kAppendInt32 A4773 c4774 (be 2 (IntKind.i16.wrap v)) (IntKind.i32.wrap n4723) _ (hW4781.own 0 _ rfl) (by first | (have := hroom; omega) | (simp; done) | (simp; omega))) ?_)
  rintro e_ w4791 ⟨A4789, c4790, rfl, ho4793, hs4794, hn4795⟩
  refine ⟨_, rfl, fun a4792 hE4798 => ?_⟩
  have hW4797 : WOk _ _ _ _ [brow A4789 c4790 5 (be 2 (IntKind.i16.wrap v) ++ be 4 (IntKind.i32.wrap n4723))] := hW4781.grow (k := 0) rfl hs4794 ho4793 hn4795
  have hF4796 : Fr _ [⟨b4681, 0, [.int .i64 n4661, .slice A4666 s4662.length c4667, .bool b4663, .slice A4668 l4664.length c4669, .slice A4670 u4665.length c4671], true⟩, ⟨b4693, 0, [.int .i16 (IntKind.i16.wrap v), .int .i32 (IntKind.i32.wrap n4723)], true⟩, ⟨b4708, 0, [.int .i64 n4661, .slice A4666 s4662.length c4667, .bool b4663, .slice A4668 l4664.length c4669, .slice A4670 u4665.length c4671], true⟩] [brow A4773 c4774 5 (be 2 (IntKind.i16.wrap v))] _ [⟨b4681, 0, [.int .i64 n4661, .slice A4666 s4662.length c4667, .bool b4663, .slice A4668 l4664.length c4669, .slice A4670 u4665.length c4671], true⟩, ⟨b4693, 0, [.int .i16 (IntKind.i16.wrap v), .int .i32 (IntKind.i32.wrap n4723)], true⟩, ⟨b4708, 0, [.int .i64 n4661, .slice A4666 s4662.length c4667, .bool b4663, .slice A4668 l4664.length c4669, .slice A4670 u4665.length c4671], true⟩] [brow A4789 c4790 5 (be 2 (IntKind.i16.wrap v) ++ be 4 (IntKind.i32.wrap n4723))] := Fr.grow _ (k := 0) (r' := (brow A4789 c4790 5 (be 2 (IntKind.i16.wrap v) ++ be 4 (IntKind.i32.wrap n4723)))) rfl hs4794 hn4795
  clear hE4788 hW4781
  refine go_runs [3] [] [1] hW4797 hE4798 (env' := [(1, .v (.slice A4789 ((be 2 (IntKind.i16.wrap v) ++ be 4 (IntKind.i32.wrap n4723)).length) c4790))]) (by kernel_rfl) rfl fun a4799 hE4800 => ?_
  clear hE4798
  refine wpOps_nil ?_
  refine then_normal ?_
  refine go_seq_region [0, 1] (by kernel_rfl) ?_
  refine go_runs [0, 1] [] [4] hW4797 hE4800 (env' := [(4, .v (.slice A4789 ((be 2 (IntKind.i16.wrap v) ++ be 4 (IntKind.i32.wrap n4723)).length) c4790))]) (by kernel_rfl) rfl fun a4801 hE4802 => ?_
  clear hE4800
  refine wpOps_nil ?_
  refine then_normal ?_
  refine wp_ret ?_
  refine leave hE4802 hW4797.cells (v := .slice A4789 ((be 2 (IntKind.i16.wrap v) ++ be 4 (IntKind.i32.wrap n4723)).length) c4790) (by kernel_rfl) ?_
  refine ⟨_, rfl, fun a4803 hE4804 => ?_⟩
  have hE4805 : EnvOk 15 [⟨b4681, 0, [.int .i64 n4661, .slice A4666 s4662.length c4667, .bool b4663, .slice A4668 l4664.length c4669, .slice A4670 u4665.length c4671], true⟩, ⟨b4693, 0, [.int .i16 (IntKind.i16.wrap v), .int .i32 (IntKind.i32.wrap n4723)], true⟩, ⟨b4708, 0, [.int .i64 n4661, .slice A4666 s4662.length c4667, .bool b4663, .slice A4668 l4664.length c4669, .slice A4670 u4665.length c4671], true⟩] [(14, .v (.slice A4789 ((be 2 (IntKind.i16.wrap v) ++ be 4 (IntKind.i32.wrap n4723)).length) c4790)), (13, .p 1 0)] _ := hE4804.places (⟨rfl, rfl, ⟨rfl, rfl, ⟨rfl, rfl, trivial⟩⟩⟩)
  refine go_runs [2] [] [4] hW4797 hE4805 (env' := [(4, .v (.slice A4789 ((be 2 (IntKind.i16.wrap v) ++ be 4 (IntKind.i32.wrap n4723)).length) c4790))]) (by kernel_rfl) rfl fun a4806 hE4807 => ?_
  clear hE4805
  refine wpOps_nil ?_
  refine then_normal ?_
  refine wp_ret ?_
  refine leave hE4807 hW4797.cells (v := .slice A4789 ((be 2 (IntKind.i16.wrap v) ++ be 4 (IntKind.i32.wrap n4723)).length) c4790) (by kernel_rfl) ?_
  exact fresh_end hW4797 (k := 0) rfl (by simp only [makeEndTxnMarker, ht4740]; rfl)

end Go.Proofs.Ytlkiilgbpliakaa.ME
