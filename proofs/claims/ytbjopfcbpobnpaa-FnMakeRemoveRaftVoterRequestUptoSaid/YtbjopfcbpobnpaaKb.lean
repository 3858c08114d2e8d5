/- The contracts of kbin's appending functions: printed by tools/kb.py. Own work. -/
import Derived.Test.YtbjopfcbpobnpaaDb
import Derived.Test.YtbjopfcbpobnpaaProg
namespace Go.Proofs.Ytbjopfcbpobnpaa.ME
open Go
set_option linter.unusedVariables false
set_option linter.unusedSimpArgs false
set_option maxRecDepth 20000

theorem kAppendUint16 (A : Option Addr) (c : Nat) (s : List UInt8) (x : Int) (w : World) (ho : w.ownsRow 0 5 1 (.slice A s.length c) s.length (bc s)) (hroom : s.length + 16 ≤ 1099511627776) :
    Calls Try.prog 140 #[.slice A s.length c, .int .u16 x] w (AppPost w 5 A (s ++ be 2 x)) := by
  refine enter (n := 13) Try.func140 rfl Try.ntmps140 (by kernel_rfl) fun a hE => ?_
  have hW := WOk.startRow w ho
  refine go_seq_region [0] (by kernel_rfl) ?_
  refine go_runs [0] [] [0, 1] hW hE (env' := [(0, .v (.slice A s.length c)), (1, .v (.int .u16 x))]) (by kernel_rfl) rfl fun a1 hE2 => ?_
  clear hE
  refine wpOps_nil ?_
  refine then_normal ?_
  refine go_seq_region [0, 1, 2, 3, 4, 5, 6, 7, 8] (by kernel_rfl) ?_
  refine go_runs [0, 1, 2, 3, 4, 5] [6, 7, 8] [5, 8, 10] hW hE2 (env' := [(5, .v (.slice A s.length c)), (8, .v (.int .u8 (IntKind.u8.wrap (Int.fdiv x 256)))), (10, .v (.int .u8 (IntKind.u8.wrap x)))]) (by kernel_rfl) rfl fun a3 hE4 => ?_
  clear hE2
  refine wpOps_push hW hE4 (k := 0) (e := 5) (size := 1) (len := 2) (cs := [.int .u8 (IntKind.u8.wrap (Int.fdiv x 256)), .int .u8 (IntKind.u8.wrap x)]) (d1 := 11) (d := 12) (by kernel_rfl) (t := 22) (bytes := 1) (by kernel_rfl) (fun _ => by kernel_rfl) rfl (by kernel_rfl) (by first | (have := hroom; omega) | (simp; done) | (simp; omega)) fun A5 c6 a7 w8 hF9 hW10 ⟨_, hE11⟩ => ?_
  clear hE4 hW
  have er12 : (⟨A5, c6, 5, 1, s.length + 2, bc s ++ [.int .u8 (IntKind.u8.wrap (Int.fdiv x 256)), .int .u8 (IntKind.u8.wrap x)]⟩ : Rw) = brow A5 c6 5 (s ++ [by8 (Int.fdiv x 256), by8 x]) := brow_eq (by simp only [bc, List.map, by8_wrap]; try rfl) rfl
  have hW13 : WOk _ _ _ _ [brow A5 c6 5 (s ++ [by8 (Int.fdiv x 256), by8 x])] := hW10.castR (congrArg (fun r_ => List.set [⟨A5, c6, 5, 1, s.length + 2, bc s ++ [.int .u8 (IntKind.u8.wrap (Int.fdiv x 256)), .int .u8 (IntKind.u8.wrap x)]⟩] 0 r_) er12)
  have hF15 : Fr w8 [] [⟨A5, c6, 5, 1, s.length + 2, bc s ++ [.int .u8 (IntKind.u8.wrap (Int.fdiv x 256)), .int .u8 (IntKind.u8.wrap x)]⟩] w8 [] [brow A5 c6 5 (s ++ [by8 (Int.fdiv x 256), by8 x])] := Fr.castR (Fr.refl _ _ _) (congrArg (fun r_ => List.set [⟨A5, c6, 5, 1, s.length + 2, bc s ++ [.int .u8 (IntKind.u8.wrap (Int.fdiv x 256)), .int .u8 (IntKind.u8.wrap x)]⟩] 0 r_) er12)
  clear hW10
  have hE16 := EnvOk.pick hE11 (ks := [5, 8, 10, 12]) (env' := [(5, .v (.slice A s.length c)), (8, .v (.int .u8 (IntKind.u8.wrap (Int.fdiv x 256)))), (10, .v (.int .u8 (IntKind.u8.wrap x))), (12, .v (.slice A5 (s.length + 2) c6))]) (by kernel_rfl)
  have hE14 := hE16.cast (env' := [(5, .v (.slice A s.length c)), (8, .v (.int .u8 (IntKind.u8.wrap (Int.fdiv x 256)))), (10, .v (.int .u8 (IntKind.u8.wrap x))), (12, .v (.slice A5 ((s ++ [by8 (Int.fdiv x 256), by8 x]).length) c6))]) (by simp only [List.length_append, List.length_cons, List.length_nil, Nat.zero_add])
  clear hE11
  clear hE16
  refine go_runs [8] [] [4] hW13 hE14 (env' := [(4, .v (.slice A5 ((s ++ [by8 (Int.fdiv x 256), by8 x]).length) c6))]) (by kernel_rfl) rfl fun a17 hE18 => ?_
  clear hE14
  refine wpOps_nil ?_
  refine then_normal ?_
  refine wp_ret ?_
  refine leave hE18 hW13.cells (v := .slice A5 ((s ++ [by8 (Int.fdiv x 256), by8 x]).length) c6) (by kernel_rfl) ?_
  have e0 : (s ++ [by8 (Int.fdiv x 256), by8 x]) = (s ++ be 2 x) := by simp [bc, be, by8_wrap, Int.fdiv_eq_ediv_of_nonneg]
  have h0 := app_end hW13 0 rfl
  rw [e0] at h0
  have e1 : (s ++ [by8 (Int.fdiv x 256), by8 x]).length = (s ++ be 2 x).length := by rw [← e0]
  rw [e1]; exact h0

theorem kAppendUint32 (A : Option Addr) (c : Nat) (s : List UInt8) (x : Int) (w : World) (ho : w.ownsRow 0 5 1 (.slice A s.length c) s.length (bc s)) (hroom : s.length + 16 ≤ 1099511627776) :
    Calls Try.prog 148 #[.slice A s.length c, .int .u32 x] w (AppPost w 5 A (s ++ be 4 x)) := by
  refine enter (n := 19) Try.func148 rfl Try.ntmps148 (by kernel_rfl) fun a hE => ?_
  have hW := WOk.startRow w ho
  refine go_seq_region [0] (by kernel_rfl) ?_
  refine go_runs [0] [] [0, 1] hW hE (env' := [(0, .v (.slice A s.length c)), (1, .v (.int .u32 x))]) (by kernel_rfl) rfl fun a19 hE20 => ?_
  clear hE
  refine wpOps_nil ?_
  refine then_normal ?_
  refine go_seq_region [0, 1, 2, 3, 4, 5, 6, 7, 8, 9, 10, 11, 12, 13, 14] (by kernel_rfl) ?_
  refine go_runs [0, 1, 2, 3, 4, 5, 6, 7, 8, 9, 10, 11] [12, 13, 14] [5, 8, 11, 14, 16] hW hE20 (env' := [(5, .v (.slice A s.length c)), (8, .v (.int .u8 (IntKind.u8.wrap (Int.fdiv x 16777216)))), (11, .v (.int .u8 (IntKind.u8.wrap (Int.fdiv x 65536)))), (14, .v (.int .u8 (IntKind.u8.wrap (Int.fdiv x 256)))), (16, .v (.int .u8 (IntKind.u8.wrap x)))]) (by kernel_rfl) rfl fun a21 hE22 => ?_
  clear hE20
  refine wpOps_push hW hE22 (k := 0) (e := 5) (size := 1) (len := 4) (cs := [.int .u8 (IntKind.u8.wrap (Int.fdiv x 16777216)), .int .u8 (IntKind.u8.wrap (Int.fdiv x 65536)), .int .u8 (IntKind.u8.wrap (Int.fdiv x 256)), .int .u8 (IntKind.u8.wrap x)]) (d1 := 17) (d := 18) (by kernel_rfl) (t := 22) (bytes := 1) (by kernel_rfl) (fun _ => by kernel_rfl) rfl (by kernel_rfl) (by first | (have := hroom; omega) | (simp; done) | (simp; omega)) fun A23 c24 a25 w26 hF27 hW28 ⟨_, hE29⟩ => ?_
  clear hE22 hW
  have er30 : (⟨A23, c24, 5, 1, s.length + 4, bc s ++ [.int .u8 (IntKind.u8.wrap (Int.fdiv x 16777216)), .int .u8 (IntKind.u8.wrap (Int.fdiv x 65536)), .int .u8 (IntKind.u8.wrap (Int.fdiv x 256)), .int .u8 (IntKind.u8.wrap x)]⟩ : Rw) = brow A23 c24 5 (s ++ [by8 (Int.fdiv x 16777216), by8 (Int.fdiv x 65536), by8 (Int.fdiv x 256), by8 x]) := brow_eq (by simp only [bc, List.map, by8_wrap]; try rfl) rfl
  have hW31 : WOk _ _ _ _ [brow A23 c24 5 (s ++ [by8 (Int.fdiv x 16777216), by8 (Int.fdiv x 65536), by8 (Int.fdiv x 256), by8 x])] := hW28.castR (congrArg (fun r_ => List.set [⟨A23, c24, 5, 1, s.length + 4, bc s ++ [.int .u8 (IntKind.u8.wrap (Int.fdiv x 16777216)), .int .u8 (IntKind.u8.wrap (Int.fdiv x 65536)), .int .u8 (IntKind.u8.wrap (Int.fdiv x 256)), .int .u8 (IntKind.u8.wrap x)]⟩] 0 r_) er30)
  have hF33 : Fr w26 [] [⟨A23, c24, 5, 1, s.length + 4, bc s ++ [.int .u8 (IntKind.u8.wrap (Int.fdiv x 16777216)), .int .u8 (IntKind.u8.wrap (Int.fdiv x 65536)), .int .u8 (IntKind.u8.wrap (Int.fdiv x 256)), .int .u8 (IntKind.u8.wrap x)]⟩] w26 [] [brow A23 c24 5 (s ++ [by8 (Int.fdiv x 16777216), by8 (Int.fdiv x 65536), by8 (Int.fdiv x 256), by8 x])] := Fr.castR (Fr.refl _ _ _) (congrArg (fun r_ => List.set [⟨A23, c24, 5, 1, s.length + 4, bc s ++ [.int .u8 (IntKind.u8.wrap (Int.fdiv x 16777216)), .int .u8 (IntKind.u8.wrap (Int.fdiv x 65536)), .int .u8 (IntKind.u8.wrap (Int.fdiv x 256)), .int .u8 (IntKind.u8.wrap x)]⟩] 0 r_) er30)
  clear hW28
  have hE34 := EnvOk.pick hE29 (ks := [5, 8, 11, 14, 16, 18]) (env' := [(5, .v (.slice A s.length c)), (8, .v (.int .u8 (IntKind.u8.wrap (Int.fdiv x 16777216)))), (11, .v (.int .u8 (IntKind.u8.wrap (Int.fdiv x 65536)))), (14, .v (.int .u8 (IntKind.u8.wrap (Int.fdiv x 256)))), (16, .v (.int .u8 (IntKind.u8.wrap x))), (18, .v (.slice A23 (s.length + 4) c24))]) (by kernel_rfl)
  have hE32 := hE34.cast (env' := [(5, .v (.slice A s.length c)), (8, .v (.int .u8 (IntKind.u8.wrap (Int.fdiv x 16777216)))), (11, .v (.int .u8 (IntKind.u8.wrap (Int.fdiv x 65536)))), (14, .v (.int .u8 (IntKind.u8.wrap (Int.fdiv x 256)))), (16, .v (.int .u8 (IntKind.u8.wrap x))), (18, .v (.slice A23 ((s ++ [by8 (Int.fdiv x 16777216), by8 (Int.fdiv x 65536), by8 (Int.fdiv x 256), by8 x]).length) c24))]) (by simp only [List.length_append, List.length_cons, List.length_nil, Nat.zero_add])
  clear hE29
  clear hE34
  refine go_runs [14] [] [4] hW31 hE32 (env' := [(4, .v (.slice A23 ((s ++ [by8 (Int.fdiv x 16777216), by8 (Int.fdiv x 65536), by8 (Int.fdiv x 256), by8 x]).length) c24))]) (by kernel_rfl) rfl fun a35 hE36 => ?_
  clear hE32
  refine wpOps_nil ?_
  refine then_normal ?_
  refine wp_ret ?_
  refine leave hE36 hW31.cells (v := .slice A23 ((s ++ [by8 (Int.fdiv x 16777216), by8 (Int.fdiv x 65536), by8 (Int.fdiv x 256), by8 x]).length) c24) (by kernel_rfl) ?_
  have e0 : (s ++ [by8 (Int.fdiv x 16777216), by8 (Int.fdiv x 65536), by8 (Int.fdiv x 256), by8 x]) = (s ++ be 4 x) := by simp [bc, be, by8_wrap, Int.fdiv_eq_ediv_of_nonneg]
  have h0 := app_end hW31 0 rfl
  rw [e0] at h0
  have e1 : (s ++ [by8 (Int.fdiv x 16777216), by8 (Int.fdiv x 65536), by8 (Int.fdiv x 256), by8 x]).length = (s ++ be 4 x).length := by rw [← e0]
  rw [e1]; exact h0

theorem kAppendUint64 (A : Option Addr) (c : Nat) (s : List UInt8) (x : Int) (w : World) (ho : w.ownsRow 0 5 1 (.slice A s.length c) s.length (bc s)) (hroom : s.length + 16 ≤ 1099511627776) :
    Calls Try.prog 152 #[.slice A s.length c, .int .u64 x] w (AppPost w 5 A (s ++ be 8 x)) := by
  refine enter (n := 31) Try.func152 rfl Try.ntmps152 (by kernel_rfl) fun a hE => ?_
  have hW := WOk.startRow w ho
  refine go_seq_region [0] (by kernel_rfl) ?_
  refine go_runs [0] [] [0, 1] hW hE (env' := [(0, .v (.slice A s.length c)), (1, .v (.int .u64 x))]) (by kernel_rfl) rfl fun a37 hE38 => ?_
  clear hE
  refine wpOps_nil ?_
  refine then_normal ?_
  refine go_seq_region [0, 1, 2, 3, 4, 5, 6, 7, 8, 9, 10, 11, 12, 13, 14, 15, 16, 17, 18, 19, 20, 21, 22, 23, 24, 25, 26] (by kernel_rfl) ?_
  refine go_runs [0, 1, 2, 3, 4, 5, 6, 7, 8, 9, 10, 11, 12, 13, 14, 15, 16, 17, 18, 19, 20, 21, 22, 23] [24, 25, 26] [5, 8, 11, 14, 17, 20, 23, 26, 28] hW hE38 (env' := [(5, .v (.slice A s.length c)), (8, .v (.int .u8 (IntKind.u8.wrap (Int.fdiv x 72057594037927936)))), (11, .v (.int .u8 (IntKind.u8.wrap (Int.fdiv x 281474976710656)))), (14, .v (.int .u8 (IntKind.u8.wrap (Int.fdiv x 1099511627776)))), (17, .v (.int .u8 (IntKind.u8.wrap (Int.fdiv x 4294967296)))), (20, .v (.int .u8 (IntKind.u8.wrap (Int.fdiv x 16777216)))), (23, .v (.int .u8 (IntKind.u8.wrap (Int.fdiv x 65536)))), (26, .v (.int .u8 (IntKind.u8.wrap (Int.fdiv x 256)))), (28, .v (.int .u8 (IntKind.u8.wrap x)))]) (by kernel_rfl) rfl fun a39 hE40 => ?_
  clear hE38
  refine wpOps_push hW hE40 (k := 0) (e := 5) (size := 1) (len := 8) (cs := [.int .u8 (IntKind.u8.wrap (Int.fdiv x 72057594037927936)), .int .u8 (IntKind.u8.wrap (Int.fdiv x 281474976710656)), .int .u8 (IntKind.u8.wrap (Int.fdiv x 1099511627776)), .int .u8 (IntKind.u8.wrap (Int.fdiv x 4294967296)), .int .u8 (IntKind.u8.wrap (Int.fdiv x 16777216)), .int .u8 (IntKind.u8.wrap (Int.fdiv x 65536)), .int .u8 (IntKind.u8.wrap (Int.fdiv x 256)), .int .u8 (IntKind.u8.wrap x)]) (d1 := 29) (d := 30) (by kernel_rfl) (t := 22) (bytes := 1) (by kernel_rfl) (fun _ => by kernel_rfl) rfl (by kernel_rfl) (by first | (have := hroom; omega) | (simp; done) | (simp; omega)) fun A41 c42 a43 w44 hF45 hW46 ⟨_, hE47⟩ => ?_
  clear hE40 hW
  have er48 : (⟨A41, c42, 5, 1, s.length + 8, bc s ++ [.int .u8 (IntKind.u8.wrap (Int.fdiv x 72057594037927936)), .int .u8 (IntKind.u8.wrap (Int.fdiv x 281474976710656)), .int .u8 (IntKind.u8.wrap (Int.fdiv x 1099511627776)), .int .u8 (IntKind.u8.wrap (Int.fdiv x 4294967296)), .int .u8 (IntKind.u8.wrap (Int.fdiv x 16777216)), .int .u8 (IntKind.u8.wrap (Int.fdiv x 65536)), .int .u8 (IntKind.u8.wrap (Int.fdiv x 256)), .int .u8 (IntKind.u8.wrap x)]⟩ : Rw) = brow A41 c42 5 (s ++ [by8 (Int.fdiv x 72057594037927936), by8 (Int.fdiv x 281474976710656), by8 (Int.fdiv x 1099511627776), by8 (Int.fdiv x 4294967296), by8 (Int.fdiv x 16777216), by8 (Int.fdiv x 65536), by8 (Int.fdiv x 256), by8 x]) := brow_eq (by simp only [bc, List.map, by8_wrap]; try rfl) rfl
  have hW49 : WOk _ _ _ _ [brow A41 c42 5 (s ++ [by8 (Int.fdiv x 72057594037927936), by8 (Int.fdiv x 281474976710656), by8 (Int.fdiv x 1099511627776), by8 (Int.fdiv x 4294967296), by8 (Int.fdiv x 16777216), by8 (Int.fdiv x 65536), by8 (Int.fdiv x 256), by8 x])] := hW46.castR (congrArg (fun r_ => List.set [⟨A41, c42, 5, 1, s.length + 8, bc s ++ [.int .u8 (IntKind.u8.wrap (Int.fdiv x 72057594037927936)), .int .u8 (IntKind.u8.wrap (Int.fdiv x 281474976710656)), .int .u8 (IntKind.u8.wrap (Int.fdiv x 1099511627776)), .int .u8 (IntKind.u8.wrap (Int.fdiv x 4294967296)), .int .u8 (IntKind.u8.wrap (Int.fdiv x 16777216)), .int .u8 (IntKind.u8.wrap (Int.fdiv x 65536)), .int .u8 (IntKind.u8.wrap (Int.fdiv x 256)), .int .u8 (IntKind.u8.wrap x)]⟩] 0 r_) er48)
  have hF51 : Fr w44 [] [⟨A41, c42, 5, 1, s.length + 8, bc s ++ [.int .u8 (IntKind.u8.wrap (Int.fdiv x 72057594037927936)), .int .u8 (IntKind.u8.wrap (Int.fdiv x 281474976710656)), .int .u8 (IntKind.u8.wrap (Int.fdiv x 1099511627776)), .int .u8 (IntKind.u8.wrap (Int.fdiv x 4294967296)), .int .u8 (IntKind.u8.wrap (Int.fdiv x 16777216)), .int .u8 (IntKind.u8.wrap (Int.fdiv x 65536)), .int .u8 (IntKind.u8.wrap (Int.fdiv x 256)), .int .u8 (IntKind.u8.wrap x)]⟩] w44 [] [brow A41 c42 5 (s ++ [by8 (Int.fdiv x 72057594037927936), by8 (Int.fdiv x 281474976710656), by8 (Int.fdiv x 1099511627776), by8 (Int.fdiv x 4294967296), by8 (Int.fdiv x 16777216), by8 (Int.fdiv x 65536), by8 (Int.fdiv x 256), by8 x])] := Fr.castR (Fr.refl _ _ _) (congrArg (fun r_ => List.set [⟨A41, c42, 5, 1, s.length + 8, bc s ++ [.int .u8 (IntKind.u8.wrap (Int.fdiv x 72057594037927936)), .int .u8 (IntKind.u8.wrap (Int.fdiv x 281474976710656)), .int .u8 (IntKind.u8.wrap (Int.fdiv x 1099511627776)), .int .u8 (IntKind.u8.wrap (Int.fdiv x 4294967296)), .int .u8 (IntKind.u8.wrap (Int.fdiv x 16777216)), .int .u8 (IntKind.u8.wrap (Int.fdiv x 65536)), .int .u8 (IntKind.u8.wrap (Int.fdiv x 256)), .int .u8 (IntKind.u8.wrap x)]⟩] 0 r_) er48)
  clear hW46
  have hE52 := EnvOk.pick hE47 (ks := [5, 8, 11, 14, 17, 20, 23, 26, 28, 30]) (env' := [(5, .v (.slice A s.length c)), (8, .v (.int .u8 (IntKind.u8.wrap (Int.fdiv x 72057594037927936)))), (11, .v (.int .u8 (IntKind.u8.wrap (Int.fdiv x 281474976710656)))), (14, .v (.int .u8 (IntKind.u8.wrap (Int.fdiv x 1099511627776)))), (17, .v (.int .u8 (IntKind.u8.wrap (Int.fdiv x 4294967296)))), (20, .v (.int .u8 (IntKind.u8.wrap (Int.fdiv x 16777216)))), (23, .v (.int .u8 (IntKind.u8.wrap (Int.fdiv x 65536)))), (26, .v (.int .u8 (IntKind.u8.wrap (Int.fdiv x 256)))), (28, .v (.int .u8 (IntKind.u8.wrap x))), (30, .v (.slice A41 (s.length + 8) c42))]) (by kernel_rfl)
  have hE50 := hE52.cast (env' := [(5, .v (.slice A s.length c)), (8, .v (.int .u8 (IntKind.u8.wrap (Int.fdiv x 72057594037927936)))), (11, .v (.int .u8 (IntKind.u8.wrap (Int.fdiv x 281474976710656)))), (14, .v (.int .u8 (IntKind.u8.wrap (Int.fdiv x 1099511627776)))), (17, .v (.int .u8 (IntKind.u8.wrap (Int.fdiv x 4294967296)))), (20, .v (.int .u8 (IntKind.u8.wrap (Int.fdiv x 16777216)))), (23, .v (.int .u8 (IntKind.u8.wrap (Int.fdiv x 65536)))), (26, .v (.int .u8 (IntKind.u8.wrap (Int.fdiv x 256)))), (28, .v (.int .u8 (IntKind.u8.wrap x))), (30, .v (.slice A41 ((s ++ [by8 (Int.fdiv x 72057594037927936), by8 (Int.fdiv x 281474976710656), by8 (Int.fdiv x 1099511627776), by8 (Int.fdiv x 4294967296), by8 (Int.fdiv x 16777216), by8 (Int.fdiv x 65536), by8 (Int.fdiv x 256), by8 x]).length) c42))]) (by simp only [List.length_append, List.length_cons, List.length_nil, Nat.zero_add])
  clear hE47
  clear hE52
  refine go_runs [26] [] [4] hW49 hE50 (env' := [(4, .v (.slice A41 ((s ++ [by8 (Int.fdiv x 72057594037927936), by8 (Int.fdiv x 281474976710656), by8 (Int.fdiv x 1099511627776), by8 (Int.fdiv x 4294967296), by8 (Int.fdiv x 16777216), by8 (Int.fdiv x 65536), by8 (Int.fdiv x 256), by8 x]).length) c42))]) (by kernel_rfl) rfl fun a53 hE54 => ?_
  clear hE50
  refine wpOps_nil ?_
  refine then_normal ?_
  refine wp_ret ?_
  refine leave hE54 hW49.cells (v := .slice A41 ((s ++ [by8 (Int.fdiv x 72057594037927936), by8 (Int.fdiv x 281474976710656), by8 (Int.fdiv x 1099511627776), by8 (Int.fdiv x 4294967296), by8 (Int.fdiv x 16777216), by8 (Int.fdiv x 65536), by8 (Int.fdiv x 256), by8 x]).length) c42) (by kernel_rfl) ?_
  have e0 : (s ++ [by8 (Int.fdiv x 72057594037927936), by8 (Int.fdiv x 281474976710656), by8 (Int.fdiv x 1099511627776), by8 (Int.fdiv x 4294967296), by8 (Int.fdiv x 16777216), by8 (Int.fdiv x 65536), by8 (Int.fdiv x 256), by8 x]) = (s ++ be 8 x) := by simp [bc, be, by8_wrap, Int.fdiv_eq_ediv_of_nonneg]
  have h0 := app_end hW49 0 rfl
  rw [e0] at h0
  have e1 : (s ++ [by8 (Int.fdiv x 72057594037927936), by8 (Int.fdiv x 281474976710656), by8 (Int.fdiv x 1099511627776), by8 (Int.fdiv x 4294967296), by8 (Int.fdiv x 16777216), by8 (Int.fdiv x 65536), by8 (Int.fdiv x 256), by8 x]).length = (s ++ be 8 x).length := by rw [← e0]
  rw [e1]; exact h0

theorem kAppendInt16 (A : Option Addr) (c : Nat) (s : List UInt8) (x : Int) (w : World) (ho : w.ownsRow 0 5 1 (.slice A s.length c) s.length (bc s)) (hroom : s.length + 16 ≤ 1099511627776) :
    Calls Try.prog 99 #[.slice A s.length c, .int .i16 x] w (AppPost w 5 A (s ++ be 2 x)) := by
  refine enter (n := 9) Try.func99 rfl Try.ntmps99 (by kernel_rfl) fun a hE => ?_
  have hW := WOk.startRow w ho
  refine go_seq_region [0] (by kernel_rfl) ?_
  refine go_runs [0] [] [0, 1] hW hE (env' := [(0, .v (.slice A s.length c)), (1, .v (.int .i16 x))]) (by kernel_rfl) rfl fun a55 hE56 => ?_
  clear hE
  refine wpOps_nil ?_
  refine then_normal ?_
  refine go_seq_region [0, 1, 2, 3, 4] (by kernel_rfl) ?_
  refine go_runs [0, 1, 2] [3, 4] [5, 7] hW hE56 (env' := [(5, .v (.slice A s.length c)), (7, .v (.int .u16 (IntKind.u16.wrap x)))]) (by kernel_rfl) rfl fun a57 hE58 => ?_
  clear hE56
  refine of_op (wpOp_call hE58 (f := 140) (vs := [.slice A s.length c, .int .u16 (IntKind.u16.wrap x)]) (d := 8) (by kernel_rfl) Try.call140 (kAppendUint16 A c s (IntKind.u16.wrap x) _ (hW.own 0 _ rfl) (by first | (have := hroom; omega) | (simp; done) | (simp; omega))) ?_)
  rintro e_ w61 ⟨A59, c60, rfl, ho63, hs64, hn65⟩
  refine ⟨_, rfl, fun a62 hE68 => ?_⟩
  have hW67 : WOk _ _ _ _ [brow A59 c60 5 (s ++ be 2 (IntKind.u16.wrap x))] := hW.grow (k := 0) rfl hs64 ho63 hn65
  have hF66 : Fr _ [] [brow A c 5 s] _ [] [brow A59 c60 5 (s ++ be 2 (IntKind.u16.wrap x))] := Fr.grow _ (k := 0) (r' := (brow A59 c60 5 (s ++ be 2 (IntKind.u16.wrap x)))) rfl hs64 hn65
  clear hE58 hW
  refine go_runs [4] [] [4] hW67 hE68 (env' := [(4, .v (.slice A59 ((s ++ be 2 (IntKind.u16.wrap x)).length) c60))]) (by kernel_rfl) rfl fun a69 hE70 => ?_
  clear hE68
  refine wpOps_nil ?_
  refine then_normal ?_
  refine wp_ret ?_
  refine leave hE70 hW67.cells (v := .slice A59 ((s ++ be 2 (IntKind.u16.wrap x)).length) c60) (by kernel_rfl) ?_
  have e0 : (s ++ be 2 (IntKind.u16.wrap x)) = (s ++ be 2 x) := by rw [be2_wrap]
  have h0 := app_end hW67 0 rfl
  rw [e0] at h0
  have e1 : (s ++ be 2 (IntKind.u16.wrap x)).length = (s ++ be 2 x).length := by rw [← e0]
  rw [e1]; exact h0

theorem kAppendInt32 (A : Option Addr) (c : Nat) (s : List UInt8) (x : Int) (w : World) (ho : w.ownsRow 0 5 1 (.slice A s.length c) s.length (bc s)) (hroom : s.length + 16 ≤ 1099511627776) :
    Calls Try.prog 112 #[.slice A s.length c, .int .i32 x] w (AppPost w 5 A (s ++ be 4 x)) := by
  refine enter (n := 9) Try.func112 rfl Try.ntmps112 (by kernel_rfl) fun a hE => ?_
  have hW := WOk.startRow w ho
  refine go_seq_region [0] (by kernel_rfl) ?_
  refine go_runs [0] [] [0, 1] hW hE (env' := [(0, .v (.slice A s.length c)), (1, .v (.int .i32 x))]) (by kernel_rfl) rfl fun a71 hE72 => ?_
  clear hE
  refine wpOps_nil ?_
  refine then_normal ?_
  refine go_seq_region [0, 1, 2, 3, 4] (by kernel_rfl) ?_
  refine go_runs [0, 1, 2] [3, 4] [5, 7] hW hE72 (env' := [(5, .v (.slice A s.length c)), (7, .v (.int .u32 (IntKind.u32.wrap x)))]) (by kernel_rfl) rfl fun a73 hE74 => ?_
  clear hE72
  refine of_op (wpOp_call hE74 (f := 148) (vs := [.slice A s.length c, .int .u32 (IntKind.u32.wrap x)]) (d := 8) (by kernel_rfl) Try.call148 (kAppendUint32 A c s (IntKind.u32.wrap x) _ (hW.own 0 _ rfl) (by first | (have := hroom; omega) | (simp; done) | (simp; omega))) ?_)
  rintro e_ w77 ⟨A75, c76, rfl, ho79, hs80, hn81⟩
  refine ⟨_, rfl, fun a78 hE84 => ?_⟩
  have hW83 : WOk _ _ _ _ [brow A75 c76 5 (s ++ be 4 (IntKind.u32.wrap x))] := hW.grow (k := 0) rfl hs80 ho79 hn81
  have hF82 : Fr _ [] [brow A c 5 s] _ [] [brow A75 c76 5 (s ++ be 4 (IntKind.u32.wrap x))] := Fr.grow _ (k := 0) (r' := (brow A75 c76 5 (s ++ be 4 (IntKind.u32.wrap x)))) rfl hs80 hn81
  clear hE74 hW
  refine go_runs [4] [] [4] hW83 hE84 (env' := [(4, .v (.slice A75 ((s ++ be 4 (IntKind.u32.wrap x)).length) c76))]) (by kernel_rfl) rfl fun a85 hE86 => ?_
  clear hE84
  refine wpOps_nil ?_
  refine then_normal ?_
  refine wp_ret ?_
  refine leave hE86 hW83.cells (v := .slice A75 ((s ++ be 4 (IntKind.u32.wrap x)).length) c76) (by kernel_rfl) ?_
  have e0 : (s ++ be 4 (IntKind.u32.wrap x)) = (s ++ be 4 x) := by rw [be4_wrap]
  have h0 := app_end hW83 0 rfl
  rw [e0] at h0
  have e1 : (s ++ be 4 (IntKind.u32.wrap x)).length = (s ++ be 4 x).length := by rw [← e0]
  rw [e1]; exact h0

theorem kAppendInt64 (A : Option Addr) (c : Nat) (s : List UInt8) (x : Int) (w : World) (ho : w.ownsRow 0 5 1 (.slice A s.length c) s.length (bc s)) (hroom : s.length + 16 ≤ 1099511627776) :
    Calls Try.prog 139 #[.slice A s.length c, .int .i64 x] w (AppPost w 5 A (s ++ be 8 x)) := by
  refine enter (n := 9) Try.func139 rfl Try.ntmps139 (by kernel_rfl) fun a hE => ?_
  have hW := WOk.startRow w ho
  refine go_seq_region [0] (by kernel_rfl) ?_
  refine go_runs [0] [] [0, 1] hW hE (env' := [(0, .v (.slice A s.length c)), (1, .v (.int .i64 x))]) (by kernel_rfl) rfl fun a87 hE88 => ?_
  clear hE
  refine wpOps_nil ?_
  refine then_normal ?_
  refine go_seq_region [0, 1, 2, 3, 4] (by kernel_rfl) ?_
  refine go_runs [0, 1, 2] [3, 4] [5, 7] hW hE88 (env' := [(5, .v (.slice A s.length c)), (7, .v (.int .u64 (IntKind.u64.wrap x)))]) (by kernel_rfl) rfl fun a89 hE90 => ?_
  clear hE88
  refine of_op (wpOp_call hE90 (f := 152) (vs := [.slice A s.length c, .int .u64 (IntKind.u64.wrap x)]) (d := 8) (by kernel_rfl) Try.call152 (kAppendUint64 A c s (IntKind.u64.wrap x) _ (hW.own 0 _ rfl) (by first | (have := hroom; omega) | (simp; done) | (simp; omega))) ?_)
  rintro e_ w93 ⟨A91, c92, rfl, ho95, hs96, hn97⟩
  refine ⟨_, rfl, fun a94 hE100 => ?_⟩
  have hW99 : WOk _ _ _ _ [brow A91 c92 5 (s ++ be 8 (IntKind.u64.wrap x))] := hW.grow (k := 0) rfl hs96 ho95 hn97
  have hF98 : Fr _ [] [brow A c 5 s] _ [] [brow A91 c92 5 (s ++ be 8 (IntKind.u64.wrap x))] := Fr.grow _ (k := 0) (r' := (brow A91 c92 5 (s ++ be 8 (IntKind.u64.wrap x)))) rfl hs96 hn97
  clear hE90 hW
  refine go_runs [4] [] [4] hW99 hE100 (env' := [(4, .v (.slice A91 ((s ++ be 8 (IntKind.u64.wrap x)).length) c92))]) (by kernel_rfl) rfl fun a101 hE102 => ?_
  clear hE100
  refine wpOps_nil ?_
  refine then_normal ?_
  refine wp_ret ?_
  refine leave hE102 hW99.cells (v := .slice A91 ((s ++ be 8 (IntKind.u64.wrap x)).length) c92) (by kernel_rfl) ?_
  have e0 : (s ++ be 8 (IntKind.u64.wrap x)) = (s ++ be 8 x) := by rw [be8_wrap]
  have h0 := app_end hW99 0 rfl
  rw [e0] at h0
  have e1 : (s ++ be 8 (IntKind.u64.wrap x)).length = (s ++ be 8 x).length := by rw [← e0]
  rw [e1]; exact h0

theorem kAppendInt8 (A : Option Addr) (c : Nat) (s : List UInt8) (x : Int) (w : World) (ho : w.ownsRow 0 5 1 (.slice A s.length c) s.length (bc s)) (hroom : s.length + 16 ≤ 1099511627776) :
    Calls Try.prog 128 #[.slice A s.length c, .int .i8 x] w (AppPost w 5 A (s ++ be 1 x)) := by
  refine enter (n := 10) Try.func128 rfl Try.ntmps128 (by kernel_rfl) fun a hE => ?_
  have hW := WOk.startRow w ho
  refine go_seq_region [0] (by kernel_rfl) ?_
  refine go_runs [0] [] [0, 1] hW hE (env' := [(0, .v (.slice A s.length c)), (1, .v (.int .i8 x))]) (by kernel_rfl) rfl fun a103 hE104 => ?_
  clear hE
  refine wpOps_nil ?_
  refine then_normal ?_
  refine go_seq_region [0, 1, 2, 3, 4, 5] (by kernel_rfl) ?_
  refine go_runs [0, 1, 2] [3, 4, 5] [5, 7] hW hE104 (env' := [(5, .v (.slice A s.length c)), (7, .v (.int .u8 (IntKind.u8.wrap x)))]) (by kernel_rfl) rfl fun a105 hE106 => ?_
  clear hE104
  refine wpOps_push hW hE106 (k := 0) (e := 5) (size := 1) (len := 1) (cs := [.int .u8 (IntKind.u8.wrap x)]) (d1 := 8) (d := 9) (by kernel_rfl) (t := 22) (bytes := 1) (by kernel_rfl) (fun _ => by kernel_rfl) rfl (by kernel_rfl) (by first | (have := hroom; omega) | (simp; done) | (simp; omega)) fun A107 c108 a109 w110 hF111 hW112 ⟨_, hE113⟩ => ?_
  clear hE106 hW
  have er114 : (⟨A107, c108, 5, 1, s.length + 1, bc s ++ [.int .u8 (IntKind.u8.wrap x)]⟩ : Rw) = brow A107 c108 5 (s ++ [by8 x]) := brow_eq (by simp only [bc, List.map, by8_wrap]; try rfl) rfl
  have hW115 : WOk _ _ _ _ [brow A107 c108 5 (s ++ [by8 x])] := hW112.castR (congrArg (fun r_ => List.set [⟨A107, c108, 5, 1, s.length + 1, bc s ++ [.int .u8 (IntKind.u8.wrap x)]⟩] 0 r_) er114)
  have hF117 : Fr w110 [] [⟨A107, c108, 5, 1, s.length + 1, bc s ++ [.int .u8 (IntKind.u8.wrap x)]⟩] w110 [] [brow A107 c108 5 (s ++ [by8 x])] := Fr.castR (Fr.refl _ _ _) (congrArg (fun r_ => List.set [⟨A107, c108, 5, 1, s.length + 1, bc s ++ [.int .u8 (IntKind.u8.wrap x)]⟩] 0 r_) er114)
  clear hW112
  have hE118 := EnvOk.pick hE113 (ks := [5, 7, 9]) (env' := [(5, .v (.slice A s.length c)), (7, .v (.int .u8 (IntKind.u8.wrap x))), (9, .v (.slice A107 (s.length + 1) c108))]) (by kernel_rfl)
  have hE116 := hE118.cast (env' := [(5, .v (.slice A s.length c)), (7, .v (.int .u8 (IntKind.u8.wrap x))), (9, .v (.slice A107 ((s ++ [by8 x]).length) c108))]) (by simp only [List.length_append, List.length_cons, List.length_nil, Nat.zero_add])
  clear hE113
  clear hE118
  refine go_runs [5] [] [4] hW115 hE116 (env' := [(4, .v (.slice A107 ((s ++ [by8 x]).length) c108))]) (by kernel_rfl) rfl fun a119 hE120 => ?_
  clear hE116
  refine wpOps_nil ?_
  refine then_normal ?_
  refine wp_ret ?_
  refine leave hE120 hW115.cells (v := .slice A107 ((s ++ [by8 x]).length) c108) (by kernel_rfl) ?_
  have e0 : (s ++ [by8 x]) = (s ++ be 1 x) := by simp [bc, be, by8_wrap, Int.fdiv_eq_ediv_of_nonneg]
  have h0 := app_end hW115 0 rfl
  rw [e0] at h0
  have e1 : (s ++ [by8 x]).length = (s ++ be 1 x).length := by rw [← e0]
  rw [e1]; exact h0

end Go.Proofs.Ytbjopfcbpobnpaa.ME
