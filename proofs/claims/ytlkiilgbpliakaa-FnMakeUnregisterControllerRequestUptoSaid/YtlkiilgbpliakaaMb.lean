/- Printed by tools/mk.py. Own work. -/
import Derived.Test.YtlkiilgbpliakaaMa
import Derived.Test.YtlkiilgbpliakaaSp
namespace Go.Proofs.Ytlkiilgbpliakaa.ME
open Go
open Go.RowKit
set_option linter.unusedVariables false
set_option linter.unusedSimpArgs false
set_option maxRecDepth 20000

def makeHeartbeatResponse (v : Int) (t : Tree) : Bs := aHeartbeatResponse (IntKind.i16.wrap v) (IntKind.i32.wrap (t.at_ 0).N) (IntKind.i16.wrap (t.at_ 1).N) t.U
theorem mHeartbeatResponse (v : Int) (ct : List Value) (t : Tree) (w : World) (F : Nat → Nat → Prop) (ht : TreeR w F ct t) (hsort : Sorted t.U) (hul : t.U.length ≤ 1000000) (hxl : ∀ x ∈ t.U, x.2.length < 4294967296) (hroom : (makeHeartbeatResponse v t).length + 16 ≤ 1099511627776) : Calls Try.prog 25 #[.int .i64 v, .agg ct.toArray] w (FreshB w 5 (makeHeartbeatResponse v t)) := by
  obtain ⟨n5079, s5080, b5081, l5082, u5083, A5084, c5085, A5086, c5087, A5088, c5089, xs5090, rfl, rfl, h5092, h5093, h5094, h5095⟩ := ht.open_
  have hsm5097 := h5092.small
  have hsm5098 := h5093.small
  replace hsort : Sorted u5083 := hsort
  replace hul : u5083.length ≤ 1000000 := hul
  replace hxl : ∀ x ∈ u5083, x.2.length < 4294967296 := hxl
  refine enter (n := 17) Try.func25 rfl Try.ntmps25 (by kernel_rfl) fun a hE => ?_
  have hW := WOk.start w Nil
  refine go_seq_region [0, 1] (by kernel_rfl) ?_
  refine of_op (wpOp_box hW hE (d := 3) (cs := [.int .i64 n5079, .slice A5084 s5080.length c5085, .bool b5081, .slice A5086 l5082.length c5087, .slice A5088 u5083.length c5089]) (by kernel_rfl) fun b5099 a5100 w5101 hb5102 hz5103 hF5104 hW5105 hE5106 => ?_)
  clear hE hW
  refine go_runs [1] [] [0, 3] hW5105 hE5106 (env' := [(0, .v (.int .i64 v)), (3, .p 0 0)]) (by kernel_rfl) rfl fun a5107 hE5108 => ?_
  clear hE5106
  refine wpOps_nil ?_
  refine then_normal ?_
  refine go_seq_region [0, 1, 2] (by kernel_rfl) ?_
  refine go_runs [0] [1, 2] [0, 3, 6] hW5105 hE5108 (env' := [(0, .v (.int .i64 v)), (3, .p 0 0), (6, .v (.agg #[.int .i16 0, .int .i32 0, .int .i16 0, .map none]))]) (by kernel_rfl) rfl fun a5109 hE5110 => ?_
  clear hE5108
  refine of_op (wpOp_box hW5105 hE5110 (d := 7) (cs := [.int .i16 0, .int .i32 0, .int .i16 0, .map none]) (by kernel_rfl) fun b5111 a5112 w5113 hb5114 hz5115 hF5116 hW5117 hE5118 => ?_)
  clear hE5110 hW5105
  refine go_runs [2] [] [0, 3, 5] hW5117 hE5118 (env' := [(0, .v (.int .i64 v)), (3, .p 0 0), (5, .p 1 0)]) (by kernel_rfl) rfl fun a5119 hE5120 => ?_
  clear hE5118
  refine wpOps_nil ?_
  refine then_normal ?_
  refine go_seq_region [0, 1, 2, 3] (by kernel_rfl) ?_
  refine go_runs [0, 1, 2] [3] [3, 5, 8, 10] hW5117 hE5120 (env' := [(3, .p 0 0), (5, .p 1 0), (8, .p 1 0), (10, .v (.int .i16 (IntKind.i16.wrap v)))]) (by kernel_rfl) rfl fun a5121 hE5122 => ?_
  clear hE5120
  refine of_op (wpOp_inline hE5122 (f := 50) (vs := [.pointer (some ⟨b5111, 0, none⟩), .int .i16 (IntKind.i16.wrap v)]) (d := 11) (n' := 8) (by kernel_rfl) Try.call50 Try.func50 rfl Try.ntmps50 (by kernel_rfl) fun a5123 hE5124 => ?_)
  have hE5125 := hE5124.recast 0 (.v (.pointer (some ⟨b5111, 0, none⟩))) (.p 1 0) rfl rfl (Nat.le_of_ble_eq_true (n := 2) rfl)
  refine go_region [0, 1, 2, 3, 4] (by kernel_rfl) ?_
  refine go_runs [0, 1, 2, 3] [4] [5, 7] hW5117 hE5125 (env' := [(5, .v (.int .i16 (IntKind.i16.wrap v))), (7, .p 1 0)]) (by kernel_rfl) rfl fun a5126 hE5127 => ?_
  clear hE5125
  refine of_op (wpOp_store hW5117 hE5127 (oi := 1) (cs := [.int .i16 (IntKind.i16.wrap v), .int .i32 0, .int .i16 0, .map none]) (by kernel_rfl) fun w5128 hF5129 hW5130 hE5131 => ?_)
  clear hE5127 hW5117
  refine wpOps_nil ?_
  refine leave_end hE5131 hW5130.cells (v := .tuple #[]) (by kernel_rfl) ?_
  refine ⟨_, rfl, fun a5132 hE5133 => ?_⟩
  have hE5134 : EnvOk 17 [⟨b5099, 0, [.int .i64 n5079, .slice A5084 s5080.length c5085, .bool b5081, .slice A5086 l5082.length c5087, .slice A5088 u5083.length c5089], true⟩, ⟨b5111, 0, [.int .i16 (IntKind.i16.wrap v), .int .i32 0, .int .i16 0, .map none], true⟩] [(11, .v (.tuple #[])), (3, .p 0 0), (5, .p 1 0), (8, .p 1 0), (10, .v (.int .i16 (IntKind.i16.wrap v)))] _ := hE5133.places (⟨rfl, rfl, ⟨rfl, rfl, trivial⟩⟩)
  refine wpOps_nil ?_
  refine then_normal ?_
  refine go_seq_region [0, 1, 2] (by kernel_rfl) ?_
  refine go_runs [0, 1] [2] [5, 12, 13] hW5130 hE5134 (env' := [(5, .p 1 0), (12, .p 1 0), (13, .v (.agg #[.int .i64 n5079, .slice A5084 s5080.length c5085, .bool b5081, .slice A5086 l5082.length c5087, .slice A5088 u5083.length c5089]))]) (by kernel_rfl) rfl fun a5135 hE5136 => ?_
  clear hE5134
  refine of_op (wpOp_inline hE5136 (f := 51) (vs := [.pointer (some ⟨b5111, 0, none⟩), .agg #[.int .i64 n5079, .slice A5084 s5080.length c5085, .bool b5081, .slice A5086 l5082.length c5087, .slice A5088 u5083.length c5089]]) (d := 14) (n' := 36) (by kernel_rfl) Try.call51 Try.func51 rfl Try.ntmps51 (by kernel_rfl) fun a5137 hE5138 => ?_)
  have hE5139 := hE5138.recast 0 (.v (.pointer (some ⟨b5111, 0, none⟩))) (.p 1 0) rfl rfl (Nat.le_of_ble_eq_true (n := 2) rfl)
  refine go_seq_region [0] (by kernel_rfl) ?_
  refine of_op (wpOp_box hW5130 hE5139 (d := 3) (cs := [.int .i64 n5079, .slice A5084 s5080.length c5085, .bool b5081, .slice A5086 l5082.length c5087, .slice A5088 u5083.length c5089]) (by kernel_rfl) fun b5140 a5141 w5142 hb5143 hz5144 hF5145 hW5146 hE5147 => ?_)
  clear hE5139 hW5130
  refine wpOps_nil ?_
  refine then_normal ?_
  refine go_seq_region [0, 1, 2, 3, 4, 5, 6, 7] (by kernel_rfl) ?_
  refine go_runs [0, 1] [2, 3, 4, 5, 6, 7] [0, 3, 6, 7] hW5146 hE5147 (env' := [(0, .p 1 0), (3, .p 2 0), (6, .p 1 0), (7, .v (.agg #[.int .i64 n5079, .slice A5084 s5080.length c5085, .bool b5081, .slice A5086 l5082.length c5087, .slice A5088 u5083.length c5089]))]) (by kernel_rfl) rfl fun a5148 hE5149 => ?_
  clear hE5147
  refine of_op (wpOp_call hE5149 (f := 59) (vs := [.agg #[.int .i64 n5079, .slice A5084 s5080.length c5085, .bool b5081, .slice A5086 l5082.length c5087, .slice A5088 u5083.length c5089], .int .i64 0]) (d := 8) (by kernel_rfl) Try.call59 (iAt _ _ 0 _ _ (ht.move hW5146.step nilM hW5146.imm)) ?_)
  rintro e_ w5153 ⟨cs5152, rfl, hr5151, hs5150⟩
  have hr5154 := hr5151.move hs5150 nilM (fun b o h_ hb_ => hW5146.laid (G := F) hs5150 b o (.inl h_) (Nat.lt_of_lt_of_le hb_ hs5150.size))
  obtain ⟨n5155, s5156, b5157, l5158, u5159, A5160, c5161, A5162, c5163, A5164, c5165, xs5166, ht5172, hcs5167, h5168, h5169, h5170, h5171⟩ := hr5154.open_
  rw [hcs5167] at hr5154
  have hsm5173 := h5168.small
  have hsm5174 := h5169.small
  rw [hcs5167]
  refine ⟨_, rfl, fun a5175 hE5176 => ?_⟩
  have hW5177 := hW5146.next_nil hs5150
  have hF5178 := Fr.nil [⟨b5099, 0, [.int .i64 n5079, .slice A5084 s5080.length c5085, .bool b5081, .slice A5086 l5082.length c5087, .slice A5088 u5083.length c5089], true⟩, ⟨b5111, 0, [.int .i16 (IntKind.i16.wrap v), .int .i32 0, .int .i16 0, .map none], true⟩, ⟨b5140, 0, [.int .i64 n5079, .slice A5084 s5080.length c5085, .bool b5081, .slice A5086 l5082.length c5087, .slice A5088 u5083.length c5089], true⟩] [] hs5150
  clear hE5149
  refine go_runs [3, 4, 5, 6] [7] [0, 3, 10, 12] hW5177 hE5176 (env' := [(0, .p 1 0), (3, .p 2 0), (10, .v (.int .i32 (IntKind.i32.wrap n5155))), (12, .p 1 1)]) (by kernel_rfl) rfl fun a5179 hE5180 => ?_
  clear hE5176
  refine of_op (wpOp_store hW5177 hE5180 (oi := 1) (cs := [.int .i16 (IntKind.i16.wrap v), .int .i32 (IntKind.i32.wrap n5155), .int .i16 0, .map none]) (by kernel_rfl) fun w5181 hF5182 hW5183 hE5184 => ?_)
  clear hE5180 hW5177
  refine wpOps_nil ?_
  refine then_normal ?_
  refine go_seq_region [0, 1, 2, 3, 4, 5, 6, 7] (by kernel_rfl) ?_
  refine go_runs [0, 1] [2, 3, 4, 5, 6, 7] [0, 3, 13, 14] hW5183 hE5184 (env' := [(0, .p 1 0), (3, .p 2 0), (13, .p 1 0), (14, .v (.agg #[.int .i64 n5079, .slice A5084 s5080.length c5085, .bool b5081, .slice A5086 l5082.length c5087, .slice A5088 u5083.length c5089]))]) (by kernel_rfl) rfl fun a5185 hE5186 => ?_
  clear hE5184
  refine of_op (wpOp_call hE5186 (f := 59) (vs := [.agg #[.int .i64 n5079, .slice A5084 s5080.length c5085, .bool b5081, .slice A5086 l5082.length c5087, .slice A5088 u5083.length c5089], .int .i64 1]) (d := 15) (by kernel_rfl) Try.call59 (iAt _ _ 1 _ _ (ht.move hW5183.step nilM hW5183.imm)) ?_)
  rintro e_ w5190 ⟨cs5189, rfl, hr5188, hs5187⟩
  have hr5191 := hr5188.move hs5187 nilM (fun b o h_ hb_ => hW5183.laid (G := F) hs5187 b o (.inl h_) (Nat.lt_of_lt_of_le hb_ hs5187.size))
  obtain ⟨n5192, s5193, b5194, l5195, u5196, A5197, c5198, A5199, c5200, A5201, c5202, xs5203, ht5209, hcs5204, h5205, h5206, h5207, h5208⟩ := hr5191.open_
  rw [hcs5204] at hr5191
  have hsm5210 := h5205.small
  have hsm5211 := h5206.small
  rw [hcs5204]
  refine ⟨_, rfl, fun a5212 hE5213 => ?_⟩
  have hW5214 := hW5183.next_nil hs5187
  have hF5215 := Fr.nil [⟨b5099, 0, [.int .i64 n5079, .slice A5084 s5080.length c5085, .bool b5081, .slice A5086 l5082.length c5087, .slice A5088 u5083.length c5089], true⟩, ⟨b5111, 0, [.int .i16 (IntKind.i16.wrap v), .int .i32 (IntKind.i32.wrap n5155), .int .i16 0, .map none], true⟩, ⟨b5140, 0, [.int .i64 n5079, .slice A5084 s5080.length c5085, .bool b5081, .slice A5086 l5082.length c5087, .slice A5088 u5083.length c5089], true⟩] [] hs5187
  clear hE5186
  refine go_runs [3, 4, 5, 6] [7] [0, 3, 17, 19] hW5214 hE5213 (env' := [(0, .p 1 0), (3, .p 2 0), (17, .v (.int .i16 (IntKind.i16.wrap n5192))), (19, .p 1 2)]) (by kernel_rfl) rfl fun a5216 hE5217 => ?_
  clear hE5213
  refine of_op (wpOp_store hW5214 hE5217 (oi := 1) (cs := [.int .i16 (IntKind.i16.wrap v), .int .i32 (IntKind.i32.wrap n5155), .int .i16 (IntKind.i16.wrap n5192), .map none]) (by kernel_rfl) fun w5218 hF5219 hW5220 hE5221 => ?_)
  clear hE5217 hW5214
  refine wpOps_nil ?_
  refine then_normal ?_
  refine go_seq_region [0, 1, 2, 3] (by kernel_rfl) ?_
  refine go_runs [0, 1, 2, 3] [] [0, 21, 22, 23] hW5220 hE5221 (env' := [(0, .p 1 0), (21, .v (.slice A5088 u5083.length c5089)), (22, .v (.int .i64 ((u5083.length : Nat) : Int))), (23, .v (.int .i64 0))]) (by kernel_rfl) rfl fun a5222 hE5223 => ?_
  clear hE5221
  refine wpOps_nil ?_
  refine then_normal ?_
  refine wp_block ?_
  have hpB := new_of hW5220 1 rfl (by kernel_rfl)
  have hE0 := hE5223.recast 0 (.p 1 0) (.v (.pointer (some ⟨b5111, 0, none⟩))) rfl rfl trivial
  have hE1 := (hE0.pick (ks := [0, 21, 22, 23]) (env' := [(0, .v (.pointer (some ⟨b5111, 0, none⟩))), (21, .v (.slice A5088 u5083.length c5089)), (22, .v (.int .i64 ((u5083.length : Nat) : Int))), (23, .v (.int .i64 0))]) (by kernel_rfl)).cutTb 0 (by kernel_rfl)
  refine wp_loop_ghost (fun q a_ w_ => ∃ (j : Nat) (m_ : Option Nat), q = u5083.length - j ∧ j ≤ u5083.length ∧ EnvOk 36 [] [(0, .v (.pointer (some ⟨b5111, 0, none⟩))), (21, .v (.slice A5088 u5083.length c5089)), (22, .v (.int .i64 ((u5083.length : Nat) : Int))), (23, .v (.int .i64 ((j : Nat) : Int)))] a_ ∧ TL w w_ F b5111 3 [.int .i16 (IntKind.i16.wrap v), .int .i32 (IntKind.i32.wrap n5155), .int .i16 (IntKind.i16.wrap n5192), .map none] m_ (u5083.take j)) u5083.length
    ⟨0, none, by omega, by omega, hE1, TL.start hW5220 1 rfl rfl⟩ ?_
  rintro q aq wq ⟨j, m_, rfl, hj, hE2, hT⟩
  have hWq := WOk.start wq Nil
  refine go_seq_region [0] (by kernel_rfl) (go_runs [0] [] [0, 21, 22, 23, 24] hWq hE2 (env' := [(0, .v (.pointer (some ⟨b5111, 0, none⟩))), (21, .v (.slice A5088 u5083.length c5089)), (22, .v (.int .i64 ((u5083.length : Nat) : Int))), (23, .v (.int .i64 ((j : Nat) : Int))), (24, .v (.bool (decide (((j : Nat) : Int) < ((u5083.length : Nat) : Int)))))]) (by kernel_rfl) rfl fun aq2 hE3 => wpOps_nil (then_normal (wp_seq ?_)))
  refine cond_of hE3 (b := decide (((j : Nat) : Int) < ((u5083.length : Nat) : Int))) (by kernel_rfl) (fun hc => ?_) (fun hc => ?_)
  · have hlt : j < u5083.length := by have := of_decide_eq_true hc; omega
    refine wp_skip (then_normal (wp_seq (wp_block ?_)))
    obtain ⟨⟨k, x⟩, hu⟩ : ∃ y, u5083[j]? = some y := ⟨_, List.getElem?_eq_getElem hlt⟩
    obtain ⟨bb, bo, xA, xc, hA, hat, hxo, hk⟩ := tag_at h5095 hu
    refine go_seq_region [0, 1, 2, 3] (by kernel_rfl) ?_
    refine of_op (wpOp_index hE3 (t := 35) (e := 56) (size := 2) (bytes := 32) (d := 25) (b := bb) (o := bo) (m := u5083.length) (j := j) (by kernel_rfl) (by kernel_rfl) hA rfl hlt fun aq3 hE4 => ?_)
    refine of_op (wpOp_load hE4 (t := 56) (d := 26) (cs := [.int .u32 k, .slice xA x.length xc]) (v := .agg #[.int .u32 k, .slice xA x.length xc]) (by kernel_rfl) (by kernel_rfl) (hat.step_nil hT.step) fun aq4 hE5 => ?_)
    refine of_op (wpOp_alloc hWq hE5 (d := 5) (cs := [.int .u32 0, .slice none 0 0]) (by kernel_rfl) fun bx aq5 wq2 hbx hbx0 hFq2 hWq2 hE6 => ?_)
    refine of_op (wpOp_store hWq2 hE6 (oi := 0) (cs := [.int .u32 k, .slice xA x.length xc]) (by kernel_rfl) fun wq3 hFq3 hWq3 hE7 => wpOps_nil (then_normal ?_))
    have hWq4 := hWq3.drew
    refine region_draw (fun wz => CellsOk wz [⟨bx, 0, [.int .u32 k, .slice xA x.length xc], true⟩]) 8 (by kernel_rfl) ?_
    refine go_runsD [0, 1, 2, 3, 4, 5, 6] [0, 21, 22, 23, 29, 31, 33] 1 (by kernel_rfl) (panicFree_block (panicFree_then (panicFree_then (panicFree_block panicFree_body)))) (fun _ h => h) hWq4.cells hE7 (by kernel_rfl) (env' := [(0, .v (.pointer (some ⟨b5111, 0, none⟩))), (21, .v (.slice A5088 u5083.length c5089)), (22, .v (.int .i64 ((u5083.length : Nat) : Int))), (23, .v (.int .i64 ((j : Nat) : Int))), (29, .v (.pointer (some ⟨b5111, 3, none⟩))), (31, .v (.int .u32 k)), (33, .v (.slice xA x.length xc))]) (by kernel_rfl) rfl fun aq6 hE8 => ?_
    refine anyC_op (i := 7) (by kernel_rfl) (wpOp_call hE8 (f := 66) (vs := [.pointer (some ⟨b5111, 3, none⟩), .int .u32 k, .slice xA x.length xc]) (d := 34) (by kernel_rfl) Try.call66 ((hT.move hWq4.step).set hpB (by kernel_rfl) hsort hu hxo hk) ?_)
    rintro e_ wq5 ⟨rfl, hS5, r, hT5⟩
    refine ⟨_, rfl, fun aq7 hE9 => ⟨fun _ => hT.keeps (off := 3) (by kernel_rfl) hS5 hWq4.cells (fun ob hm => by rw [List.mem_singleton.1 hm]; exact Nat.le_of_eq hbx.symm), anyC_done (by kernel_rfl) (block_normal (then_normal ?_)) _⟩⟩
    have hE10 := (hE9.pick (ks := [0, 21, 22, 23]) (env' := [(0, .v (.pointer (some ⟨b5111, 0, none⟩))), (21, .v (.slice A5088 u5083.length c5089)), (22, .v (.int .i64 ((u5083.length : Nat) : Int))), (23, .v (.int .i64 ((j : Nat) : Int)))]) (by kernel_rfl)).cutTb 0 (by kernel_rfl)
    refine go_region [0, 1] (by kernel_rfl) (go_runs [0, 1] [] [0, 21, 22, 23] (WOk.start wq5 Nil) hE10 (env' := [(0, .v (.pointer (some ⟨b5111, 0, none⟩))), (21, .v (.slice A5088 u5083.length c5089)), (22, .v (.int .i64 ((u5083.length : Nat) : Int))), (23, .v (.int .i64 (IntKind.i64.wrap (((j : Nat) : Int) + 1))))]) (by kernel_rfl) rfl fun aq8 hE11 => wpOps_nil (then_normal ?_))
    rw [wrap_succ (by omega)] at hE11
    exact ⟨u5083.length - (j + 1), by omega, j + 1, some r, rfl, by omega, hE11, hT5⟩
  · obtain rfl : j = u5083.length := by have := of_decide_eq_false hc; omega
    refine wp_exit (then_exit (then_exit (block_exit ?_)))
    rw [List.take_length] at hT
    refine leave_end hE3 hWq.cells (v := .tuple #[]) (by kernel_rfl) ?_
    refine ⟨_, rfl, fun aq9 hE12 => ?_⟩
    have hE13 := ((hE12.recast 5 (.p 1 0) (.v (.pointer (some ⟨b5111, 0, none⟩))) rfl rfl trivial).pick (ks := [5]) (env' := [(5, .v (.pointer (some ⟨b5111, 0, none⟩)))]) (by kernel_rfl)).cutTb 0 (by kernel_rfl)
    refine wpOps_nil (then_normal ?_)
    refine go_seq_region [0, 1, 2] (by kernel_rfl) ?_
    refine go_runs [0] [1, 2] [15] hWq hE13 (env' := [(15, .v (.pointer (some ⟨b5111, 0, none⟩)))]) (by kernel_rfl) rfl fun aq10 hE14 => ?_
    have he : aHeartbeatResponse (IntKind.i16.wrap v) (IntKind.i32.wrap n5155) (IntKind.i16.wrap n5192) u5083 = makeHeartbeatResponse v (Tree.mk n5079 s5080 b5081 l5082 u5083) := by simp only [makeHeartbeatResponse, ht5172, ht5209]; rfl
    rw [← he] at hroom ⊢
    refine of_op (wpOp_call hE14 (f := 52) (vs := [.pointer (some ⟨b5111, 0, none⟩), .slice none 0 0]) (d := 16) (by kernel_rfl) Try.call52 (kHeartbeatResponse (IntKind.i16.wrap v) (IntKind.i32.wrap n5155) (IntKind.i16.wrap n5192) u5083 b5111 0 m_ none 0 [] _ _ hT.str.atF (hT.map hsort (tags_range h5095)) hul hxl none_blk (World.ownsRow_nil _ 0 _ _) (by simpa using hroom)) ?_)
    rintro e_ wq6 ⟨A', c', rfl, ho, hs, hn⟩
    refine ⟨_, rfl, fun aq11 hE15 => ?_⟩
    refine go_runs [2] [] [4] (WOk.start wq6 Nil) hE15 (env' := [(4, .v (.slice A' ([] ++ aHeartbeatResponse (IntKind.i16.wrap v) (IntKind.i32.wrap n5155) (IntKind.i16.wrap n5192) u5083).length c'))]) (by kernel_rfl) rfl fun aq12 hE16 => wpOps_nil (then_normal (wp_ret ?_))
    refine leave hE16 (WOk.start wq6 Nil).cells (v := .slice A' ([] ++ aHeartbeatResponse (IntKind.i16.wrap v) (IntKind.i32.wrap n5155) (IntKind.i16.wrap n5192) u5083).length c') (by kernel_rfl) ?_
    exact fresh_of_app hT.step ⟨A', c', rfl, ho, hs, hn⟩

def makeRenewDelegationTokenResponse (v : Int) (t : Tree) : Bs := aRenewDelegationTokenResponse (IntKind.i16.wrap v) (IntKind.i16.wrap (t.at_ 0).N) ((t.at_ 1).N) (IntKind.i32.wrap (t.at_ 2).N) t.U
theorem mRenewDelegationTokenResponse (v : Int) (ct : List Value) (t : Tree) (w : World) (F : Nat → Nat → Prop) (ht : TreeR w F ct t) (hsort : Sorted t.U) (hul : t.U.length ≤ 1000000) (hxl : ∀ x ∈ t.U, x.2.length < 4294967296) (hroom : (makeRenewDelegationTokenResponse v t).length + 16 ≤ 1099511627776) : Calls Try.prog 28 #[.int .i64 v, .agg ct.toArray] w (FreshB w 5 (makeRenewDelegationTokenResponse v t)) := by
  obtain ⟨n5224, s5225, b5226, l5227, u5228, A5229, c5230, A5231, c5232, A5233, c5234, xs5235, rfl, rfl, h5237, h5238, h5239, h5240⟩ := ht.open_
  have hsm5242 := h5237.small
  have hsm5243 := h5238.small
  replace hsort : Sorted u5228 := hsort
  replace hul : u5228.length ≤ 1000000 := hul
  replace hxl : ∀ x ∈ u5228, x.2.length < 4294967296 := hxl
  refine enter (n := 17) Try.func28 rfl Try.ntmps28 (by kernel_rfl) fun a hE => ?_
  have hW := WOk.start w Nil
  refine go_seq_region [0, 1] (by kernel_rfl) ?_
  refine of_op (wpOp_box hW hE (d := 3) (cs := [.int .i64 n5224, .slice A5229 s5225.length c5230, .bool b5226, .slice A5231 l5227.length c5232, .slice A5233 u5228.length c5234]) (by kernel_rfl) fun b5244 a5245 w5246 hb5247 hz5248 hF5249 hW5250 hE5251 => ?_)
  clear hE hW
  refine go_runs [1] [] [0, 3] hW5250 hE5251 (env' := [(0, .v (.int .i64 v)), (3, .p 0 0)]) (by kernel_rfl) rfl fun a5252 hE5253 => ?_
  clear hE5251
  refine wpOps_nil ?_
  refine then_normal ?_
  refine go_seq_region [0, 1, 2] (by kernel_rfl) ?_
  refine go_runs [0] [1, 2] [0, 3, 6] hW5250 hE5253 (env' := [(0, .v (.int .i64 v)), (3, .p 0 0), (6, .v (.agg #[.int .i16 0, .int .i16 0, .int .i64 0, .int .i32 0, .map none]))]) (by kernel_rfl) rfl fun a5254 hE5255 => ?_
  clear hE5253
  refine of_op (wpOp_box hW5250 hE5255 (d := 7) (cs := [.int .i16 0, .int .i16 0, .int .i64 0, .int .i32 0, .map none]) (by kernel_rfl) fun b5256 a5257 w5258 hb5259 hz5260 hF5261 hW5262 hE5263 => ?_)
  clear hE5255 hW5250
  refine go_runs [2] [] [0, 3, 5] hW5262 hE5263 (env' := [(0, .v (.int .i64 v)), (3, .p 0 0), (5, .p 1 0)]) (by kernel_rfl) rfl fun a5264 hE5265 => ?_
  clear hE5263
  refine wpOps_nil ?_
  refine then_normal ?_
  refine go_seq_region [0, 1, 2, 3] (by kernel_rfl) ?_
  refine go_runs [0, 1, 2] [3] [3, 5, 8, 10] hW5262 hE5265 (env' := [(3, .p 0 0), (5, .p 1 0), (8, .p 1 0), (10, .v (.int .i16 (IntKind.i16.wrap v)))]) (by kernel_rfl) rfl fun a5266 hE5267 => ?_
  clear hE5265
  refine of_op (wpOp_inline hE5267 (f := 55) (vs := [.pointer (some ⟨b5256, 0, none⟩), .int .i16 (IntKind.i16.wrap v)]) (d := 11) (n' := 8) (by kernel_rfl) Try.call55 Try.func55 rfl Try.ntmps55 (by kernel_rfl) fun a5268 hE5269 => ?_)
  have hE5270 := hE5269.recast 0 (.v (.pointer (some ⟨b5256, 0, none⟩))) (.p 1 0) rfl rfl (Nat.le_of_ble_eq_true (n := 2) rfl)
  refine go_region [0, 1, 2, 3, 4] (by kernel_rfl) ?_
  refine go_runs [0, 1, 2, 3] [4] [5, 7] hW5262 hE5270 (env' := [(5, .v (.int .i16 (IntKind.i16.wrap v))), (7, .p 1 0)]) (by kernel_rfl) rfl fun a5271 hE5272 => ?_
  clear hE5270
  refine of_op (wpOp_store hW5262 hE5272 (oi := 1) (cs := [.int .i16 (IntKind.i16.wrap v), .int .i16 0, .int .i64 0, .int .i32 0, .map none]) (by kernel_rfl) fun w5273 hF5274 hW5275 hE5276 => ?_)
  clear hE5272 hW5262
  refine wpOps_nil ?_
  refine leave_end hE5276 hW5275.cells (v := .tuple #[]) (by kernel_rfl) ?_
  refine ⟨_, rfl, fun a5277 hE5278 => ?_⟩
  have hE5279 : EnvOk 17 [⟨b5244, 0, [.int .i64 n5224, .slice A5229 s5225.length c5230, .bool b5226, .slice A5231 l5227.length c5232, .slice A5233 u5228.length c5234], true⟩, ⟨b5256, 0, [.int .i16 (IntKind.i16.wrap v), .int .i16 0, .int .i64 0, .int .i32 0, .map none], true⟩] [(11, .v (.tuple #[])), (3, .p 0 0), (5, .p 1 0), (8, .p 1 0), (10, .v (.int .i16 (IntKind.i16.wrap v)))] _ := hE5278.places (⟨rfl, rfl, ⟨rfl, rfl, trivial⟩⟩)
  refine wpOps_nil ?_
  refine then_normal ?_
  refine go_seq_region [0, 1, 2] (by kernel_rfl) ?_
  refine go_runs [0, 1] [2] [5, 12, 13] hW5275 hE5279 (env' := [(5, .p 1 0), (12, .p 1 0), (13, .v (.agg #[.int .i64 n5224, .slice A5229 s5225.length c5230, .bool b5226, .slice A5231 l5227.length c5232, .slice A5233 u5228.length c5234]))]) (by kernel_rfl) rfl fun a5280 hE5281 => ?_
  clear hE5279
  refine of_op (wpOp_inline hE5281 (f := 56) (vs := [.pointer (some ⟨b5256, 0, none⟩), .agg #[.int .i64 n5224, .slice A5229 s5225.length c5230, .bool b5226, .slice A5231 l5227.length c5232, .slice A5233 u5228.length c5234]]) (d := 14) (n' := 42) (by kernel_rfl) Try.call56 Try.func56 rfl Try.ntmps56 (by kernel_rfl) fun a5282 hE5283 => ?_)
  have hE5284 := hE5283.recast 0 (.v (.pointer (some ⟨b5256, 0, none⟩))) (.p 1 0) rfl rfl (Nat.le_of_ble_eq_true (n := 2) rfl)
  refine go_seq_region [0] (by kernel_rfl) ?_
  refine of_op (wpOp_box hW5275 hE5284 (d := 3) (cs := [.int .i64 n5224, .slice A5229 s5225.length c5230, .bool b5226, .slice A5231 l5227.length c5232, .slice A5233 u5228.length c5234]) (by kernel_rfl) fun b5285 a5286 w5287 hb5288 hz5289 hF5290 hW5291 hE5292 => ?_)
  clear hE5284 hW5275
  refine wpOps_nil ?_
  refine then_normal ?_
  refine go_seq_region [0, 1, 2, 3, 4, 5, 6, 7] (by kernel_rfl) ?_
  refine go_runs [0, 1] [2, 3, 4, 5, 6, 7] [0, 3, 6, 7] hW5291 hE5292 (env' := [(0, .p 1 0), (3, .p 2 0), (6, .p 1 0), (7, .v (.agg #[.int .i64 n5224, .slice A5229 s5225.length c5230, .bool b5226, .slice A5231 l5227.length c5232, .slice A5233 u5228.length c5234]))]) (by kernel_rfl) rfl fun a5293 hE5294 => ?_
  clear hE5292
  refine of_op (wpOp_call hE5294 (f := 59) (vs := [.agg #[.int .i64 n5224, .slice A5229 s5225.length c5230, .bool b5226, .slice A5231 l5227.length c5232, .slice A5233 u5228.length c5234], .int .i64 0]) (d := 8) (by kernel_rfl) Try.call59 (iAt _ _ 0 _ _ (ht.move hW5291.step nilM hW5291.imm)) ?_)
  rintro e_ w5298 ⟨cs5297, rfl, hr5296, hs5295⟩
  have hr5299 := hr5296.move hs5295 nilM (fun b o h_ hb_ => hW5291.laid (G := F) hs5295 b o (.inl h_) (Nat.lt_of_lt_of_le hb_ hs5295.size))
  obtain ⟨n5300, s5301, b5302, l5303, u5304, A5305, c5306, A5307, c5308, A5309, c5310, xs5311, ht5317, hcs5312, h5313, h5314, h5315, h5316⟩ := hr5299.open_
  rw [hcs5312] at hr5299
  have hsm5318 := h5313.small
  have hsm5319 := h5314.small
  rw [hcs5312]
  refine ⟨_, rfl, fun a5320 hE5321 => ?_⟩
  have hW5322 := hW5291.next_nil hs5295
  have hF5323 := Fr.nil [⟨b5244, 0, [.int .i64 n5224, .slice A5229 s5225.length c5230, .bool b5226, .slice A5231 l5227.length c5232, .slice A5233 u5228.length c5234], true⟩, ⟨b5256, 0, [.int .i16 (IntKind.i16.wrap v), .int .i16 0, .int .i64 0, .int .i32 0, .map none], true⟩, ⟨b5285, 0, [.int .i64 n5224, .slice A5229 s5225.length c5230, .bool b5226, .slice A5231 l5227.length c5232, .slice A5233 u5228.length c5234], true⟩] [] hs5295
  clear hE5294
  refine go_runs [3, 4, 5, 6] [7] [0, 3, 10, 12] hW5322 hE5321 (env' := [(0, .p 1 0), (3, .p 2 0), (10, .v (.int .i16 (IntKind.i16.wrap n5300))), (12, .p 1 1)]) (by kernel_rfl) rfl fun a5324 hE5325 => ?_
  clear hE5321
  refine of_op (wpOp_store hW5322 hE5325 (oi := 1) (cs := [.int .i16 (IntKind.i16.wrap v), .int .i16 (IntKind.i16.wrap n5300), .int .i64 0, .int .i32 0, .map none]) (by kernel_rfl) fun w5326 hF5327 hW5328 hE5329 => ?_)
  clear hE5325 hW5322
  refine wpOps_nil ?_
  refine then_normal ?_
  refine go_seq_region [0, 1, 2, 3, 4, 5, 6] (by kernel_rfl) ?_
  refine go_runs [0, 1] [2, 3, 4, 5, 6] [0, 3, 13, 14] hW5328 hE5329 (env' := [(0, .p 1 0), (3, .p 2 0), (13, .p 1 0), (14, .v (.agg #[.int .i64 n5224, .slice A5229 s5225.length c5230, .bool b5226, .slice A5231 l5227.length c5232, .slice A5233 u5228.length c5234]))]) (by kernel_rfl) rfl fun a5330 hE5331 => ?_
  clear hE5329
  refine of_op (wpOp_call hE5331 (f := 59) (vs := [.agg #[.int .i64 n5224, .slice A5229 s5225.length c5230, .bool b5226, .slice A5231 l5227.length c5232, .slice A5233 u5228.length c5234], .int .i64 1]) (d := 15) (by kernel_rfl) Try.call59 (iAt _ _ 1 _ _ (ht.move hW5328.step nilM hW5328.imm)) ?_)
  rintro e_ w5335 ⟨cs5334, rfl, hr5333, hs5332⟩
  have hr5336 := hr5333.move hs5332 nilM (fun b o h_ hb_ => hW5328.laid (G := F) hs5332 b o (.inl h_) (Nat.lt_of_lt_of_le hb_ hs5332.size))
  obtain ⟨n5337, s5338, b5339, l5340, u5341, A5342, c5343, A5344, c5345, A5346, c5347, xs5348, ht5354, hcs5349, h5350, h5351, h5352, h5353⟩ := hr5336.open_
  rw [hcs5349] at hr5336
  have hsm5355 := h5350.small
  have hsm5356 := h5351.small
  rw [hcs5349]
  refine ⟨_, rfl, fun a5357 hE5358 => ?_⟩
  have hW5359 := hW5328.next_nil hs5332
  have hF5360 := Fr.nil [⟨b5244, 0, [.int .i64 n5224, .slice A5229 s5225.length c5230, .bool b5226, .slice A5231 l5227.length c5232, .slice A5233 u5228.length c5234], true⟩, ⟨b5256, 0, [.int .i16 (IntKind.i16.wrap v), .int .i16 (IntKind.i16.wrap n5300), .int .i64 0, .int .i32 0, .map none], true⟩, ⟨b5285, 0, [.int .i64 n5224, .slice A5229 s5225.length c5230, .bool b5226, .slice A5231 l5227.length c5232, .slice A5233 u5228.length c5234], true⟩] [] hs5332
  clear hE5331
  refine go_runs [3, 4, 5] [6] [0, 3, 16, 18] hW5359 hE5358 (env' := [(0, .p 1 0), (3, .p 2 0), (16, .v (.int .i64 n5337)), (18, .p 1 2)]) (by kernel_rfl) rfl fun a5361 hE5362 => ?_
  clear hE5358
  refine of_op (wpOp_store hW5359 hE5362 (oi := 1) (cs := [.int .i16 (IntKind.i16.wrap v), .int .i16 (IntKind.i16.wrap n5300), .int .i64 n5337, .int .i32 0, .map none]) (by kernel_rfl) fun w5363 hF5364 hW5365 hE5366 => ?_)
  clear hE5362 hW5359
  refine wpOps_nil ?_
  refine then_normal ?_
  refine go_seq_region [0, 1, 2, 3, 4, 5, 6, 7] (by kernel_rfl) ?_
  refine go_runs [0, 1] [2, 3, 4, 5, 6, 7] [0, 3, 19, 20] hW5365 hE5366 (env' := [(0, .p 1 0), (3, .p 2 0), (19, .p 1 0), (20, .v (.agg #[.int .i64 n5224, .slice A5229 s5225.length c5230, .bool b5226, .slice A5231 l5227.length c5232, .slice A5233 u5228.length c5234]))]) (by kernel_rfl) rfl fun a5367 hE5368 => ?_
  clear hE5366
  refine of_op (wpOp_call hE5368 (f := 59) (vs := [.agg #[.int .i64 n5224, .slice A5229 s5225.length c5230, .bool b5226, .slice A5231 l5227.length c5232, .slice A5233 u5228.length c5234], .int .i64 2]) (d := 21) (by kernel_rfl) Try.call59 (iAt _ _ 2 _ _ (ht.move hW5365.step nilM hW5365.imm)) ?_)
  rintro e_ w5372 ⟨cs5371, rfl, hr5370, hs5369⟩
  have hr5373 := hr5370.move hs5369 nilM (fun b o h_ hb_ => hW5365.laid (G := F) hs5369 b o (.inl h_) (Nat.lt_of_lt_of_le hb_ hs5369.size))
  obtain ⟨n5374, s5375, b5376, l5377, u5378, A5379, c5380, A5381, c5382, A5383, c5384, xs5385, ht5391, hcs5386, h5387, h5388, h5389, h5390⟩ := hr5373.open_
  rw [hcs5386] at hr5373
  have hsm5392 := h5387.small
  have hsm5393 := h5388.small
  rw [hcs5386]
  refine ⟨_, rfl, fun a5394 hE5395 => ?_⟩
  have hW5396 := hW5365.next_nil hs5369
  have hF5397 := Fr.nil [⟨b5244, 0, [.int .i64 n5224, .slice A5229 s5225.length c5230, .bool b5226, .slice A5231 l5227.length c5232, .slice A5233 u5228.length c5234], true⟩, ⟨b5256, 0, [.int .i16 (IntKind.i16.wrap v), .int .i16 (IntKind.i16.wrap n5300), .int .i64 n5337, .int .i32 0, .map none], true⟩, ⟨b5285, 0, [.int .i64 n5224, .slice A5229 s5225.length c5230, .bool b5226, .slice A5231 l5227.length c5232, .slice A5233 u5228.length c5234], true⟩] [] hs5369
  clear hE5368
  refine go_runs [3, 4, 5, 6] [7] [0, 3, 23, 25] hW5396 hE5395 (env' := [(0, .p 1 0), (3, .p 2 0), (23, .v (.int .i32 (IntKind.i32.wrap n5374))), (25, .p 1 3)]) (by kernel_rfl) rfl fun a5398 hE5399 => ?_
  clear hE5395
  refine of_op (wpOp_store hW5396 hE5399 (oi := 1) (cs := [.int .i16 (IntKind.i16.wrap v), .int .i16 (IntKind.i16.wrap n5300), .int .i64 n5337, .int .i32 (IntKind.i32.wrap n5374), .map none]) (by kernel_rfl) fun w5400 hF5401 hW5402 hE5403 => ?_)
  clear hE5399 hW5396
  refine wpOps_nil ?_
  refine then_normal ?_
  refine go_seq_region [0, 1, 2, 3] (by kernel_rfl) ?_
  refine go_runs [0, 1, 2, 3] [] [0, 27, 28, 29] hW5402 hE5403 (env' := [(0, .p 1 0), (27, .v (.slice A5233 u5228.length c5234)), (28, .v (.int .i64 ((u5228.length : Nat) : Int))), (29, .v (.int .i64 0))]) (by kernel_rfl) rfl fun a5404 hE5405 => ?_
  clear hE5403
  refine wpOps_nil ?_
  refine then_normal ?_
  refine wp_block ?_
  have hpB := new_of hW5402 1 rfl (by kernel_rfl)
  have hE0 := hE5405.recast 0 (.p 1 0) (.v (.pointer (some ⟨b5256, 0, none⟩))) rfl rfl trivial
  have hE1 := (hE0.pick (ks := [0, 27, 28, 29]) (env' := [(0, .v (.pointer (some ⟨b5256, 0, none⟩))), (27, .v (.slice A5233 u5228.length c5234)), (28, .v (.int .i64 ((u5228.length : Nat) : Int))), (29, .v (.int .i64 0))]) (by kernel_rfl)).cutTb 0 (by kernel_rfl)
  refine wp_loop_ghost (fun q a_ w_ => ∃ (j : Nat) (m_ : Option Nat), q = u5228.length - j ∧ j ≤ u5228.length ∧ EnvOk 42 [] [(0, .v (.pointer (some ⟨b5256, 0, none⟩))), (27, .v (.slice A5233 u5228.length c5234)), (28, .v (.int .i64 ((u5228.length : Nat) : Int))), (29, .v (.int .i64 ((j : Nat) : Int)))] a_ ∧ TL w w_ F b5256 4 [.int .i16 (IntKind.i16.wrap v), .int .i16 (IntKind.i16.wrap n5300), .int .i64 n5337, .int .i32 (IntKind.i32.wrap n5374), .map none] m_ (u5228.take j)) u5228.length
    ⟨0, none, by omega, by omega, hE1, TL.start hW5402 1 rfl rfl⟩ ?_
  rintro q aq wq ⟨j, m_, rfl, hj, hE2, hT⟩
  have hWq := WOk.start wq Nil
  refine go_seq_region [0] (by kernel_rfl) (go_runs [0] [] [0, 27, 28, 29, 30] hWq hE2 (env' := [(0, .v (.pointer (some ⟨b5256, 0, none⟩))), (27, .v (.slice A5233 u5228.length c5234)), (28, .v (.int .i64 ((u5228.length : Nat) : Int))), (29, .v (.int .i64 ((j : Nat) : Int))), (30, .v (.bool (decide (((j : Nat) : Int) < ((u5228.length : Nat) : Int)))))]) (by kernel_rfl) rfl fun aq2 hE3 => wpOps_nil (then_normal (wp_seq ?_)))
  refine cond_of hE3 (b := decide (((j : Nat) : Int) < ((u5228.length : Nat) : Int))) (by kernel_rfl) (fun hc => ?_) (fun hc => ?_)
  · have hlt : j < u5228.length := by have := of_decide_eq_true hc; omega
    refine wp_skip (then_normal (wp_seq (wp_block ?_)))
    obtain ⟨⟨k, x⟩, hu⟩ : ∃ y, u5228[j]? = some y := ⟨_, List.getElem?_eq_getElem hlt⟩
    obtain ⟨bb, bo, xA, xc, hA, hat, hxo, hk⟩ := tag_at h5240 hu
    refine go_seq_region [0, 1, 2, 3] (by kernel_rfl) ?_
    refine of_op (wpOp_index hE3 (t := 35) (e := 56) (size := 2) (bytes := 32) (d := 31) (b := bb) (o := bo) (m := u5228.length) (j := j) (by kernel_rfl) (by kernel_rfl) hA rfl hlt fun aq3 hE4 => ?_)
    refine of_op (wpOp_load hE4 (t := 56) (d := 32) (cs := [.int .u32 k, .slice xA x.length xc]) (v := .agg #[.int .u32 k, .slice xA x.length xc]) (by kernel_rfl) (by kernel_rfl) (hat.step_nil hT.step) fun aq4 hE5 => ?_)
    refine of_op (wpOp_alloc hWq hE5 (d := 5) (cs := [.int .u32 0, .slice none 0 0]) (by kernel_rfl) fun bx aq5 wq2 hbx hbx0 hFq2 hWq2 hE6 => ?_)
    refine of_op (wpOp_store hWq2 hE6 (oi := 0) (cs := [.int .u32 k, .slice xA x.length xc]) (by kernel_rfl) fun wq3 hFq3 hWq3 hE7 => wpOps_nil (then_normal ?_))
    have hWq4 := hWq3.drew
    refine region_draw (fun wz => CellsOk wz [⟨bx, 0, [.int .u32 k, .slice xA x.length xc], true⟩]) 8 (by kernel_rfl) ?_
    refine go_runsD [0, 1, 2, 3, 4, 5, 6] [0, 27, 28, 29, 35, 37, 39] 1 (by kernel_rfl) (panicFree_block (panicFree_then (panicFree_then (panicFree_block panicFree_body)))) (fun _ h => h) hWq4.cells hE7 (by kernel_rfl) (env' := [(0, .v (.pointer (some ⟨b5256, 0, none⟩))), (27, .v (.slice A5233 u5228.length c5234)), (28, .v (.int .i64 ((u5228.length : Nat) : Int))), (29, .v (.int .i64 ((j : Nat) : Int))), (35, .v (.pointer (some ⟨b5256, 4, none⟩))), (37, .v (.int .u32 k)), (39, .v (.slice xA x.length xc))]) (by kernel_rfl) rfl fun aq6 hE8 => ?_
    refine anyC_op (i := 7) (by kernel_rfl) (wpOp_call hE8 (f := 66) (vs := [.pointer (some ⟨b5256, 4, none⟩), .int .u32 k, .slice xA x.length xc]) (d := 40) (by kernel_rfl) Try.call66 ((hT.move hWq4.step).set hpB (by kernel_rfl) hsort hu hxo hk) ?_)
    rintro e_ wq5 ⟨rfl, hS5, r, hT5⟩
    refine ⟨_, rfl, fun aq7 hE9 => ⟨fun _ => hT.keeps (off := 4) (by kernel_rfl) hS5 hWq4.cells (fun ob hm => by rw [List.mem_singleton.1 hm]; exact Nat.le_of_eq hbx.symm), anyC_done (by kernel_rfl) (block_normal (then_normal ?_)) _⟩⟩
    have hE10 := (hE9.pick (ks := [0, 27, 28, 29]) (env' := [(0, .v (.pointer (some ⟨b5256, 0, none⟩))), (27, .v (.slice A5233 u5228.length c5234)), (28, .v (.int .i64 ((u5228.length : Nat) : Int))), (29, .v (.int .i64 ((j : Nat) : Int)))]) (by kernel_rfl)).cutTb 0 (by kernel_rfl)
    refine go_region [0, 1] (by kernel_rfl) (go_runs [0, 1] [] [0, 27, 28, 29] (WOk.start wq5 Nil) hE10 (env' := [(0, .v (.pointer (some ⟨b5256, 0, none⟩))), (27, .v (.slice A5233 u5228.length c5234)), (28, .v (.int .i64 ((u5228.length : Nat) : Int))), (29, .v (.int .i64 (IntKind.i64.wrap (((j : Nat) : Int) + 1))))]) (by kernel_rfl) rfl fun aq8 hE11 => wpOps_nil (then_normal ?_))
    rw [wrap_succ (by omega)] at hE11
    exact ⟨u5228.length - (j + 1), by omega, j + 1, some r, rfl, by omega, hE11, hT5⟩
  · obtain rfl : j = u5228.length := by have := of_decide_eq_false hc; omega
    refine wp_exit (then_exit (then_exit (block_exit ?_)))
    rw [List.take_length] at hT
    refine leave_end hE3 hWq.cells (v := .tuple #[]) (by kernel_rfl) ?_
    refine ⟨_, rfl, fun aq9 hE12 => ?_⟩
    have hE13 := ((hE12.recast 5 (.p 1 0) (.v (.pointer (some ⟨b5256, 0, none⟩))) rfl rfl trivial).pick (ks := [5]) (env' := [(5, .v (.pointer (some ⟨b5256, 0, none⟩)))]) (by kernel_rfl)).cutTb 0 (by kernel_rfl)
    refine wpOps_nil (then_normal ?_)
    refine go_seq_region [0, 1, 2] (by kernel_rfl) ?_
    refine go_runs [0] [1, 2] [15] hWq hE13 (env' := [(15, .v (.pointer (some ⟨b5256, 0, none⟩)))]) (by kernel_rfl) rfl fun aq10 hE14 => ?_
    have he : aRenewDelegationTokenResponse (IntKind.i16.wrap v) (IntKind.i16.wrap n5300) n5337 (IntKind.i32.wrap n5374) u5228 = makeRenewDelegationTokenResponse v (Tree.mk n5224 s5225 b5226 l5227 u5228) := by simp only [makeRenewDelegationTokenResponse, ht5317, ht5354, ht5391]; rfl
    rw [← he] at hroom ⊢
    refine of_op (wpOp_call hE14 (f := 57) (vs := [.pointer (some ⟨b5256, 0, none⟩), .slice none 0 0]) (d := 16) (by kernel_rfl) Try.call57 (kRenewDelegationTokenResponse (IntKind.i16.wrap v) (IntKind.i16.wrap n5300) n5337 (IntKind.i32.wrap n5374) u5228 b5256 0 m_ none 0 [] _ _ hT.str.atF (hT.map hsort (tags_range h5240)) hul hxl none_blk (World.ownsRow_nil _ 0 _ _) (by simpa using hroom)) ?_)
    rintro e_ wq6 ⟨A', c', rfl, ho, hs, hn⟩
    refine ⟨_, rfl, fun aq11 hE15 => ?_⟩
    refine go_runs [2] [] [4] (WOk.start wq6 Nil) hE15 (env' := [(4, .v (.slice A' ([] ++ aRenewDelegationTokenResponse (IntKind.i16.wrap v) (IntKind.i16.wrap n5300) n5337 (IntKind.i32.wrap n5374) u5228).length c'))]) (by kernel_rfl) rfl fun aq12 hE16 => wpOps_nil (then_normal (wp_ret ?_))
    refine leave hE16 (WOk.start wq6 Nil).cells (v := .slice A' ([] ++ aRenewDelegationTokenResponse (IntKind.i16.wrap v) (IntKind.i16.wrap n5300) n5337 (IntKind.i32.wrap n5374) u5228).length c') (by kernel_rfl) ?_
    exact fresh_of_app hT.step ⟨A', c', rfl, ho, hs, hn⟩

def makeUnregisterControllerRequest (v : Int) (t : Tree) : Bs := aUnregisterControllerRequest (IntKind.i16.wrap v) (IntKind.i32.wrap (t.at_ 0).N) t.U
theorem mUnregisterControllerRequest (v : Int) (ct : List Value) (t : Tree) (w : World) (F : Nat → Nat → Prop) (ht : TreeR w F ct t) (hsort : Sorted t.U) (hul : t.U.length ≤ 1000000) (hxl : ∀ x ∈ t.U, x.2.length < 4294967296) (hroom : (makeUnregisterControllerRequest v t).length + 16 ≤ 1099511627776) : Calls Try.prog 18 #[.int .i64 v, .agg ct.toArray] w (FreshB w 5 (makeUnregisterControllerRequest v t)) := by
  obtain ⟨n5406, s5407, b5408, l5409, u5410, A5411, c5412, A5413, c5414, A5415, c5416, xs5417, rfl, rfl, h5419, h5420, h5421, h5422⟩ := ht.open_
  have hsm5424 := h5419.small
  have hsm5425 := h5420.small
  replace hsort : Sorted u5410 := hsort
  replace hul : u5410.length ≤ 1000000 := hul
  replace hxl : ∀ x ∈ u5410, x.2.length < 4294967296 := hxl
  refine enter (n := 17) Try.func18 rfl Try.ntmps18 (by kernel_rfl) fun a hE => ?_
  have hW := WOk.start w Nil
  refine go_seq_region [0, 1] (by kernel_rfl) ?_
  refine of_op (wpOp_box hW hE (d := 3) (cs := [.int .i64 n5406, .slice A5411 s5407.length c5412, .bool b5408, .slice A5413 l5409.length c5414, .slice A5415 u5410.length c5416]) (by kernel_rfl) fun b5426 a5427 w5428 hb5429 hz5430 hF5431 hW5432 hE5433 => ?_)
  clear hE hW
  refine go_runs [1] [] [0, 3] hW5432 hE5433 (env' := [(0, .v (.int .i64 v)), (3, .p 0 0)]) (by kernel_rfl) rfl fun a5434 hE5435 => ?_
  clear hE5433
  refine wpOps_nil ?_
  refine then_normal ?_
  refine go_seq_region [0, 1, 2] (by kernel_rfl) ?_
  refine go_runs [0] [1, 2] [0, 3, 6] hW5432 hE5435 (env' := [(0, .v (.int .i64 v)), (3, .p 0 0), (6, .v (.agg #[.int .i16 0, .int .i32 0, .map none]))]) (by kernel_rfl) rfl fun a5436 hE5437 => ?_
  clear hE5435
  refine of_op (wpOp_box hW5432 hE5437 (d := 7) (cs := [.int .i16 0, .int .i32 0, .map none]) (by kernel_rfl) fun b5438 a5439 w5440 hb5441 hz5442 hF5443 hW5444 hE5445 => ?_)
  clear hE5437 hW5432
  refine go_runs [2] [] [0, 3, 5] hW5444 hE5445 (env' := [(0, .v (.int .i64 v)), (3, .p 0 0), (5, .p 1 0)]) (by kernel_rfl) rfl fun a5446 hE5447 => ?_
  clear hE5445
  refine wpOps_nil ?_
  refine then_normal ?_
  refine go_seq_region [0, 1, 2, 3] (by kernel_rfl) ?_
  refine go_runs [0, 1, 2] [3] [3, 5, 8, 10] hW5444 hE5447 (env' := [(3, .p 0 0), (5, .p 1 0), (8, .p 1 0), (10, .v (.int .i16 (IntKind.i16.wrap v)))]) (by kernel_rfl) rfl fun a5448 hE5449 => ?_
  clear hE5447
  refine of_op (wpOp_inline hE5449 (f := 39) (vs := [.pointer (some ⟨b5438, 0, none⟩), .int .i16 (IntKind.i16.wrap v)]) (d := 11) (n' := 8) (by kernel_rfl) Try.call39 Try.func39 rfl Try.ntmps39 (by kernel_rfl) fun a5450 hE5451 => ?_)
  have hE5452 := hE5451.recast 0 (.v (.pointer (some ⟨b5438, 0, none⟩))) (.p 1 0) rfl rfl (Nat.le_of_ble_eq_true (n := 2) rfl)
  refine go_region [0, 1, 2, 3, 4] (by kernel_rfl) ?_
  refine go_runs [0, 1, 2, 3] [4] [5, 7] hW5444 hE5452 (env' := [(5, .v (.int .i16 (IntKind.i16.wrap v))), (7, .p 1 0)]) (by kernel_rfl) rfl fun a5453 hE5454 => ?_
  clear hE5452
  refine of_op (wpOp_store hW5444 hE5454 (oi := 1) (cs := [.int .i16 (IntKind.i16.wrap v), .int .i32 0, .map none]) (by kernel_rfl) fun w5455 hF5456 hW5457 hE5458 => ?_)
  clear hE5454 hW5444
  refine wpOps_nil ?_
  refine leave_end hE5458 hW5457.cells (v := .tuple #[]) (by kernel_rfl) ?_
  refine ⟨_, rfl, fun a5459 hE5460 => ?_⟩
  have hE5461 : EnvOk 17 [⟨b5426, 0, [.int .i64 n5406, .slice A5411 s5407.length c5412, .bool b5408, .slice A5413 l5409.length c5414, .slice A5415 u5410.length c5416], true⟩, ⟨b5438, 0, [.int .i16 (IntKind.i16.wrap v), .int .i32 0, .map none], true⟩] [(11, .v (.tuple #[])), (3, .p 0 0), (5, .p 1 0), (8, .p 1 0), (10, .v (.int .i16 (IntKind.i16.wrap v)))] _ := hE5460.places (⟨rfl, rfl, ⟨rfl, rfl, trivial⟩⟩)
  refine wpOps_nil ?_
  refine then_normal ?_
  refine go_seq_region [0, 1, 2] (by kernel_rfl) ?_
  refine go_runs [0, 1] [2] [5, 12, 13] hW5457 hE5461 (env' := [(5, .p 1 0), (12, .p 1 0), (13, .v (.agg #[.int .i64 n5406, .slice A5411 s5407.length c5412, .bool b5408, .slice A5413 l5409.length c5414, .slice A5415 u5410.length c5416]))]) (by kernel_rfl) rfl fun a5462 hE5463 => ?_
  clear hE5461
  refine of_op (wpOp_inline hE5463 (f := 40) (vs := [.pointer (some ⟨b5438, 0, none⟩), .agg #[.int .i64 n5406, .slice A5411 s5407.length c5412, .bool b5408, .slice A5413 l5409.length c5414, .slice A5415 u5410.length c5416]]) (d := 14) (n' := 29) (by kernel_rfl) Try.call40 Try.func40 rfl Try.ntmps40 (by kernel_rfl) fun a5464 hE5465 => ?_)
  have hE5466 := hE5465.recast 0 (.v (.pointer (some ⟨b5438, 0, none⟩))) (.p 1 0) rfl rfl (Nat.le_of_ble_eq_true (n := 2) rfl)
  refine go_seq_region [0] (by kernel_rfl) ?_
  refine of_op (wpOp_box hW5457 hE5466 (d := 3) (cs := [.int .i64 n5406, .slice A5411 s5407.length c5412, .bool b5408, .slice A5413 l5409.length c5414, .slice A5415 u5410.length c5416]) (by kernel_rfl) fun b5467 a5468 w5469 hb5470 hz5471 hF5472 hW5473 hE5474 => ?_)
  clear hE5466 hW5457
  refine wpOps_nil ?_
  refine then_normal ?_
  refine go_seq_region [0, 1, 2, 3, 4, 5, 6, 7] (by kernel_rfl) ?_
  refine go_runs [0, 1] [2, 3, 4, 5, 6, 7] [0, 3, 6, 7] hW5473 hE5474 (env' := [(0, .p 1 0), (3, .p 2 0), (6, .p 1 0), (7, .v (.agg #[.int .i64 n5406, .slice A5411 s5407.length c5412, .bool b5408, .slice A5413 l5409.length c5414, .slice A5415 u5410.length c5416]))]) (by kernel_rfl) rfl fun a5475 hE5476 => ?_
  clear hE5474
  refine of_op (wpOp_call hE5476 (f := 59) (vs := [.agg #[.int .i64 n5406, .slice A5411 s5407.length c5412, .bool b5408, .slice A5413 l5409.length c5414, .slice A5415 u5410.length c5416], .int .i64 0]) (d := 8) (by kernel_rfl) Try.call59 (iAt _ _ 0 _ _ (ht.move hW5473.step nilM hW5473.imm)) ?_)
  rintro e_ w5480 ⟨cs5479, rfl, hr5478, hs5477⟩
  have hr5481 := hr5478.move hs5477 nilM (fun b o h_ hb_ => hW5473.laid (G := F) hs5477 b o (.inl h_) (Nat.lt_of_lt_of_le hb_ hs5477.size))
  obtain ⟨n5482, s5483, b5484, l5485, u5486, A5487, c5488, A5489, c5490, A5491, c5492, xs5493, ht5499, hcs5494, h5495, h5496, h5497, h5498⟩ := hr5481.open_
  rw [hcs5494] at hr5481
  have hsm5500 := h5495.small
  have hsm5501 := h5496.small
  rw [hcs5494]
  refine ⟨_, rfl, fun a5502 hE5503 => ?_⟩
  have hW5504 := hW5473.next_nil hs5477
  have hF5505 := Fr.nil [⟨b5426, 0, [.int .i64 n5406, .slice A5411 s5407.length c5412, .bool b5408, .slice A5413 l5409.length c5414, .slice A5415 u5410.length c5416], true⟩, ⟨b5438, 0, [.int .i16 (IntKind.i16.wrap v), .int .i32 0, .map none], true⟩, ⟨b5467, 0, [.int .i64 n5406, .slice A5411 s5407.length c5412, .bool b5408, .slice A5413 l5409.length c5414, .slice A5415 u5410.length c5416], true⟩] [] hs5477
  clear hE5476
  refine go_runs [3, 4, 5, 6] [7] [0, 3, 10, 12] hW5504 hE5503 (env' := [(0, .p 1 0), (3, .p 2 0), (10, .v (.int .i32 (IntKind.i32.wrap n5482))), (12, .p 1 1)]) (by kernel_rfl) rfl fun a5506 hE5507 => ?_
  clear hE5503
  refine of_op (wpOp_store hW5504 hE5507 (oi := 1) (cs := [.int .i16 (IntKind.i16.wrap v), .int .i32 (IntKind.i32.wrap n5482), .map none]) (by kernel_rfl) fun w5508 hF5509 hW5510 hE5511 => ?_)
  clear hE5507 hW5504
  refine wpOps_nil ?_
  refine then_normal ?_
  refine go_seq_region [0, 1, 2, 3] (by kernel_rfl) ?_
  refine go_runs [0, 1, 2, 3] [] [0, 14, 15, 16] hW5510 hE5511 (env' := [(0, .p 1 0), (14, .v (.slice A5415 u5410.length c5416)), (15, .v (.int .i64 ((u5410.length : Nat) : Int))), (16, .v (.int .i64 0))]) (by kernel_rfl) rfl fun a5512 hE5513 => ?_
  clear hE5511
  refine wpOps_nil ?_
  refine then_normal ?_
  refine wp_block ?_
  have hpB := new_of hW5510 1 rfl (by kernel_rfl)
  have hE0 := hE5513.recast 0 (.p 1 0) (.v (.pointer (some ⟨b5438, 0, none⟩))) rfl rfl trivial
  have hE1 := (hE0.pick (ks := [0, 14, 15, 16]) (env' := [(0, .v (.pointer (some ⟨b5438, 0, none⟩))), (14, .v (.slice A5415 u5410.length c5416)), (15, .v (.int .i64 ((u5410.length : Nat) : Int))), (16, .v (.int .i64 0))]) (by kernel_rfl)).cutTb 0 (by kernel_rfl)
  refine wp_loop_ghost (fun q a_ w_ => ∃ (j : Nat) (m_ : Option Nat), q = u5410.length - j ∧ j ≤ u5410.length ∧ EnvOk 29 [] [(0, .v (.pointer (some ⟨b5438, 0, none⟩))), (14, .v (.slice A5415 u5410.length c5416)), (15, .v (.int .i64 ((u5410.length : Nat) : Int))), (16, .v (.int .i64 ((j : Nat) : Int)))] a_ ∧ TL w w_ F b5438 2 [.int .i16 (IntKind.i16.wrap v), .int .i32 (IntKind.i32.wrap n5482), .map none] m_ (u5410.take j)) u5410.length
    ⟨0, none, by omega, by omega, hE1, TL.start hW5510 1 rfl rfl⟩ ?_
  rintro q aq wq ⟨j, m_, rfl, hj, hE2, hT⟩
  have hWq := WOk.start wq Nil
  refine go_seq_region [0] (by kernel_rfl) (go_runs [0] [] [0, 14, 15, 16, 17] hWq hE2 (env' := [(0, .v (.pointer (some ⟨b5438, 0, none⟩))), (14, .v (.slice A5415 u5410.length c5416)), (15, .v (.int .i64 ((u5410.length : Nat) : Int))), (16, .v (.int .i64 ((j : Nat) : Int))), (17, .v (.bool (decide (((j : Nat) : Int) < ((u5410.length : Nat) : Int)))))]) (by kernel_rfl) rfl fun aq2 hE3 => wpOps_nil (then_normal (wp_seq ?_)))
  refine cond_of hE3 (b := decide (((j : Nat) : Int) < ((u5410.length : Nat) : Int))) (by kernel_rfl) (fun hc => ?_) (fun hc => ?_)
  · have hlt : j < u5410.length := by have := of_decide_eq_true hc; omega
    refine wp_skip (then_normal (wp_seq (wp_block ?_)))
    obtain ⟨⟨k, x⟩, hu⟩ : ∃ y, u5410[j]? = some y := ⟨_, List.getElem?_eq_getElem hlt⟩
    obtain ⟨bb, bo, xA, xc, hA, hat, hxo, hk⟩ := tag_at h5422 hu
    refine go_seq_region [0, 1, 2, 3] (by kernel_rfl) ?_
    refine of_op (wpOp_index hE3 (t := 35) (e := 56) (size := 2) (bytes := 32) (d := 18) (b := bb) (o := bo) (m := u5410.length) (j := j) (by kernel_rfl) (by kernel_rfl) hA rfl hlt fun aq3 hE4 => ?_)
    refine of_op (wpOp_load hE4 (t := 56) (d := 19) (cs := [.int .u32 k, .slice xA x.length xc]) (v := .agg #[.int .u32 k, .slice xA x.length xc]) (by kernel_rfl) (by kernel_rfl) (hat.step_nil hT.step) fun aq4 hE5 => ?_)
    refine of_op (wpOp_alloc hWq hE5 (d := 5) (cs := [.int .u32 0, .slice none 0 0]) (by kernel_rfl) fun bx aq5 wq2 hbx hbx0 hFq2 hWq2 hE6 => ?_)
    refine of_op (wpOp_store hWq2 hE6 (oi := 0) (cs := [.int .u32 k, .slice xA x.length xc]) (by kernel_rfl) fun wq3 hFq3 hWq3 hE7 => wpOps_nil (then_normal ?_))
    have hWq4 := hWq3.drew
    refine region_draw (fun wz => CellsOk wz [⟨bx, 0, [.int .u32 k, .slice xA x.length xc], true⟩]) 8 (by kernel_rfl) ?_
    refine go_runsD [0, 1, 2, 3, 4, 5, 6] [0, 14, 15, 16, 22, 24, 26] 1 (by kernel_rfl) (panicFree_block (panicFree_then (panicFree_then (panicFree_block panicFree_body)))) (fun _ h => h) hWq4.cells hE7 (by kernel_rfl) (env' := [(0, .v (.pointer (some ⟨b5438, 0, none⟩))), (14, .v (.slice A5415 u5410.length c5416)), (15, .v (.int .i64 ((u5410.length : Nat) : Int))), (16, .v (.int .i64 ((j : Nat) : Int))), (22, .v (.pointer (some ⟨b5438, 2, none⟩))), (24, .v (.int .u32 k)), (26, .v (.slice xA x.length xc))]) (by kernel_rfl) rfl fun aq6 hE8 => ?_
    refine anyC_op (i := 7) (by kernel_rfl) (wpOp_call hE8 (f := 66) (vs := [.pointer (some ⟨b5438, 2, none⟩), .int .u32 k, .slice xA x.length xc]) (d := 27) (by kernel_rfl) Try.call66 ((hT.move hWq4.step).set hpB (by kernel_rfl) hsort hu hxo hk) ?_)
    rintro e_ wq5 ⟨rfl, hS5, r, hT5⟩
    refine ⟨_, rfl, fun aq7 hE9 => ⟨fun _ => hT.keeps (off := 2) (by kernel_rfl) hS5 hWq4.cells (fun ob hm => by rw [List.mem_singleton.1 hm]; exact Nat.le_of_eq hbx.symm), anyC_done (by kernel_rfl) (block_normal (then_normal ?_)) _⟩⟩
    have hE10 := (hE9.pick (ks := [0, 14, 15, 16]) (env' := [(0, .v (.pointer (some ⟨b5438, 0, none⟩))), (14, .v (.slice A5415 u5410.length c5416)), (15, .v (.int .i64 ((u5410.length : Nat) : Int))), (16, .v (.int .i64 ((j : Nat) : Int)))]) (by kernel_rfl)).cutTb 0 (by kernel_rfl)
    refine go_region [0, 1] (by kernel_rfl) (go_runs [0, 1] [] [0, 14, 15, 16] (WOk.start wq5 Nil) hE10 (env' := [(0, .v (.pointer (some ⟨b5438, 0, none⟩))), (14, .v (.slice A5415 u5410.length c5416)), (15, .v (.int .i64 ((u5410.length : Nat) : Int))), (16, .v (.int .i64 (IntKind.i64.wrap (((j : Nat) : Int) + 1))))]) (by kernel_rfl) rfl fun aq8 hE11 => wpOps_nil (then_normal ?_))
    rw [wrap_succ (by omega)] at hE11
    exact ⟨u5410.length - (j + 1), by omega, j + 1, some r, rfl, by omega, hE11, hT5⟩
  · obtain rfl : j = u5410.length := by have := of_decide_eq_false hc; omega
    refine wp_exit (then_exit (then_exit (block_exit ?_)))
    rw [List.take_length] at hT
    refine leave_end hE3 hWq.cells (v := .tuple #[]) (by kernel_rfl) ?_
    refine ⟨_, rfl, fun aq9 hE12 => ?_⟩
    have hE13 := ((hE12.recast 5 (.p 1 0) (.v (.pointer (some ⟨b5438, 0, none⟩))) rfl rfl trivial).pick (ks := [5]) (env' := [(5, .v (.pointer (some ⟨b5438, 0, none⟩)))]) (by kernel_rfl)).cutTb 0 (by kernel_rfl)
    refine wpOps_nil (then_normal ?_)
    refine go_seq_region [0, 1, 2] (by kernel_rfl) ?_
    refine go_runs [0] [1, 2] [15] hWq hE13 (env' := [(15, .v (.pointer (some ⟨b5438, 0, none⟩)))]) (by kernel_rfl) rfl fun aq10 hE14 => ?_
    have he : aUnregisterControllerRequest (IntKind.i16.wrap v) (IntKind.i32.wrap n5482) u5410 = makeUnregisterControllerRequest v (Tree.mk n5406 s5407 b5408 l5409 u5410) := by simp only [makeUnregisterControllerRequest, ht5499]; rfl
    rw [← he] at hroom ⊢
    refine of_op (wpOp_call hE14 (f := 41) (vs := [.pointer (some ⟨b5438, 0, none⟩), .slice none 0 0]) (d := 16) (by kernel_rfl) Try.call41 (kUnregisterControllerRequest (IntKind.i16.wrap v) (IntKind.i32.wrap n5482) u5410 b5438 0 m_ none 0 [] _ _ hT.str.atF (hT.map hsort (tags_range h5422)) hul hxl none_blk (World.ownsRow_nil _ 0 _ _) (by simpa using hroom)) ?_)
    rintro e_ wq6 ⟨A', c', rfl, ho, hs, hn⟩
    refine ⟨_, rfl, fun aq11 hE15 => ?_⟩
    refine go_runs [2] [] [4] (WOk.start wq6 Nil) hE15 (env' := [(4, .v (.slice A' ([] ++ aUnregisterControllerRequest (IntKind.i16.wrap v) (IntKind.i32.wrap n5482) u5410).length c'))]) (by kernel_rfl) rfl fun aq12 hE16 => wpOps_nil (then_normal (wp_ret ?_))
    refine leave hE16 (WOk.start wq6 Nil).cells (v := .slice A' ([] ++ aUnregisterControllerRequest (IntKind.i16.wrap v) (IntKind.i32.wrap n5482) u5410).length c') (by kernel_rfl) ?_
    exact fresh_of_app hT.step ⟨A', c', rfl, ho, hs, hn⟩

end Go.Proofs.Ytlkiilgbpliakaa.ME
