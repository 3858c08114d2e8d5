/- FnMakeDescribeProducersResponse: the statement: of every version and every tree of the bulk that the statement speaks of the law returns true, and leaves its arguments as they are. Own work. -/
import Derived.Test.YtbjopfcbpobnpaaWDpP4
/- Printed by tools/mk.py. Own work. -/
namespace Go.Proofs.Ytbjopfcbpobnpaa.ME
open Go
open Go.RowKit
set_option linter.unusedVariables false
set_option linter.unusedSimpArgs false
set_option maxRecDepth 20000

def clDescribeProducersResponseTopicPartitionActiveProducer (d : DV) : List Value := [.int .i64 ((d.f 0).n), .int .i32 ((d.f 1).n), .int .i32 ((d.f 2).n), .int .i64 ((d.f 3).n), .int .i32 ((d.f 4).n), .int .i64 ((d.f 5).n), .map d.m]
theorem oneDescribeProducersResponseTopicPartitionActiveProducer : ∀ d, ∀ u ∈ clDescribeProducersResponseTopicPartitionActiveProducer d, u.oneCell' = true := fun d => allOne_ok (by kernel_rfl)
theorem mvDescribeProducersResponseTopicPartitionActiveProducer : Moves okDescribeProducersResponseTopicPartitionActiveProducer := by
  intro w w' F F' M d hs hM hF h
  unfold okDescribeProducersResponseTopicPartitionActiveProducer at h ⊢
  obtain ⟨g0, g1, g2, g3, g4, g5, t1, t2, t3, _⟩ := h
  exact ⟨g0, g1, g2, g3, g4, g5, t1.move hs hM hF, t2, t3, trivial⟩

def clDescribeProducersResponseTopicPartition (d : DV) : List Value := [.int .i32 ((d.f 0).n), .int .i16 ((d.f 1).n), .pointer ((d.f 2).A), .slice ((d.f 3).A) ((d.f 3).l) ((d.f 3).c), .map d.m]
theorem oneDescribeProducersResponseTopicPartition : ∀ d, ∀ u ∈ clDescribeProducersResponseTopicPartition d, u.oneCell' = true := fun d => allOne_ok (by kernel_rfl)
theorem mvDescribeProducersResponseTopicPartition : Moves okDescribeProducersResponseTopicPartition := by
  intro w w' F F' M d hs hM hF h
  unfold okDescribeProducersResponseTopicPartition at h ⊢
  obtain ⟨g0, g1, ⟨g2, g2l⟩, ⟨g3, g3l, g3e⟩, t1, t2, t3, _⟩ := h
  exact ⟨g0, g1, ⟨fun ad hA => by
    obtain ⟨b, o, h1, h2⟩ := g2 ad hA
    exact ⟨b, o, h1, h2.move hs hM hF⟩, g2l⟩, ⟨g3.move hs hM hF, g3l, fun i hi => mvDescribeProducersResponseTopicPartitionActiveProducer _ hs hM hF (g3e i hi)⟩, t1.move hs hM hF, t2, t3, trivial⟩

def clDescribeProducersResponseTopic (d : DV) : List Value := [.string ((d.f 0).s), .slice ((d.f 1).A) ((d.f 1).l) ((d.f 1).c), .map d.m]
theorem oneDescribeProducersResponseTopic : ∀ d, ∀ u ∈ clDescribeProducersResponseTopic d, u.oneCell' = true := fun d => allOne_ok (by kernel_rfl)
theorem mvDescribeProducersResponseTopic : Moves okDescribeProducersResponseTopic := by
  intro w w' F F' M d hs hM hF h
  unfold okDescribeProducersResponseTopic at h ⊢
  obtain ⟨g0, ⟨g1, g1l, g1e⟩, t1, t2, t3, _⟩ := h
  exact ⟨g0, ⟨g1.move hs hM hF, g1l, fun i hi => mvDescribeProducersResponseTopicPartition _ hs hM hF (g1e i hi)⟩, t1.move hs hM hF, t2, t3, trivial⟩

set_option maxHeartbeats 4000000 in
theorem eDescribeProducersResponseTopicPartitionActiveProducer (ct : List Value) (t : Tree) (w : World) (F : Nat → Nat → Prop) (ht : TreeR w F ct t) (hc : canDescribeProducersResponseTopicPartitionActiveProducer t) :
    Calls Try.prog 156 #[.agg ct.toArray] w (fun e w' => ∃ D : DV, e = .returned (.agg #[.int .i64 ((D.f 0).n), .int .i32 ((D.f 1).n), .int .i32 ((D.f 2).n), .int .i64 ((D.f 3).n), .int .i32 ((D.f 4).n), .int .i64 ((D.f 5).n), .map D.m]) ∧ okDescribeProducersResponseTopicPartitionActiveProducer w' (Fp F w) D ∧ relDescribeProducersResponseTopicPartitionActiveProducer D t ∧ Step w w' Nil) := by
  obtain ⟨n1, s2, b3, l4, u5, A6, c7, A8, c9, A10, c11, xs12, rfl, rfl, h14, h15, h16, h17⟩ := ht.open_
  have hsm19 := h14.small
  have hsm20 := h15.small
  unfold canDescribeProducersResponseTopicPartitionActiveProducer at hc
  obtain ⟨c0, c1, c2, c3, c4, c5, cU, _⟩ := hc
  have hsort := cU.1
  replace hsort : Sorted u5 := hsort
  have hul : u5.length ≤ 1000000 := cU.2.1
  refine enter (n := 48) Try.func156 rfl Try.ntmps156 (by kernel_rfl) fun a hE => ?_
  have hW := WOk.start w Nil
  refine go_seq_region [0, 1] (by kernel_rfl) ?_
  refine of_op (wpOp_box hW hE (d := 1) (cs := [.int .i64 n1, .slice A6 s2.length c7, .bool b3, .slice A8 l4.length c9, .slice A10 u5.length c11]) (by kernel_rfl) fun b21 a22 w23 hb24 hz25 hF26 hW27 hE28 => ?_)
  clear hE hW
  refine of_op (wpOp_alloc hW27 hE28 (d := 2) (cs := [.int .i64 0, .int .i32 0, .int .i32 0, .int .i64 0, .int .i32 0, .int .i64 0, .map none]) (by kernel_rfl) fun b29 a30 w31 hb32 hz33 hF34 hW35 hE36 => ?_)
  clear hE28 hW27
  refine wpOps_nil ?_
  refine then_normal ?_
  refine go_seq_region [0] (by kernel_rfl) ?_
  refine of_op (wpOp_alloc hW35 hE36 (d := 3) (cs := [.int .i64 0, .int .i32 0, .int .i32 0, .int .i64 0, .int .i32 0, .int .i64 0, .map none]) (by kernel_rfl) fun b37 a38 w39 hb40 hz41 hF42 hW43 hE44 => ?_)
  clear hE36 hW35
  refine wpOps_nil ?_
  refine then_normal ?_
  refine go_seq_region [0, 1, 2, 3, 4] (by kernel_rfl) ?_
  refine go_rn [0] [1, 2, 3, 4] [(1, .p 0 0), (2, .p 1 0), (3, .p 2 0), (6, .v (.agg #[.int .i64 n1, .slice A6 s2.length c7, .bool b3, .slice A8 l4.length c9, .slice A10 u5.length c11]))] hW43 hE44 fun a45 hE46 => ?_
  clear hE44
  refine of_op (wpOp_call hE46 (f := 95) (vs := [.agg #[.int .i64 n1, .slice A6 s2.length c7, .bool b3, .slice A8 l4.length c9, .slice A10 u5.length c11], .int .i64 0]) (d := 7) (by kernel_rfl) Try.call95 (iAt _ _ 0 _ _ (ht.move hW43.step nilM hW43.imm)) ?_)
  rintro e_ w50 ⟨cs49, rfl, hr48, hs47⟩
  have hr51 := hr48.move hs47 nilM (fun b o h_ hb_ => hW43.laid (G := F) hs47 b o (.inl h_) (Nat.lt_of_lt_of_le hb_ hs47.size))
  obtain ⟨n52, s53, b54, l55, u56, A57, c58, A59, c60, A61, c62, xs63, ht69, hcs64, h65, h66, h67, h68⟩ := hr51.open_
  rw [hcs64] at hr51
  have hsm70 := h65.small
  have hsm71 := h66.small
  rw [hcs64]
  refine ⟨_, rfl, fun a72 hE73 => ?_⟩
  have hW74 := hW43.next_nil hs47
  have hF75 := hW43.frN hs47
  clear hE46
  refine go_rn [2, 3] [4] [(1, .p 0 0), (2, .p 1 0), (3, .p 2 0), (8, .v (.int .i64 n52)), (9, .p 2 0)] hW74 hE73 fun a76 hE77 => ?_
  clear hE73
  refine of_op (wpOp_store hW74 hE77 (oi := 2) (cs := [.int .i64 n52, .int .i32 0, .int .i32 0, .int .i64 0, .int .i32 0, .int .i64 0, .map none]) (by kernel_rfl) fun w78 hF79 hW80 hE81 => ?_)
  clear hE77 hW74
  refine wpOps_nil ?_
  refine then_normal ?_
  refine go_seq_region [0, 1, 2, 3, 4, 5] (by kernel_rfl) ?_
  refine go_rn [0] [1, 2, 3, 4, 5] [(1, .p 0 0), (2, .p 1 0), (3, .p 2 0), (10, .v (.agg #[.int .i64 n1, .slice A6 s2.length c7, .bool b3, .slice A8 l4.length c9, .slice A10 u5.length c11]))] hW80 hE81 fun a82 hE83 => ?_
  clear hE81
  refine of_op (wpOp_call hE83 (f := 95) (vs := [.agg #[.int .i64 n1, .slice A6 s2.length c7, .bool b3, .slice A8 l4.length c9, .slice A10 u5.length c11], .int .i64 1]) (d := 11) (by kernel_rfl) Try.call95 (iAt _ _ 1 _ _ (ht.move hW80.step nilM hW80.imm)) ?_)
  rintro e_ w87 ⟨cs86, rfl, hr85, hs84⟩
  have hr88 := hr85.move hs84 nilM (fun b o h_ hb_ => hW80.laid (G := F) hs84 b o (.inl h_) (Nat.lt_of_lt_of_le hb_ hs84.size))
  obtain ⟨n89, s90, b91, l92, u93, A94, c95, A96, c97, A98, c99, xs100, ht106, hcs101, h102, h103, h104, h105⟩ := hr88.open_
  rw [hcs101] at hr88
  have hsm107 := h102.small
  have hsm108 := h103.small
  rw [hcs101]
  refine ⟨_, rfl, fun a109 hE110 => ?_⟩
  have hW111 := hW80.next_nil hs84
  have hF112 := hW80.frN hs84
  clear hE83
  refine go_rn [2, 3, 4] [5] [(1, .p 0 0), (2, .p 1 0), (3, .p 2 0), (13, .v (.int .i32 (IntKind.i32.wrap n89))), (14, .p 2 1)] hW111 hE110 fun a113 hE114 => ?_
  clear hE110
  refine of_op (wpOp_store hW111 hE114 (oi := 2) (cs := [.int .i64 n52, .int .i32 (IntKind.i32.wrap n89), .int .i32 0, .int .i64 0, .int .i32 0, .int .i64 0, .map none]) (by kernel_rfl) fun w115 hF116 hW117 hE118 => ?_)
  clear hE114 hW111
  refine wpOps_nil ?_
  refine then_normal ?_
  refine go_seq_region [0, 1, 2, 3, 4, 5] (by kernel_rfl) ?_
  refine go_rn [0] [1, 2, 3, 4, 5] [(1, .p 0 0), (2, .p 1 0), (3, .p 2 0), (15, .v (.agg #[.int .i64 n1, .slice A6 s2.length c7, .bool b3, .slice A8 l4.length c9, .slice A10 u5.length c11]))] hW117 hE118 fun a119 hE120 => ?_
  clear hE118
  refine of_op (wpOp_call hE120 (f := 95) (vs := [.agg #[.int .i64 n1, .slice A6 s2.length c7, .bool b3, .slice A8 l4.length c9, .slice A10 u5.length c11], .int .i64 2]) (d := 16) (by kernel_rfl) Try.call95 (iAt _ _ 2 _ _ (ht.move hW117.step nilM hW117.imm)) ?_)
  rintro e_ w124 ⟨cs123, rfl, hr122, hs121⟩
  have hr125 := hr122.move hs121 nilM (fun b o h_ hb_ => hW117.laid (G := F) hs121 b o (.inl h_) (Nat.lt_of_lt_of_le hb_ hs121.size))
  obtain ⟨n126, s127, b128, l129, u130, A131, c132, A133, c134, A135, c136, xs137, ht143, hcs138, h139, h140, h141, h142⟩ := hr125.open_
  rw [hcs138] at hr125
  have hsm144 := h139.small
  have hsm145 := h140.small
  rw [hcs138]
  refine ⟨_, rfl, fun a146 hE147 => ?_⟩
  have hW148 := hW117.next_nil hs121
  have hF149 := hW117.frN hs121
  clear hE120
  refine go_rn [2, 3, 4] [5] [(1, .p 0 0), (2, .p 1 0), (3, .p 2 0), (18, .v (.int .i32 (IntKind.i32.wrap n126))), (19, .p 2 2)] hW148 hE147 fun a150 hE151 => ?_
  clear hE147
  refine of_op (wpOp_store hW148 hE151 (oi := 2) (cs := [.int .i64 n52, .int .i32 (IntKind.i32.wrap n89), .int .i32 (IntKind.i32.wrap n126), .int .i64 0, .int .i32 0, .int .i64 0, .map none]) (by kernel_rfl) fun w152 hF153 hW154 hE155 => ?_)
  clear hE151 hW148
  refine wpOps_nil ?_
  refine then_normal ?_
  refine go_seq_region [0, 1, 2, 3, 4] (by kernel_rfl) ?_
  refine go_rn [0] [1, 2, 3, 4] [(1, .p 0 0), (2, .p 1 0), (3, .p 2 0), (20, .v (.agg #[.int .i64 n1, .slice A6 s2.length c7, .bool b3, .slice A8 l4.length c9, .slice A10 u5.length c11]))] hW154 hE155 fun a156 hE157 => ?_
  clear hE155
  refine of_op (wpOp_call hE157 (f := 95) (vs := [.agg #[.int .i64 n1, .slice A6 s2.length c7, .bool b3, .slice A8 l4.length c9, .slice A10 u5.length c11], .int .i64 3]) (d := 21) (by kernel_rfl) Try.call95 (iAt _ _ 3 _ _ (ht.move hW154.step nilM hW154.imm)) ?_)
  rintro e_ w161 ⟨cs160, rfl, hr159, hs158⟩
  have hr162 := hr159.move hs158 nilM (fun b o h_ hb_ => hW154.laid (G := F) hs158 b o (.inl h_) (Nat.lt_of_lt_of_le hb_ hs158.size))
  obtain ⟨n163, s164, b165, l166, u167, A168, c169, A170, c171, A172, c173, xs174, ht180, hcs175, h176, h177, h178, h179⟩ := hr162.open_
  rw [hcs175] at hr162
  have hsm181 := h176.small
  have hsm182 := h177.small
  rw [hcs175]
  refine ⟨_, rfl, fun a183 hE184 => ?_⟩
  have hW185 := hW154.next_nil hs158
  have hF186 := hW154.frN hs158
  clear hE157
  refine go_rn [2, 3] [4] [(1, .p 0 0), (2, .p 1 0), (3, .p 2 0), (22, .v (.int .i64 n163)), (23, .p 2 3)] hW185 hE184 fun a187 hE188 => ?_
  clear hE184
  refine of_op (wpOp_store hW185 hE188 (oi := 2) (cs := [.int .i64 n52, .int .i32 (IntKind.i32.wrap n89), .int .i32 (IntKind.i32.wrap n126), .int .i64 n163, .int .i32 0, .int .i64 0, .map none]) (by kernel_rfl) fun w189 hF190 hW191 hE192 => ?_)
  clear hE188 hW185
  refine wpOps_nil ?_
  refine then_normal ?_
  refine go_seq_region [0, 1, 2, 3, 4, 5] (by kernel_rfl) ?_
  refine go_rn [0] [1, 2, 3, 4, 5] [(1, .p 0 0), (2, .p 1 0), (3, .p 2 0), (24, .v (.agg #[.int .i64 n1, .slice A6 s2.length c7, .bool b3, .slice A8 l4.length c9, .slice A10 u5.length c11]))] hW191 hE192 fun a193 hE194 => ?_
  clear hE192
  refine of_op (wpOp_call hE194 (f := 95) (vs := [.agg #[.int .i64 n1, .slice A6 s2.length c7, .bool b3, .slice A8 l4.length c9, .slice A10 u5.length c11], .int .i64 4]) (d := 25) (by kernel_rfl) Try.call95 (iAt _ _ 4 _ _ (ht.move hW191.step nilM hW191.imm)) ?_)
  rintro e_ w198 ⟨cs197, rfl, hr196, hs195⟩
  have hr199 := hr196.move hs195 nilM (fun b o h_ hb_ => hW191.laid (G := F) hs195 b o (.inl h_) (Nat.lt_of_lt_of_le hb_ hs195.size))
  obtain ⟨n200, s201, b202, l203, u204, A205, c206, A207, c208, A209, c210, xs211, ht217, hcs212, h213, h214, h215, h216⟩ := hr199.open_
  rw [hcs212] at hr199
  have hsm218 := h213.small
  have hsm219 := h214.small
  rw [hcs212]
  refine ⟨_, rfl, fun a220 hE221 => ?_⟩
  have hW222 := hW191.next_nil hs195
  have hF223 := hW191.frN hs195
  clear hE194
  refine go_rn [2, 3, 4] [5] [(1, .p 0 0), (2, .p 1 0), (3, .p 2 0), (27, .v (.int .i32 (IntKind.i32.wrap n200))), (28, .p 2 4)] hW222 hE221 fun a224 hE225 => ?_
  clear hE221
  refine of_op (wpOp_store hW222 hE225 (oi := 2) (cs := [.int .i64 n52, .int .i32 (IntKind.i32.wrap n89), .int .i32 (IntKind.i32.wrap n126), .int .i64 n163, .int .i32 (IntKind.i32.wrap n200), .int .i64 0, .map none]) (by kernel_rfl) fun w226 hF227 hW228 hE229 => ?_)
  clear hE225 hW222
  refine wpOps_nil ?_
  refine then_normal ?_
  refine go_seq_region [0, 1, 2, 3, 4] (by kernel_rfl) ?_
  refine go_rn [0] [1, 2, 3, 4] [(1, .p 0 0), (2, .p 1 0), (3, .p 2 0), (29, .v (.agg #[.int .i64 n1, .slice A6 s2.length c7, .bool b3, .slice A8 l4.length c9, .slice A10 u5.length c11]))] hW228 hE229 fun a230 hE231 => ?_
  clear hE229
  refine of_op (wpOp_call hE231 (f := 95) (vs := [.agg #[.int .i64 n1, .slice A6 s2.length c7, .bool b3, .slice A8 l4.length c9, .slice A10 u5.length c11], .int .i64 5]) (d := 30) (by kernel_rfl) Try.call95 (iAt _ _ 5 _ _ (ht.move hW228.step nilM hW228.imm)) ?_)
  rintro e_ w235 ⟨cs234, rfl, hr233, hs232⟩
  have hr236 := hr233.move hs232 nilM (fun b o h_ hb_ => hW228.laid (G := F) hs232 b o (.inl h_) (Nat.lt_of_lt_of_le hb_ hs232.size))
  obtain ⟨n237, s238, b239, l240, u241, A242, c243, A244, c245, A246, c247, xs248, ht254, hcs249, h250, h251, h252, h253⟩ := hr236.open_
  rw [hcs249] at hr236
  have hsm255 := h250.small
  have hsm256 := h251.small
  rw [hcs249]
  refine ⟨_, rfl, fun a257 hE258 => ?_⟩
  have hW259 := hW228.next_nil hs232
  have hF260 := hW228.frN hs232
  clear hE231
  refine go_rn [2, 3] [4] [(1, .p 0 0), (2, .p 1 0), (3, .p 2 0), (31, .v (.int .i64 n237)), (32, .p 2 5)] hW259 hE258 fun a261 hE262 => ?_
  clear hE258
  refine of_op (wpOp_store hW259 hE262 (oi := 2) (cs := [.int .i64 n52, .int .i32 (IntKind.i32.wrap n89), .int .i32 (IntKind.i32.wrap n126), .int .i64 n163, .int .i32 (IntKind.i32.wrap n200), .int .i64 n237, .map none]) (by kernel_rfl) fun w263 hF264 hW265 hE266 => ?_)
  clear hE262 hW259
  refine wpOps_nil ?_
  refine then_normal ?_
  refine wp_seq ?_
  refine go_sp [(2, .p 1 0), (3, .p 2 0), (34, .v (.slice A10 u5.length c11)), (35, .v (.int .i64 ((u5.length : Nat) : Int))), (36, .v (.int .i64 0))] hW265 hE266 fun a267 hE268 => ?_
  clear hE266
  refine wp_block ?_
  have hp269 := new_of hW265 2 rfl (by kernel_rfl)
  have hE273 := hE268.recast 2 (.p 1 0) (.v (.pointer (some ⟨b29, 0, none⟩))) rfl rfl trivial
  have hE274 := hE273.recast 3 (.p 2 0) (.v (.pointer (some ⟨b37, 0, none⟩))) rfl rfl trivial
  have hE271 := (hE274.pick (ks := [2, 3, 34, 35, 36]) (env' := [(2, .v (.pointer (some ⟨b29, 0, none⟩))), (3, .v (.pointer (some ⟨b37, 0, none⟩))), (34, .v (.slice A10 u5.length c11)), (35, .v (.int .i64 ((u5.length : Nat) : Int))), (36, .v (.int .i64 0))]) (by kernel_rfl)).cutTb 0 (by kernel_rfl)
  refine wp_loop_ghost (fun q a_ w_ => ∃ (j : Nat) (m_ : Option Nat), q = u5.length - j ∧ j ≤ u5.length ∧ EnvOk 48 [] [(2, .v (.pointer (some ⟨b29, 0, none⟩))), (3, .v (.pointer (some ⟨b37, 0, none⟩))), (34, .v (.slice A10 u5.length c11)), (35, .v (.int .i64 ((u5.length : Nat) : Int))), (36, .v (.int .i64 ((j : Nat) : Int)))] a_ ∧ TL w w263 w_ F b37 6 [.int .i64 n52, .int .i32 (IntKind.i32.wrap n89), .int .i32 (IntKind.i32.wrap n126), .int .i64 n163, .int .i32 (IntKind.i32.wrap n200), .int .i64 n237, .map none] m_ (u5.take j)) u5.length
    ⟨0, none, by omega, by omega, hE271, TL.start hW265 2 rfl rfl⟩ ?_
  rintro q aq wq ⟨j, m_, rfl, hj, hE2, hT⟩
  have hWq := WOk.start wq Nil
  refine go_sp [(2, .v (.pointer (some ⟨b29, 0, none⟩))), (3, .v (.pointer (some ⟨b37, 0, none⟩))), (34, .v (.slice A10 u5.length c11)), (35, .v (.int .i64 ((u5.length : Nat) : Int))), (36, .v (.int .i64 ((j : Nat) : Int))), (37, .v (.bool (decide (((j : Nat) : Int) < ((u5.length : Nat) : Int)))))] hWq hE2 fun aq2 hE3 => wp_seq ?_
  refine cond_of hE3 (b := decide (((j : Nat) : Int) < ((u5.length : Nat) : Int))) (by kernel_rfl) (fun hc => ?_) (fun hc => ?_)
  · have hlt : j < u5.length := by have := of_decide_eq_true hc; omega
    refine wp_skip (then_normal (wp_seq (wp_block ?_)))
    obtain ⟨⟨k, x⟩, hu⟩ : ∃ y, u5[j]? = some y := ⟨_, List.getElem?_eq_getElem hlt⟩
    obtain ⟨bb, bo, xA, xc, hA, hat, hxo, hk⟩ := tag_at h17 hu
    refine go_seq_region [0, 1, 2, 3] (by kernel_rfl) ?_
    refine of_op (wpOp_index hE3 (t := 37) (e := 62) (size := 2) (bytes := 32) (d := 38) (b := bb) (o := bo) (m := u5.length) (j := j) (by kernel_rfl) (by kernel_rfl) hA rfl hlt fun aq3 hE4 => ?_)
    refine of_op (wpOp_load hE4 (t := 62) (d := 39) (cs := [.int .u32 k, .slice xA x.length xc]) (v := .agg #[.int .u32 k, .slice xA x.length xc]) (by kernel_rfl) (by kernel_rfl) (hat.step_nil hT.step) fun aq4 hE5 => ?_)
    refine of_op (wpOp_alloc hWq hE5 (d := 5) (cs := [.int .u32 0, .slice none 0 0]) (by kernel_rfl) fun bx aq5 wq2 hbx hbx0 hFq2 hWq2 hE6 => ?_)
    refine of_op (wpOp_store hWq2 hE6 (oi := 0) (cs := [.int .u32 k, .slice xA x.length xc]) (by kernel_rfl) fun wq3 hFq3 hWq3 hE7 => wpOps_nil (then_normal ?_))
    refine go_region [0, 1, 2, 3, 4, 5] (by kernel_rfl) (go_rn [0, 1, 2, 3, 4] [5] [(2, .v (.pointer (some ⟨b29, 0, none⟩))), (3, .v (.pointer (some ⟨b37, 0, none⟩))), (34, .v (.slice A10 u5.length c11)), (35, .v (.int .i64 ((u5.length : Nat) : Int))), (36, .v (.int .i64 ((j : Nat) : Int))), (40, .v (.pointer (some ⟨b37, 6, none⟩))), (42, .v (.int .u32 k)), (44, .v (.slice xA x.length xc))] hWq3 hE7 fun aq6 hE8 => ?_)
    refine of_op (wpOp_call hE8 (f := 96) (vs := [.pointer (some ⟨b37, 6, none⟩), .int .u32 k, .slice xA x.length xc]) (d := 45) (by kernel_rfl) Try.call96 ((hT.move hWq3.step).set hp269 (by kernel_rfl) hsort hu hxo hk) ?_)
    rintro e_ wq5 ⟨rfl, hS5, r, hT5⟩
    refine ⟨_, rfl, fun aq7 hE9 => wpOps_nil (block_normal (then_normal ?_))⟩
    have hE10 := (hE9.pick (ks := [2, 3, 34, 35, 36]) (env' := [(2, .v (.pointer (some ⟨b29, 0, none⟩))), (3, .v (.pointer (some ⟨b37, 0, none⟩))), (34, .v (.slice A10 u5.length c11)), (35, .v (.int .i64 ((u5.length : Nat) : Int))), (36, .v (.int .i64 ((j : Nat) : Int)))]) (by kernel_rfl)).cutTb 0 (by kernel_rfl)
    refine go_region [0, 1] (by kernel_rfl) (go_rn [0, 1] [] [(2, .v (.pointer (some ⟨b29, 0, none⟩))), (3, .v (.pointer (some ⟨b37, 0, none⟩))), (34, .v (.slice A10 u5.length c11)), (35, .v (.int .i64 ((u5.length : Nat) : Int))), (36, .v (.int .i64 (IntKind.i64.wrap (((j : Nat) : Int) + 1))))] (WOk.start wq5 Nil) hE10 fun aq8 hE11 => wpOps_nil (then_normal ?_))
    rw [wrap_succ (by omega)] at hE11
    exact ⟨u5.length - (j + 1), by omega, j + 1, some r, rfl, by omega, hE11, hT5⟩
  · obtain rfl : j = u5.length := by have := of_decide_eq_false hc; omega
    refine wp_exit (then_exit (then_exit (block_exit ?_)))
    rw [List.take_length] at hT
    obtain ⟨hW275, hF276⟩ := hT.tab hW265 2 [⟨b21, 0, [.int .i64 n1, .slice A6 s2.length c7, .bool b3, .slice A8 l4.length c9, .slice A10 u5.length c11], true⟩, ⟨b29, 0, [.int .i64 0, .int .i32 0, .int .i32 0, .int .i64 0, .int .i32 0, .int .i64 0, .map none], true⟩, ⟨b37, 0, [.int .i64 n52, .int .i32 (IntKind.i32.wrap n89), .int .i32 (IntKind.i32.wrap n126), .int .i64 n163, .int .i32 (IntKind.i32.wrap n200), .int .i64 n237, .map m_], true⟩] rfl
    have hM277 := hT.mapImm hW265 hW275 hF276 hsort (tags_range h17)
    have hE278 := (hE3.retable [⟨b21, 0, [.int .i64 n1, .slice A6 s2.length c7, .bool b3, .slice A8 l4.length c9, .slice A10 u5.length c11], true⟩, ⟨b29, 0, [.int .i64 0, .int .i32 0, .int .i32 0, .int .i64 0, .int .i32 0, .int .i64 0, .map none], true⟩, ⟨b37, 0, [.int .i64 n52, .int .i32 (IntKind.i32.wrap n89), .int .i32 (IntKind.i32.wrap n126), .int .i64 n163, .int .i32 (IntKind.i32.wrap n200), .int .i64 n237, .map m_], true⟩]).recast 2 (.v (.pointer (some ⟨b29, 0, none⟩))) (.p 1 0) rfl rfl (Nat.le_of_ble_eq_true (n := 2) rfl)
    have hE279 := hE278.recast 3 (.v (.pointer (some ⟨b37, 0, none⟩))) (.p 2 0) rfl rfl (Nat.le_of_ble_eq_true (n := 3) rfl)
    have hE280 : EnvOk 48 [⟨b21, 0, [.int .i64 n1, .slice A6 s2.length c7, .bool b3, .slice A8 l4.length c9, .slice A10 u5.length c11], true⟩, ⟨b29, 0, [.int .i64 0, .int .i32 0, .int .i32 0, .int .i64 0, .int .i32 0, .int .i64 0, .map none], true⟩, ⟨b37, 0, [.int .i64 n52, .int .i32 (IntKind.i32.wrap n89), .int .i32 (IntKind.i32.wrap n126), .int .i64 n163, .int .i32 (IntKind.i32.wrap n200), .int .i64 n237, .map m_], true⟩] [(2, .p 1 0), (3, .p 2 0)] _ := hE279.pk
    refine then_normal ?_
    refine go_seq_region [0, 1] (by kernel_rfl) ?_
    refine go_rn [0] [1] [(2, .p 1 0), (47, .v (.agg #[.int .i64 n52, .int .i32 (IntKind.i32.wrap n89), .int .i32 (IntKind.i32.wrap n126), .int .i64 n163, .int .i32 (IntKind.i32.wrap n200), .int .i64 n237, .map m_]))] hW275 hE280 fun a281 hE282 => ?_
    clear hE280
    refine of_op (wpOp_store hW275 hE282 (oi := 1) (cs := [.int .i64 n52, .int .i32 (IntKind.i32.wrap n89), .int .i32 (IntKind.i32.wrap n126), .int .i64 n163, .int .i32 (IntKind.i32.wrap n200), .int .i64 n237, .map m_]) (by kernel_rfl) fun w283 hF284 hW285 hE286 => ?_)
    clear hE282 hW275
    refine wpOps_nil ?_
    refine then_normal ?_
    refine wp_ret ?_
    refine leave hE286 hW285.cells (v := .agg #[.int .i64 n52, .int .i32 (IntKind.i32.wrap n89), .int .i32 (IntKind.i32.wrap n126), .int .i64 n163, .int .i32 (IntKind.i32.wrap n200), .int .i64 n237, .map m_]) (by kernel_rfl) ?_
    refine ⟨dvP m_ u5 [dvN n52, dvN (IntKind.i32.wrap n89), dvN (IntKind.i32.wrap n126), dvN n163, dvN (IntKind.i32.wrap n200), dvN n237], rfl, ?_, ?_, hW285.step⟩
    · unfold okDescribeProducersResponseTopicPartitionActiveProducer
      exact ⟨trivial, trivial, trivial, trivial, trivial, trivial, ((hM277.move hF284.step immM hF284.to').move (Step.refl _ Nil) nilM immOut), cU.2.1, cU.2.2, trivial⟩
    · unfold relDescribeProducersResponseTopicPartitionActiveProducer
      exact ⟨by rw [ht69]; rfl, by rw [ht106]; rfl, by rw [ht143]; rfl, by rw [ht180]; rfl, by rw [ht217]; rfl, by rw [ht254]; rfl, rfl, trivial⟩

set_option maxHeartbeats 4000000 in
theorem eDescribeProducersResponseTopicPartition (ct : List Value) (t : Tree) (w : World) (F : Nat → Nat → Prop) (ht : TreeR w F ct t) (hc : canDescribeProducersResponseTopicPartition t) :
    Calls Try.prog 151 #[.agg ct.toArray] w (fun e w' => ∃ D : DV, e = .returned (.agg #[.int .i32 ((D.f 0).n), .int .i16 ((D.f 1).n), .pointer ((D.f 2).A), .slice ((D.f 3).A) ((D.f 3).l) ((D.f 3).c), .map D.m]) ∧ okDescribeProducersResponseTopicPartition w' (Fp F w) D ∧ relDescribeProducersResponseTopicPartition D t ∧ Step w w' Nil) := by
  obtain ⟨n1, s2, b3, l4, u5, A6, c7, A8, c9, A10, c11, xs12, rfl, rfl, h14, h15, h16, h17⟩ := ht.open_
  have hsm19 := h14.small
  have hsm20 := h15.small
  unfold canDescribeProducersResponseTopicPartition at hc
  obtain ⟨c0, c1, c2, ⟨c3, c3e⟩, cU, _⟩ := hc
  have hsort := cU.1
  replace hsort : Sorted u5 := hsort
  have hul : u5.length ≤ 1000000 := cU.2.1
  refine enter (n := 63) Try.func151 rfl Try.ntmps151 (by kernel_rfl) fun a hE => ?_
  have hW := WOk.start w Nil
  refine go_seq_region [0, 1] (by kernel_rfl) ?_
  refine of_op (wpOp_box hW hE (d := 1) (cs := [.int .i64 n1, .slice A6 s2.length c7, .bool b3, .slice A8 l4.length c9, .slice A10 u5.length c11]) (by kernel_rfl) fun b21 a22 w23 hb24 hz25 hF26 hW27 hE28 => ?_)
  clear hE hW
  refine of_op (wpOp_alloc hW27 hE28 (d := 2) (cs := [.int .i32 0, .int .i16 0, .pointer none, .slice none 0 0, .map none]) (by kernel_rfl) fun b29 a30 w31 hb32 hz33 hF34 hW35 hE36 => ?_)
  clear hE28 hW27
  refine wpOps_nil ?_
  refine then_normal ?_
  refine go_seq_region [0] (by kernel_rfl) ?_
  refine of_op (wpOp_alloc hW35 hE36 (d := 3) (cs := [.int .i32 0, .int .i16 0, .pointer none, .slice none 0 0, .map none]) (by kernel_rfl) fun b37 a38 w39 hb40 hz41 hF42 hW43 hE44 => ?_)
  clear hE36 hW35
  refine wpOps_nil ?_
  refine then_normal ?_
  refine go_seq_region [0, 1, 2, 3, 4, 5] (by kernel_rfl) ?_
  refine go_rn [0] [1, 2, 3, 4, 5] [(1, .p 0 0), (2, .p 1 0), (3, .p 2 0), (8, .v (.agg #[.int .i64 n1, .slice A6 s2.length c7, .bool b3, .slice A8 l4.length c9, .slice A10 u5.length c11]))] hW43 hE44 fun a45 hE46 => ?_
  clear hE44
  refine of_op (wpOp_call hE46 (f := 95) (vs := [.agg #[.int .i64 n1, .slice A6 s2.length c7, .bool b3, .slice A8 l4.length c9, .slice A10 u5.length c11], .int .i64 0]) (d := 9) (by kernel_rfl) Try.call95 (iAt _ _ 0 _ _ (ht.move hW43.step nilM hW43.imm)) ?_)
  rintro e_ w50 ⟨cs49, rfl, hr48, hs47⟩
  have hr51 := hr48.move hs47 nilM (fun b o h_ hb_ => hW43.laid (G := F) hs47 b o (.inl h_) (Nat.lt_of_lt_of_le hb_ hs47.size))
  obtain ⟨n52, s53, b54, l55, u56, A57, c58, A59, c60, A61, c62, xs63, ht69, hcs64, h65, h66, h67, h68⟩ := hr51.open_
  rw [hcs64] at hr51
  have hsm70 := h65.small
  have hsm71 := h66.small
  rw [hcs64]
  refine ⟨_, rfl, fun a72 hE73 => ?_⟩
  have hW74 := hW43.next_nil hs47
  have hF75 := hW43.frN hs47
  clear hE46
  refine go_rn [2, 3, 4] [5] [(1, .p 0 0), (2, .p 1 0), (3, .p 2 0), (11, .v (.int .i32 (IntKind.i32.wrap n52))), (12, .p 2 0)] hW74 hE73 fun a76 hE77 => ?_
  clear hE73
  refine of_op (wpOp_store hW74 hE77 (oi := 2) (cs := [.int .i32 (IntKind.i32.wrap n52), .int .i16 0, .pointer none, .slice none 0 0, .map none]) (by kernel_rfl) fun w78 hF79 hW80 hE81 => ?_)
  clear hE77 hW74
  refine wpOps_nil ?_
  refine then_normal ?_
  refine go_seq_region [0, 1, 2, 3, 4, 5] (by kernel_rfl) ?_
  refine go_rn [0] [1, 2, 3, 4, 5] [(1, .p 0 0), (2, .p 1 0), (3, .p 2 0), (13, .v (.agg #[.int .i64 n1, .slice A6 s2.length c7, .bool b3, .slice A8 l4.length c9, .slice A10 u5.length c11]))] hW80 hE81 fun a82 hE83 => ?_
  clear hE81
  refine of_op (wpOp_call hE83 (f := 95) (vs := [.agg #[.int .i64 n1, .slice A6 s2.length c7, .bool b3, .slice A8 l4.length c9, .slice A10 u5.length c11], .int .i64 1]) (d := 14) (by kernel_rfl) Try.call95 (iAt _ _ 1 _ _ (ht.move hW80.step nilM hW80.imm)) ?_)
  rintro e_ w87 ⟨cs86, rfl, hr85, hs84⟩
  have hr88 := hr85.move hs84 nilM (fun b o h_ hb_ => hW80.laid (G := F) hs84 b o (.inl h_) (Nat.lt_of_lt_of_le hb_ hs84.size))
  obtain ⟨n89, s90, b91, l92, u93, A94, c95, A96, c97, A98, c99, xs100, ht106, hcs101, h102, h103, h104, h105⟩ := hr88.open_
  rw [hcs101] at hr88
  have hsm107 := h102.small
  have hsm108 := h103.small
  rw [hcs101]
  refine ⟨_, rfl, fun a109 hE110 => ?_⟩
  have hW111 := hW80.next_nil hs84
  have hF112 := hW80.frN hs84
  clear hE83
  refine go_rn [2, 3, 4] [5] [(1, .p 0 0), (2, .p 1 0), (3, .p 2 0), (16, .v (.int .i16 (IntKind.i16.wrap n89))), (17, .p 2 1)] hW111 hE110 fun a113 hE114 => ?_
  clear hE110
  refine of_op (wpOp_store hW111 hE114 (oi := 2) (cs := [.int .i32 (IntKind.i32.wrap n52), .int .i16 (IntKind.i16.wrap n89), .pointer none, .slice none 0 0, .map none]) (by kernel_rfl) fun w115 hF116 hW117 hE118 => ?_)
  clear hE114 hW111
  refine wpOps_nil ?_
  refine then_normal ?_
  refine go_seq_region [0, 1, 2, 3, 4] (by kernel_rfl) ?_
  refine go_rn [0] [1, 2, 3, 4] [(1, .p 0 0), (2, .p 1 0), (3, .p 2 0), (18, .v (.agg #[.int .i64 n1, .slice A6 s2.length c7, .bool b3, .slice A8 l4.length c9, .slice A10 u5.length c11]))] hW117 hE118 fun a119 hE120 => ?_
  clear hE118
  refine of_op (wpOp_call hE120 (f := 95) (vs := [.agg #[.int .i64 n1, .slice A6 s2.length c7, .bool b3, .slice A8 l4.length c9, .slice A10 u5.length c11], .int .i64 2]) (d := 19) (by kernel_rfl) Try.call95 (iAt _ _ 2 _ _ (ht.move hW117.step nilM hW117.imm)) ?_)
  rintro e_ w124 ⟨cs123, rfl, hr122, hs121⟩
  have hr125 := hr122.move hs121 nilM (fun b o h_ hb_ => hW117.laid (G := F) hs121 b o (.inl h_) (Nat.lt_of_lt_of_le hb_ hs121.size))
  obtain ⟨n126, s127, b128, l129, u130, A131, c132, A133, c134, A135, c136, xs137, ht143, hcs138, h139, h140, h141, h142⟩ := hr125.open_
  rw [hcs138] at hr125
  have hsm144 := h139.small
  have hsm145 := h140.small
  rw [hcs138]
  refine ⟨_, rfl, fun a146 hE147 => ?_⟩
  have hW148 := hW117.next_nil hs121
  have hF149 := hW117.frN hs121
  clear hE120
  refine of_op (wpOp_call hE147 (f := 111) (vs := [.agg #[.int .i64 n126, .slice A131 s127.length c132, .bool b128, .slice A133 l129.length c134, .slice A135 u130.length c136]]) (d := 20) (by kernel_rfl) Try.call111 (kTextOf _ (Tree.at_ (Tree.mk n1 s2 b3 l4 u5) 2) _ _ hr125) ?_)
  rintro e_ w156 ⟨A153, rfl, hr151, hn152, hs150⟩
  have hr155 : ∀ ad, A153 = some ad → ∃ b o, ad = ⟨b, o, none⟩ ∧ AtF _ _ b o [.string (bs (octOf (Tree.at_ (Tree.mk n1 s2 b3 l4 u5) 2)))] := fun ad h => by
      obtain ⟨b, o, g1, g2⟩ := hr151 ad h
      exact ⟨b, o, g1, g2.move (Step.refl _ Nil) nilM (hW148.laid (G := F) hs150)⟩
  refine ⟨_, rfl, fun a157 hE158 => ?_⟩
  have hW159 := hW148.next_nil hs150
  have hF160 := hW148.frN hs150
  clear hE147
  refine go_rn [3] [4] [(1, .p 0 0), (2, .p 1 0), (3, .p 2 0), (20, .v (.pointer A153)), (21, .p 2 2)] hW159 hE158 fun a161 hE162 => ?_
  clear hE158
  refine of_op (wpOp_store hW159 hE162 (oi := 2) (cs := [.int .i32 (IntKind.i32.wrap n52), .int .i16 (IntKind.i16.wrap n89), .pointer A153, .slice none 0 0, .map none]) (by kernel_rfl) fun w163 hF164 hW165 hE166 => ?_)
  clear hE162 hW159
  refine wpOps_nil ?_
  refine then_normal ?_
  refine wp_seq ?_
  refine go_seq_region [0, 1, 2, 3] (by kernel_rfl) ?_
  refine go_rn [0] [1, 2, 3] [(1, .p 0 0), (2, .p 1 0), (3, .p 2 0), (22, .v (.agg #[.int .i64 n1, .slice A6 s2.length c7, .bool b3, .slice A8 l4.length c9, .slice A10 u5.length c11]))] hW165 hE166 fun a167 hE168 => ?_
  clear hE166
  refine of_op (wpOp_call hE168 (f := 95) (vs := [.agg #[.int .i64 n1, .slice A6 s2.length c7, .bool b3, .slice A8 l4.length c9, .slice A10 u5.length c11], .int .i64 3]) (d := 23) (by kernel_rfl) Try.call95 (iAt _ _ 3 _ _ (ht.move hW165.step nilM hW165.imm)) ?_)
  rintro e_ w172 ⟨cs171, rfl, hr170, hs169⟩
  have hr173 := hr170.move hs169 nilM (fun b o h_ hb_ => hW165.laid (G := F) hs169 b o (.inl h_) (Nat.lt_of_lt_of_le hb_ hs169.size))
  obtain ⟨n174, s175, b176, l177, u178, A179, c180, A181, c182, A183, c184, xs185, ht191, hcs186, h187, h188, h189, h190⟩ := hr173.open_
  rw [hcs186] at hr173
  have hsm192 := h187.small
  have hsm193 := h188.small
  rw [hcs186]
  refine ⟨_, rfl, fun a194 hE195 => ?_⟩
  have hW196 := hW165.next_nil hs169
  have hF197 := hW165.frN hs169
  clear hE168
  refine go_rn [2, 3] [] [(1, .p 0 0), (2, .p 1 0), (3, .p 2 0), (25, .v (.bool (!b176)))] hW196 hE195 fun a198 hE199 => ?_
  clear hE195
  refine wpOps_nil ?_
  refine then_normal ?_
  refine wp_join (Mid := fun a_ w_ => ∃ (A_ : Option Addr) (c_ : Nat) (f_ : Nat → DV), A_.isNone = Tree.null (Tree.at_ (Tree.mk n1 s2 b3 l4 u5) 3) ∧ LstR w_ (Imm F w w_ [⟨b21, 0, [.int .i64 n1, .slice A6 s2.length c7, .bool b3, .slice A8 l4.length c9, .slice A10 u5.length c11], true⟩, ⟨b29, 0, [.int .i32 0, .int .i16 0, .pointer none, .slice none 0 0, .map none], true⟩, ⟨b37, 0, [.int .i32 (IntKind.i32.wrap n52), .int .i16 (IntKind.i16.wrap n89), .pointer A153, .slice A_ ((lst (Tree.at_ (Tree.mk n1 s2 b3 l4 u5) 3)).length) c_, .map none], true⟩] []) 7 clDescribeProducersResponseTopicPartitionActiveProducer okDescribeProducersResponseTopicPartitionActiveProducer relDescribeProducersResponseTopicPartitionActiveProducer A_ c_ f_ (lst (Tree.at_ (Tree.mk n1 s2 b3 l4 u5) 3)) ∧ LInv hW196 63 [⟨b21, 0, [.int .i64 n1, .slice A6 s2.length c7, .bool b3, .slice A8 l4.length c9, .slice A10 u5.length c11], true⟩, ⟨b29, 0, [.int .i32 0, .int .i16 0, .pointer none, .slice none 0 0, .map none], true⟩, ⟨b37, 0, [.int .i32 (IntKind.i32.wrap n52), .int .i16 (IntKind.i16.wrap n89), .pointer A153, .slice A_ ((lst (Tree.at_ (Tree.mk n1 s2 b3 l4 u5) 3)).length) c_, .map none], true⟩] [] [(1, .p 0 0), (2, .p 1 0), (3, .p 2 0)] a_ w_) ?_ ?_
  ·
    refine cond_of hE199 (b := !b176) (by kernel_rfl) (fun hc200 => ?_) (fun hc200 => ?_)
    ·
      have hnull_ : Tree.null (Tree.at_ (Tree.mk n1 s2 b3 l4 u5) 3) = false := by rw [ht191]; show b176 = false; simpa using hc200
      refine go_seq_region [0, 1, 2, 3, 4, 5, 6] (by kernel_rfl) ?_
      refine go_rn [0] [1, 2, 3, 4, 5, 6] [(1, .p 0 0), (2, .p 1 0), (3, .p 2 0), (26, .v (.agg #[.int .i64 n1, .slice A6 s2.length c7, .bool b3, .slice A8 l4.length c9, .slice A10 u5.length c11]))] hW196 hE199 fun a202 hE203 => ?_
      clear hE199
      refine of_op (wpOp_call hE203 (f := 95) (vs := [.agg #[.int .i64 n1, .slice A6 s2.length c7, .bool b3, .slice A8 l4.length c9, .slice A10 u5.length c11], .int .i64 3]) (d := 27) (by kernel_rfl) Try.call95 (iAt _ _ 3 _ _ (ht.move hW196.step nilM hW196.imm)) ?_)
      rintro e_ w207 ⟨cs206, rfl, hr205, hs204⟩
      have hr208 := hr205.move hs204 nilM (fun b o h_ hb_ => hW196.laid (G := F) hs204 b o (.inl h_) (Nat.lt_of_lt_of_le hb_ hs204.size))
      obtain ⟨n209, s210, b211, l212, u213, A214, c215, A216, c217, A218, c219, xs220, ht226, hcs221, h222, h223, h224, h225⟩ := hr208.open_
      rw [hcs221] at hr208
      have hsm227 := h222.small
      have hsm228 := h223.small
      rw [hcs221]
      refine ⟨_, rfl, fun a229 hE230 => ?_⟩
      have hW231 := hW196.next_nil hs204
      have hF232 := hW196.frN hs204
      clear hE203
      have hl3_ : lst (Tree.at_ (Tree.mk n1 s2 b3 l4 u5) 3) = l212 := by rw [lst_of hnull_, ht226]; rfl
      have hb233 : l212.length ≤ 1000000 := by have h_ := c3; rw [hl3_] at h_; exact h_
      refine go_rn [2, 3] [4, 5, 6] [(1, .p 0 0), (2, .p 1 0), (3, .p 2 0), (29, .v (.int .i64 ((l212.length : Nat) : Int)))] hW231 hE230 fun a234 hE235 => ?_
      clear hE230
      refine of_op (wpOp_make0 hW231 hE235 (d := 30) (j := l212.length) (t := 163) (e := 168) (size := 7) (bytes := 48) (by kernel_rfl) (by kernel_rfl) rfl (rfl) (by omega) fun b236 a237 w238 hb239 hz240 hF241 hW242 hE243 => ?_)
      clear hE235 hW231
      refine go_rn [5] [6] [(1, .p 0 0), (2, .p 1 0), (3, .p 2 0), (30, .v (.slice (some ⟨b236, 0, none⟩) 0 l212.length)), (31, .p 2 3)] hW242 hE243 fun a244 hE245 => ?_
      clear hE243
      refine of_op (wpOp_store hW242 hE245 (oi := 2) (cs := [.int .i32 (IntKind.i32.wrap n52), .int .i16 (IntKind.i16.wrap n89), .pointer A153, .slice (some ⟨b236, 0, none⟩) 0 l212.length, .map none]) (by kernel_rfl) fun w246 hF247 hW248 hE249 => ?_)
      clear hE245 hW242
      refine wpOps_nil ?_
      refine then_normal ?_
      refine go_seq_region [0, 1, 2, 3, 4] (by kernel_rfl) ?_
      refine go_rn [0] [1, 2, 3, 4] [(1, .p 0 0), (2, .p 1 0), (3, .p 2 0), (32, .v (.agg #[.int .i64 n1, .slice A6 s2.length c7, .bool b3, .slice A8 l4.length c9, .slice A10 u5.length c11]))] hW248 hE249 fun a250 hE251 => ?_
      clear hE249
      refine of_op (wpOp_call hE251 (f := 95) (vs := [.agg #[.int .i64 n1, .slice A6 s2.length c7, .bool b3, .slice A8 l4.length c9, .slice A10 u5.length c11], .int .i64 3]) (d := 33) (by kernel_rfl) Try.call95 (iAt _ _ 3 _ _ (ht.move hW248.step nilM hW248.imm)) ?_)
      rintro e_ w255 ⟨cs254, rfl, hr253, hs252⟩
      have hr256 := hr253.move hs252 nilM (fun b o h_ hb_ => hW248.laid (G := F) hs252 b o (.inl h_) (Nat.lt_of_lt_of_le hb_ hs252.size))
      obtain ⟨n257, s258, b259, l260, u261, A262, c263, A264, c265, A266, c267, xs268, ht274, hcs269, h270, h271, h272, h273⟩ := hr256.open_
      rw [hcs269] at hr256
      have hsm275 := h270.small
      have hsm276 := h271.small
      rw [hcs269]
      refine ⟨_, rfl, fun a277 hE278 => ?_⟩
      have hW279 := hW248.next_nil hs252
      have hF280 := hW248.frN hs252
      clear hE251
      have hl3_ : lst (Tree.at_ (Tree.mk n1 s2 b3 l4 u5) 3) = l260 := by rw [lst_of hnull_, ht274]; rfl
      have hb281 : l260.length ≤ 1000000 := by have h_ := c3; rw [hl3_] at h_; exact h_
      refine go_rn [2, 3, 4] [] [(1, .p 0 0), (2, .p 1 0), (3, .p 2 0), (34, .v (.slice A264 l260.length c265)), (35, .v (.int .i64 ((l260.length : Nat) : Int))), (36, .v (.int .i64 0))] hW279 hE278 fun a282 hE283 => ?_
      clear hE278
      refine wpOps_nil ?_
      refine then_normal ?_
      refine wp_block ?_
      refine wp_loop_ghost (fun n_ a_ w_ => ∃ (k : Nat) (A_ : Option Addr) (c_ : Nat) (xs_ : List Value) (ds_ : List DV), n_ = l260.length - k ∧ k ≤ l260.length ∧ (A_.isNone = false) ∧ (RowL w_ (Imm F w w_ [⟨b21, 0, [.int .i64 n1, .slice A6 s2.length c7, .bool b3, .slice A8 l4.length c9, .slice A10 u5.length c11], true⟩, ⟨b29, 0, [.int .i32 0, .int .i16 0, .pointer none, .slice none 0 0, .map none], true⟩, ⟨b37, 0, [.int .i32 (IntKind.i32.wrap n52), .int .i16 (IntKind.i16.wrap n89), .pointer A153, .slice A_ k c_, .map none], true⟩] [⟨A_, c_, 168, 7, k, xs_⟩]) 7 clDescribeProducersResponseTopicPartitionActiveProducer okDescribeProducersResponseTopicPartitionActiveProducer relDescribeProducersResponseTopicPartitionActiveProducer xs_ ds_ (l260.take k)) ∧ LInv hW279 63 [⟨b21, 0, [.int .i64 n1, .slice A6 s2.length c7, .bool b3, .slice A8 l4.length c9, .slice A10 u5.length c11], true⟩, ⟨b29, 0, [.int .i32 0, .int .i16 0, .pointer none, .slice none 0 0, .map none], true⟩, ⟨b37, 0, [.int .i32 (IntKind.i32.wrap n52), .int .i16 (IntKind.i16.wrap n89), .pointer A153, .slice A_ k c_, .map none], true⟩] [⟨A_, c_, 168, 7, k, xs_⟩] [(1, .p 0 0), (2, .p 1 0), (3, .p 2 0), (34, .v (.slice A264 l260.length c265)), (35, .v (.int .i64 ((l260.length : Nat) : Int))), (36, .v (.int .i64 ((k : Nat) : Int)))] a_ w_) (l260.length) ⟨0, (some ⟨b236, 0, none⟩), l212.length, [], [], by omega, by omega, rfl, RowL.nil mvDescribeProducersResponseTopicPartitionActiveProducer, hE283.pk, hW279, Fr.refl _ _ _⟩ ?_
      clear hE283
      rintro n284 a285 w286 ⟨k, A_, c_, xs_, ds_, hn289, hk290, hA, hR, hE287, hW288, hF291⟩
      refine go_sp [(1, .p 0 0), (2, .p 1 0), (3, .p 2 0), (34, .v (.slice A264 l260.length c265)), (35, .v (.int .i64 ((l260.length : Nat) : Int))), (36, .v (.int .i64 ((k : Nat) : Int))), (37, .v (.bool (decide (((k : Nat) : Int) < ((l260.length : Nat) : Int)))))] hW288 hE287 fun a292 hE293 => ?_
      clear hE287
      refine wp_seq ?_
      refine cond_of hE293 (b := decide (((k : Nat) : Int) < ((l260.length : Nat) : Int))) (by kernel_rfl) (fun hc294 => ?_) (fun hc294 => ?_)
      ·
        have hf295 := of_decide_eq_true hc294
        refine wp_skip ?_
        refine then_normal ?_
        refine wp_seq ?_
        refine wp_block ?_
        refine go_seq_region [0, 1, 2, 3] (by kernel_rfl) ?_
        obtain ⟨b296, o297, hA298, hl299, hat300⟩ := Slots.get h271 (i := k) (by omega)
        obtain ⟨x301, he302⟩ : ∃ x, l260[k]? = some x := ⟨_, List.getElem?_eq_getElem (by omega)⟩
        have hr303 := h272 k x301 he302
        obtain ⟨n304, s305, b306, l307, u308, A309, c310, A311, c312, A313, c314, xs315, rfl, hcs316, h317, h318, h319, h320⟩ := hr303.open_
        rw [hcs316] at hr303
        have hsm322 := h317.small
        have hsm323 := h318.small
        rw [hcs316] at hat300
        refine of_op (wpOp_index hE293 (t := 36) (A := A264) (m := l260.length) (q := ((k : Nat) : Int)) (d := 38) (by kernel_rfl) (e := 39) (size := 5) (bytes := 88) (by kernel_rfl) hA298 rfl (by omega) fun a324 hE325 => ?_)
        clear hE293
        refine of_op (wpOp_load hE325 (t := 39) (b := b296) (o := o297 + k * 5) (d := 39) (by kernel_rfl) (cs := [.int .i64 n304, .slice A309 s305.length c310, .bool b306, .slice A311 l307.length c312, .slice A313 u308.length c314]) (v := .agg #[.int .i64 n304, .slice A309 s305.length c310, .bool b306, .slice A311 l307.length c312, .slice A313 u308.length c314]) (by kernel_rfl) (AtF.move hat300 hF291.step immM hF291.to').at_ fun a326 hE327 => ?_)
        clear hE325
        refine of_op (wpOp_alloc hW288 hE327 (d := 5) (cs := [.int .i64 0, .slice none 0 0, .bool false, .slice none 0 0, .slice none 0 0]) (by kernel_rfl) fun b328 a329 w330 hb331 hz332 hF333 hW334 hE335 => ?_)
        clear hE327 hW288
        refine of_op (wpOp_store hW334 hE335 (oi := 3) (cs := [.int .i64 n304, .slice A309 s305.length c310, .bool b306, .slice A311 l307.length c312, .slice A313 u308.length c314]) (by kernel_rfl) fun w336 hF337 hW338 hE339 => ?_)
        clear hE335 hW334
        refine wpOps_nil ?_
        refine then_normal ?_
        refine go_drawK 7 (by kernel_rfl) hW338 fun w340 hF341 hW342 hT343 => ?_
        clear hW338
        refine go_rnD [0, 1, 2] [(1, .p 0 0), (2, .p 1 0), (3, .p 2 0), (34, .v (.slice A264 l260.length c265)), (35, .v (.int .i64 ((l260.length : Nat) : Int))), (36, .v (.int .i64 ((k : Nat) : Int))), (41, .v (.slice A_ k c_)), (42, .v (.agg #[.int .i64 n304, .slice A309 s305.length c310, .bool b306, .slice A311 l307.length c312, .slice A313 u308.length c314]))] 5 (panicFree_block (panicFree_then (panicFree_then (panicFree_block (panicFree_then panicFree_body))))) (fun _ h => h.cells) hT343 hE339 fun a344 hE345 => ?_
        clear hE339
        refine anyC_op (i := 3) (by kernel_rfl) (wpOp_call hE345 (f := 156) (vs := [.agg #[.int .i64 n304, .slice A309 s305.length c310, .bool b306, .slice A311 l307.length c312, .slice A313 u308.length c314]]) (d := 43) (by kernel_rfl) Try.call156 (eDescribeProducersResponseTopicPartitionActiveProducer _ _ _ _ (hr303.move (Fr.trans (Fr.trans (Fr.trans hF291 hF333) hF337) hF341).step immM (Fr.trans (Fr.trans (Fr.trans hF291 hF333) hF337) hF341).to') (c3e _ (by rw [hl3_]; exact List.mem_of_getElem? he302))) ?_)
        rintro e_ w351 ⟨D349, rfl, hk347, hrel348, hs346⟩
        have hk350 := mvDescribeProducersResponseTopicPartitionActiveProducer _ (Step.refl _ Nil) nilM (hW342.laid (G := F) hs346) hk347
        refine ⟨_, rfl, fun a352 hE353 => ?_⟩
        have hW354 := hW342.next_nil hs346
        have hF355 := hW342.frN hs346
        clear hE345
        have hT356 := TT.ofW hF355 hW354
        refine ⟨fun _ => hT356, ?_⟩
        refine anyC_op (i := 4) (by kernel_rfl) (wpOp_lit hW354 hE353 (e := 168) (size := 7) (len := 1) (cs := [.int .i64 ((D349.f 0).n), .int .i32 ((D349.f 1).n), .int .i32 ((D349.f 2).n), .int .i64 ((D349.f 3).n), .int .i32 ((D349.f 4).n), .int .i64 ((D349.f 5).n), .map D349.m]) (d := 44) (by kernel_rfl) (by kernel_rfl) fun b357 a358 w359 hb360 hz361 hF362 hW363 hE364 => ?_)
        clear hE353 hW354
        have hT365 := TT.ofW (Fr.trans hF355 hF362) hW363
        refine ⟨fun _ => hT365, ?_⟩
        refine anyC_op (i := 5) (by kernel_rfl) (wpOp_append hW363 hE364 (k := 0) (d := 45) (t := 163) (e := 168) (size := 7) (bytes := 48) (A := A_) (As := (some ⟨b357, 0, none⟩)) (m0 := k) (c := c_) (m := 1) (cs := 1) (xs := xs_) (news := [.int .i64 ((D349.f 0).n), .int .i32 ((D349.f 1).n), .int .i32 ((D349.f 2).n), .int .i64 ((D349.f 3).n), .int .i32 ((D349.f 4).n), .int .i64 ((D349.f 5).n), .map D349.m]) (by kernel_rfl) (by kernel_rfl) rfl (own_src (hW363.own 1 _ rfl) (allOne_ok (by kernel_rfl))) (own_cap (hW363.own 1 _ rfl)) (by omega) fun A366 c367 a368 w369 hF370 hW371 hE372 => ?_)
        clear hE364 hW363
        have hT373 := TT.ofW (Fr.trans (Fr.trans hF355 hF362) hF370) hW371
        refine ⟨fun _ => hT373, ?_⟩
        refine go_rnD [6] [(1, .p 0 0), (2, .p 1 0), (3, .p 2 0), (34, .v (.slice A264 l260.length c265)), (35, .v (.int .i64 ((l260.length : Nat) : Int))), (36, .v (.int .i64 ((k : Nat) : Int))), (45, .v (.slice A366 (k + 1) c367)), (46, .p 2 3)] 1 (panicFree_block (panicFree_then (panicFree_then (panicFree_block (panicFree_then panicFree_body))))) (fun _ h => h.cells) hT373 hE372 fun a374 hE375 => ?_
        clear hE372
        refine anyC_op (i := 7) (by kernel_rfl) (wpOp_store hW371 hE375 (oi := 2) (cs := [.int .i32 (IntKind.i32.wrap n52), .int .i16 (IntKind.i16.wrap n89), .pointer A153, .slice A366 (k + 1) c367, .map none]) (by kernel_rfl) fun w376 hF377 hW378 hE379 => ?_)
        clear hE375 hW371
        refine ⟨fun h => absurd rfl h, ?_⟩
        refine anyC_done (by kernel_rfl) ?_ _
        refine block_normal ?_
        refine then_normal ?_
        refine go_region [0, 1] (by kernel_rfl) ?_
        refine go_rn [0, 1] [] [(1, .p 0 0), (2, .p 1 0), (3, .p 2 0), (34, .v (.slice A264 l260.length c265)), (35, .v (.int .i64 ((l260.length : Nat) : Int))), (36, .v (.int .i64 (IntKind.i64.wrap (((k : Nat) : Int) + 1))))] hW378 hE379 fun a380 hE381 => ?_
        clear hE379
        refine wpOps_nil ?_
        refine then_normal ?_
        obtain ⟨hE382, hW383, hF384⟩ := hW378.cutB hE381 3 [⟨b21, 0, [.int .i64 n1, .slice A6 s2.length c7, .bool b3, .slice A8 l4.length c9, .slice A10 u5.length c11], true⟩, ⟨b29, 0, [.int .i32 0, .int .i16 0, .pointer none, .slice none 0 0, .map none], true⟩, ⟨b37, 0, [.int .i32 (IntKind.i32.wrap n52), .int .i16 (IntKind.i16.wrap n89), .pointer A153, .slice A366 (k + 1) c367, .map none], true⟩] [(1, .p 0 0), (2, .p 1 0), (3, .p 2 0), (34, .v (.slice A264 l260.length c265)), (35, .v (.int .i64 ((l260.length : Nat) : Int))), (36, .v (.int .i64 (IntKind.i64.wrap (((k : Nat) : Int) + 1))))]
        obtain ⟨hW385, hF386⟩ := hW383.cutR 1 [⟨A366, c367, 168, 7, k + 1, xs_ ++ [.int .i64 ((D349.f 0).n), .int .i32 ((D349.f 1).n), .int .i32 ((D349.f 2).n), .int .i64 ((D349.f 3).n), .int .i32 ((D349.f 4).n), .int .i64 ((D349.f 5).n), .map D349.m]⟩]
        have he387 : IntKind.i64.wrap (((k : Nat) : Int) + 1) = ((k + 1 : Nat) : Int) := wrap_succ (by omega)
        rw [he387] at hE382
        exact ⟨l260.length - (k + 1), by omega, k + 1, A366, c367, xs_ ++ [Value.int .i64 ((D349.f 0).n), .int .i32 ((D349.f 1).n), .int .i32 ((D349.f 2).n), .int .i64 ((D349.f 3).n), .int .i32 ((D349.f 4).n), .int .i64 ((D349.f 5).n), .map D349.m], (ds_ ++ [D349]), rfl, by omega, own_some hW385 (k := 0) rfl (by omega), RowL.snoc (d := D349) (hR.move (Fr.trans (Fr.trans (Fr.trans (Fr.trans (Fr.trans (Fr.trans (Fr.trans (Fr.trans hF333 hF337) hF341) hF355) hF362) hF370) hF377) hF384) hF386).step immM (Fr.trans (Fr.trans (Fr.trans (Fr.trans (Fr.trans (Fr.trans (Fr.trans (Fr.trans hF333 hF337) hF341) hF355) hF362) hF370) hF377) hF384) hF386).to') he302 rfl (mvDescribeProducersResponseTopicPartitionActiveProducer _ (Fr.trans (Fr.trans (Fr.trans (Fr.trans hF362 hF370) hF377) hF384) hF386).step immM (Fr.trans (Fr.trans (Fr.trans (Fr.trans hF362 hF370) hF377) hF384) hF386).to' hk350) hrel348, hE382.pk, hW385, (Fr.trans (Fr.trans (Fr.trans (Fr.trans (Fr.trans (Fr.trans (Fr.trans (Fr.trans (Fr.trans hF291 hF333) hF337) hF341) hF355) hF362) hF370) hF377) hF384) hF386)⟩
      ·
        have hf388 := of_decide_eq_false hc294
        refine wp_exit ?_
        refine then_exit ?_
        refine then_exit ?_
        refine block_exit ?_
        refine then_normal ?_
        have hk_ : k = (lst (Tree.at_ (Tree.mk n1 s2 b3 l4 u5) 3)).length := by rw [hl3_]; omega
        subst k
        have hL_ := LstR.of hW288 (k := 0) (rs' := []) rfl hR (by rw [hl3_]) oneDescribeProducersResponseTopicPartitionActiveProducer (by omega)
        rw [← hl3_] at hL_
        obtain ⟨hW389, hF390⟩ := hW288.cutR 0 []
        exact ⟨_, _, _, by rw [hnull_]; exact hA, hL_, hE293.pk, hW389, (Fr.trans (Fr.trans (Fr.trans (Fr.trans (Fr.trans hF232 hF241) hF247) hF280) hF291) hF390)⟩
    ·
      refine wp_skip ?_
      refine then_normal ?_
      have hn_ : Tree.null (Tree.at_ (Tree.mk n1 s2 b3 l4 u5) 3) = true := by rw [ht191]; show b176 = true; simpa using hc200
      have hl_ := lst_no hn_
      exact ⟨none, 0, fun _ => dv0, by rw [hn_]; rfl, by rw [hl_]; exact LstR.nil mvDescribeProducersResponseTopicPartitionActiveProducer, by rw [hl_]; exact ⟨hE199.pk, hW196, Fr.refl _ _ _⟩⟩
  rintro a400 w401 ⟨A392, c393, f394, hn395, hL396, hE397, hW398, hF399⟩
  refine wp_seq ?_
  refine go_sp [(2, .p 1 0), (3, .p 2 0), (49, .v (.slice A10 u5.length c11)), (50, .v (.int .i64 ((u5.length : Nat) : Int))), (51, .v (.int .i64 0))] hW398 hE397 fun a402 hE403 => ?_
  clear hE397
  refine wp_block ?_
  have hp404 := new_of hW398 2 rfl (by kernel_rfl)
  have hE408 := hE403.recast 2 (.p 1 0) (.v (.pointer (some ⟨b29, 0, none⟩))) rfl rfl trivial
  have hE409 := hE408.recast 3 (.p 2 0) (.v (.pointer (some ⟨b37, 0, none⟩))) rfl rfl trivial
  have hE406 := (hE409.pick (ks := [2, 3, 49, 50, 51]) (env' := [(2, .v (.pointer (some ⟨b29, 0, none⟩))), (3, .v (.pointer (some ⟨b37, 0, none⟩))), (49, .v (.slice A10 u5.length c11)), (50, .v (.int .i64 ((u5.length : Nat) : Int))), (51, .v (.int .i64 0))]) (by kernel_rfl)).cutTb 0 (by kernel_rfl)
  refine wp_loop_ghost (fun q a_ w_ => ∃ (j : Nat) (m_ : Option Nat), q = u5.length - j ∧ j ≤ u5.length ∧ EnvOk 63 [] [(2, .v (.pointer (some ⟨b29, 0, none⟩))), (3, .v (.pointer (some ⟨b37, 0, none⟩))), (49, .v (.slice A10 u5.length c11)), (50, .v (.int .i64 ((u5.length : Nat) : Int))), (51, .v (.int .i64 ((j : Nat) : Int)))] a_ ∧ TL w w401 w_ F b37 4 [.int .i32 (IntKind.i32.wrap n52), .int .i16 (IntKind.i16.wrap n89), .pointer A153, .slice A392 ((lst (Tree.at_ (Tree.mk n1 s2 b3 l4 u5) 3)).length) c393, .map none] m_ (u5.take j)) u5.length
    ⟨0, none, by omega, by omega, hE406, TL.start hW398 2 rfl rfl⟩ ?_
  rintro q aq wq ⟨j, m_, rfl, hj, hE2, hT⟩
  have hWq := WOk.start wq Nil
  refine go_sp [(2, .v (.pointer (some ⟨b29, 0, none⟩))), (3, .v (.pointer (some ⟨b37, 0, none⟩))), (49, .v (.slice A10 u5.length c11)), (50, .v (.int .i64 ((u5.length : Nat) : Int))), (51, .v (.int .i64 ((j : Nat) : Int))), (52, .v (.bool (decide (((j : Nat) : Int) < ((u5.length : Nat) : Int)))))] hWq hE2 fun aq2 hE3 => wp_seq ?_
  refine cond_of hE3 (b := decide (((j : Nat) : Int) < ((u5.length : Nat) : Int))) (by kernel_rfl) (fun hc => ?_) (fun hc => ?_)
  · have hlt : j < u5.length := by have := of_decide_eq_true hc; omega
    refine wp_skip (then_normal (wp_seq (wp_block ?_)))
    obtain ⟨⟨k, x⟩, hu⟩ : ∃ y, u5[j]? = some y := ⟨_, List.getElem?_eq_getElem hlt⟩
    obtain ⟨bb, bo, xA, xc, hA, hat, hxo, hk⟩ := tag_at h17 hu
    refine go_seq_region [0, 1, 2, 3] (by kernel_rfl) ?_
    refine of_op (wpOp_index hE3 (t := 37) (e := 62) (size := 2) (bytes := 32) (d := 53) (b := bb) (o := bo) (m := u5.length) (j := j) (by kernel_rfl) (by kernel_rfl) hA rfl hlt fun aq3 hE4 => ?_)
    refine of_op (wpOp_load hE4 (t := 62) (d := 54) (cs := [.int .u32 k, .slice xA x.length xc]) (v := .agg #[.int .u32 k, .slice xA x.length xc]) (by kernel_rfl) (by kernel_rfl) (hat.step_nil hT.step) fun aq4 hE5 => ?_)
    refine of_op (wpOp_alloc hWq hE5 (d := 7) (cs := [.int .u32 0, .slice none 0 0]) (by kernel_rfl) fun bx aq5 wq2 hbx hbx0 hFq2 hWq2 hE6 => ?_)
    refine of_op (wpOp_store hWq2 hE6 (oi := 0) (cs := [.int .u32 k, .slice xA x.length xc]) (by kernel_rfl) fun wq3 hFq3 hWq3 hE7 => wpOps_nil (then_normal ?_))
    refine go_region [0, 1, 2, 3, 4, 5] (by kernel_rfl) (go_rn [0, 1, 2, 3, 4] [5] [(2, .v (.pointer (some ⟨b29, 0, none⟩))), (3, .v (.pointer (some ⟨b37, 0, none⟩))), (49, .v (.slice A10 u5.length c11)), (50, .v (.int .i64 ((u5.length : Nat) : Int))), (51, .v (.int .i64 ((j : Nat) : Int))), (55, .v (.pointer (some ⟨b37, 4, none⟩))), (57, .v (.int .u32 k)), (59, .v (.slice xA x.length xc))] hWq3 hE7 fun aq6 hE8 => ?_)
    refine of_op (wpOp_call hE8 (f := 96) (vs := [.pointer (some ⟨b37, 4, none⟩), .int .u32 k, .slice xA x.length xc]) (d := 60) (by kernel_rfl) Try.call96 ((hT.move hWq3.step).set hp404 (by kernel_rfl) hsort hu hxo hk) ?_)
    rintro e_ wq5 ⟨rfl, hS5, r, hT5⟩
    refine ⟨_, rfl, fun aq7 hE9 => wpOps_nil (block_normal (then_normal ?_))⟩
    have hE10 := (hE9.pick (ks := [2, 3, 49, 50, 51]) (env' := [(2, .v (.pointer (some ⟨b29, 0, none⟩))), (3, .v (.pointer (some ⟨b37, 0, none⟩))), (49, .v (.slice A10 u5.length c11)), (50, .v (.int .i64 ((u5.length : Nat) : Int))), (51, .v (.int .i64 ((j : Nat) : Int)))]) (by kernel_rfl)).cutTb 0 (by kernel_rfl)
    refine go_region [0, 1] (by kernel_rfl) (go_rn [0, 1] [] [(2, .v (.pointer (some ⟨b29, 0, none⟩))), (3, .v (.pointer (some ⟨b37, 0, none⟩))), (49, .v (.slice A10 u5.length c11)), (50, .v (.int .i64 ((u5.length : Nat) : Int))), (51, .v (.int .i64 (IntKind.i64.wrap (((j : Nat) : Int) + 1))))] (WOk.start wq5 Nil) hE10 fun aq8 hE11 => wpOps_nil (then_normal ?_))
    rw [wrap_succ (by omega)] at hE11
    exact ⟨u5.length - (j + 1), by omega, j + 1, some r, rfl, by omega, hE11, hT5⟩
  · obtain rfl : j = u5.length := by have := of_decide_eq_false hc; omega
    refine wp_exit (then_exit (then_exit (block_exit ?_)))
    rw [List.take_length] at hT
    obtain ⟨hW410, hF411⟩ := hT.tab hW398 2 [⟨b21, 0, [.int .i64 n1, .slice A6 s2.length c7, .bool b3, .slice A8 l4.length c9, .slice A10 u5.length c11], true⟩, ⟨b29, 0, [.int .i32 0, .int .i16 0, .pointer none, .slice none 0 0, .map none], true⟩, ⟨b37, 0, [.int .i32 (IntKind.i32.wrap n52), .int .i16 (IntKind.i16.wrap n89), .pointer A153, .slice A392 ((lst (Tree.at_ (Tree.mk n1 s2 b3 l4 u5) 3)).length) c393, .map m_], true⟩] rfl
    have hM412 := hT.mapImm hW398 hW410 hF411 hsort (tags_range h17)
    have hE413 := (hE3.retable [⟨b21, 0, [.int .i64 n1, .slice A6 s2.length c7, .bool b3, .slice A8 l4.length c9, .slice A10 u5.length c11], true⟩, ⟨b29, 0, [.int .i32 0, .int .i16 0, .pointer none, .slice none 0 0, .map none], true⟩, ⟨b37, 0, [.int .i32 (IntKind.i32.wrap n52), .int .i16 (IntKind.i16.wrap n89), .pointer A153, .slice A392 ((lst (Tree.at_ (Tree.mk n1 s2 b3 l4 u5) 3)).length) c393, .map m_], true⟩]).recast 2 (.v (.pointer (some ⟨b29, 0, none⟩))) (.p 1 0) rfl rfl (Nat.le_of_ble_eq_true (n := 2) rfl)
    have hE414 := hE413.recast 3 (.v (.pointer (some ⟨b37, 0, none⟩))) (.p 2 0) rfl rfl (Nat.le_of_ble_eq_true (n := 3) rfl)
    have hE415 : EnvOk 63 [⟨b21, 0, [.int .i64 n1, .slice A6 s2.length c7, .bool b3, .slice A8 l4.length c9, .slice A10 u5.length c11], true⟩, ⟨b29, 0, [.int .i32 0, .int .i16 0, .pointer none, .slice none 0 0, .map none], true⟩, ⟨b37, 0, [.int .i32 (IntKind.i32.wrap n52), .int .i16 (IntKind.i16.wrap n89), .pointer A153, .slice A392 ((lst (Tree.at_ (Tree.mk n1 s2 b3 l4 u5) 3)).length) c393, .map m_], true⟩] [(2, .p 1 0), (3, .p 2 0)] _ := hE414.pk
    refine then_normal ?_
    refine go_seq_region [0, 1] (by kernel_rfl) ?_
    refine go_rn [0] [1] [(2, .p 1 0), (62, .v (.agg #[.int .i32 (IntKind.i32.wrap n52), .int .i16 (IntKind.i16.wrap n89), .pointer A153, .slice A392 ((lst (Tree.at_ (Tree.mk n1 s2 b3 l4 u5) 3)).length) c393, .map m_]))] hW410 hE415 fun a416 hE417 => ?_
    clear hE415
    refine of_op (wpOp_store hW410 hE417 (oi := 1) (cs := [.int .i32 (IntKind.i32.wrap n52), .int .i16 (IntKind.i16.wrap n89), .pointer A153, .slice A392 ((lst (Tree.at_ (Tree.mk n1 s2 b3 l4 u5) 3)).length) c393, .map m_]) (by kernel_rfl) fun w418 hF419 hW420 hE421 => ?_)
    clear hE417 hW410
    refine wpOps_nil ?_
    refine then_normal ?_
    refine wp_ret ?_
    refine leave hE421 hW420.cells (v := .agg #[.int .i32 (IntKind.i32.wrap n52), .int .i16 (IntKind.i16.wrap n89), .pointer A153, .slice A392 ((lst (Tree.at_ (Tree.mk n1 s2 b3 l4 u5) 3)).length) c393, .map m_]) (by kernel_rfl) ?_
    refine ⟨dvP m_ u5 [dvN (IntKind.i32.wrap n52), dvN (IntKind.i16.wrap n89), dvT A153 (bs (octOf (Tree.at_ (Tree.mk n1 s2 b3 l4 u5) 2))), dvL A392 (lst (Tree.at_ (Tree.mk n1 s2 b3 l4 u5) 3)).length c393 f394], rfl, ?_, ?_, hW420.step⟩
    · unfold okDescribeProducersResponseTopicPartition
      exact ⟨trivial, trivial, ⟨fun ad h => by
      obtain ⟨b, o, g1, g2⟩ := hr155 ad h
      exact ⟨b, o, g1, ((g2.move (Fr.trans (Fr.trans (Fr.trans (Fr.trans hF164 hF197) hF399) hF411) hF419).step immM (Fr.trans (Fr.trans (Fr.trans (Fr.trans hF164 hF197) hF399) hF411) hF419).to').move (Step.refl _ Nil) nilM immOut)⟩, by show ByteArray.size (bs (octOf (Tree.at_ (Tree.mk n1 s2 b3 l4 u5) 2))) ≤ 1000000; rw [bs_size]; exact c2⟩, ⟨((hL396.move (Fr.trans hF411 hF419).step immM (Fr.trans hF411 hF419).to').move (Step.refl _ Nil) nilM immOut).slots, c3, ((hL396.move (Fr.trans hF411 hF419).step immM (Fr.trans hF411 hF419).to').move (Step.refl _ Nil) nilM immOut).each⟩, ((hM412.move hF419.step immM hF419.to').move (Step.refl _ Nil) nilM immOut), cU.2.1, cU.2.2, trivial⟩
    · unfold relDescribeProducersResponseTopicPartition
      exact ⟨by rw [ht69]; rfl, by rw [ht106]; rfl, ⟨rfl, hn152⟩, ⟨hn395, rfl, hL396.rel_⟩, rfl, trivial⟩

set_option maxHeartbeats 4000000 in
theorem eDescribeProducersResponseTopic (ct : List Value) (t : Tree) (w : World) (F : Nat → Nat → Prop) (ht : TreeR w F ct t) (hc : canDescribeProducersResponseTopic t) :
    Calls Try.prog 138 #[.agg ct.toArray] w (fun e w' => ∃ D : DV, e = .returned (.agg #[.string ((D.f 0).s), .slice ((D.f 1).A) ((D.f 1).l) ((D.f 1).c), .map D.m]) ∧ okDescribeProducersResponseTopic w' (Fp F w) D ∧ relDescribeProducersResponseTopic D t ∧ Step w w' Nil) := by
  obtain ⟨n1, s2, b3, l4, u5, A6, c7, A8, c9, A10, c11, xs12, rfl, rfl, h14, h15, h16, h17⟩ := ht.open_
  have hsm19 := h14.small
  have hsm20 := h15.small
  unfold canDescribeProducersResponseTopic at hc
  obtain ⟨c0, ⟨c1, c1e⟩, cU, _⟩ := hc
  have hsort := cU.1
  replace hsort : Sorted u5 := hsort
  have hul : u5.length ≤ 1000000 := cU.2.1
  refine enter (n := 54) Try.func138 rfl Try.ntmps138 (by kernel_rfl) fun a hE => ?_
  have hW := WOk.start w Nil
  refine go_seq_region [0, 1] (by kernel_rfl) ?_
  refine of_op (wpOp_box hW hE (d := 1) (cs := [.int .i64 n1, .slice A6 s2.length c7, .bool b3, .slice A8 l4.length c9, .slice A10 u5.length c11]) (by kernel_rfl) fun b21 a22 w23 hb24 hz25 hF26 hW27 hE28 => ?_)
  clear hE hW
  refine of_op (wpOp_alloc hW27 hE28 (d := 2) (cs := [.string ByteArray.empty, .slice none 0 0, .map none]) (by kernel_rfl) fun b29 a30 w31 hb32 hz33 hF34 hW35 hE36 => ?_)
  clear hE28 hW27
  refine wpOps_nil ?_
  refine then_normal ?_
  refine go_seq_region [0] (by kernel_rfl) ?_
  refine of_op (wpOp_alloc hW35 hE36 (d := 3) (cs := [.string ByteArray.empty, .slice none 0 0, .map none]) (by kernel_rfl) fun b37 a38 w39 hb40 hz41 hF42 hW43 hE44 => ?_)
  clear hE36 hW35
  refine wpOps_nil ?_
  refine then_normal ?_
  refine go_seq_region [0, 1, 2, 3, 4, 5] (by kernel_rfl) ?_
  refine go_rn [0] [1, 2, 3, 4, 5] [(1, .p 0 0), (2, .p 1 0), (3, .p 2 0), (8, .v (.agg #[.int .i64 n1, .slice A6 s2.length c7, .bool b3, .slice A8 l4.length c9, .slice A10 u5.length c11]))] hW43 hE44 fun a45 hE46 => ?_
  clear hE44
  refine of_op (wpOp_call hE46 (f := 95) (vs := [.agg #[.int .i64 n1, .slice A6 s2.length c7, .bool b3, .slice A8 l4.length c9, .slice A10 u5.length c11], .int .i64 0]) (d := 9) (by kernel_rfl) Try.call95 (iAt _ _ 0 _ _ (ht.move hW43.step nilM hW43.imm)) ?_)
  rintro e_ w50 ⟨cs49, rfl, hr48, hs47⟩
  have hr51 := hr48.move hs47 nilM (fun b o h_ hb_ => hW43.laid (G := F) hs47 b o (.inl h_) (Nat.lt_of_lt_of_le hb_ hs47.size))
  obtain ⟨n52, s53, b54, l55, u56, A57, c58, A59, c60, A61, c62, xs63, ht69, hcs64, h65, h66, h67, h68⟩ := hr51.open_
  rw [hcs64] at hr51
  have hsm70 := h65.small
  have hsm71 := h66.small
  rw [hcs64]
  refine ⟨_, rfl, fun a72 hE73 => ?_⟩
  have hW74 := hW43.next_nil hs47
  have hF75 := hW43.frN hs47
  clear hE46
  refine go_rn [2] [3, 4, 5] [(1, .p 0 0), (2, .p 1 0), (3, .p 2 0), (10, .v (.slice A57 s53.length c58))] hW74 hE73 fun a76 hE77 => ?_
  clear hE73
  refine of_op (wpOp_conv hE77 (src := 22) (dst := 9) (e := 5) (d := 11) (by kernel_rfl) (by kernel_rfl) (by kernel_rfl) (by kernel_rfl) h65 fun a78 hE79 => ?_)
  clear hE77
  refine go_rn [4] [5] [(1, .p 0 0), (2, .p 1 0), (3, .p 2 0), (11, .v (.string (bs s53))), (12, .p 2 0)] hW74 hE79 fun a80 hE81 => ?_
  clear hE79
  refine of_op (wpOp_store hW74 hE81 (oi := 2) (cs := [.string (bs s53), .slice none 0 0, .map none]) (by kernel_rfl) fun w82 hF83 hW84 hE85 => ?_)
  clear hE81 hW74
  refine wpOps_nil ?_
  refine then_normal ?_
  refine wp_seq ?_
  refine go_seq_region [0, 1, 2, 3] (by kernel_rfl) ?_
  refine go_rn [0] [1, 2, 3] [(1, .p 0 0), (2, .p 1 0), (3, .p 2 0), (13, .v (.agg #[.int .i64 n1, .slice A6 s2.length c7, .bool b3, .slice A8 l4.length c9, .slice A10 u5.length c11]))] hW84 hE85 fun a86 hE87 => ?_
  clear hE85
  refine of_op (wpOp_call hE87 (f := 95) (vs := [.agg #[.int .i64 n1, .slice A6 s2.length c7, .bool b3, .slice A8 l4.length c9, .slice A10 u5.length c11], .int .i64 1]) (d := 14) (by kernel_rfl) Try.call95 (iAt _ _ 1 _ _ (ht.move hW84.step nilM hW84.imm)) ?_)
  rintro e_ w91 ⟨cs90, rfl, hr89, hs88⟩
  have hr92 := hr89.move hs88 nilM (fun b o h_ hb_ => hW84.laid (G := F) hs88 b o (.inl h_) (Nat.lt_of_lt_of_le hb_ hs88.size))
  obtain ⟨n93, s94, b95, l96, u97, A98, c99, A100, c101, A102, c103, xs104, ht110, hcs105, h106, h107, h108, h109⟩ := hr92.open_
  rw [hcs105] at hr92
  have hsm111 := h106.small
  have hsm112 := h107.small
  rw [hcs105]
  refine ⟨_, rfl, fun a113 hE114 => ?_⟩
  have hW115 := hW84.next_nil hs88
  have hF116 := hW84.frN hs88
  clear hE87
  refine go_rn [2, 3] [] [(1, .p 0 0), (2, .p 1 0), (3, .p 2 0), (16, .v (.bool (!b95)))] hW115 hE114 fun a117 hE118 => ?_
  clear hE114
  refine wpOps_nil ?_
  refine then_normal ?_
  refine wp_join (Mid := fun a_ w_ => ∃ (A_ : Option Addr) (c_ : Nat) (f_ : Nat → DV), A_.isNone = Tree.null (Tree.at_ (Tree.mk n1 s2 b3 l4 u5) 1) ∧ LstR w_ (Imm F w w_ [⟨b21, 0, [.int .i64 n1, .slice A6 s2.length c7, .bool b3, .slice A8 l4.length c9, .slice A10 u5.length c11], true⟩, ⟨b29, 0, [.string ByteArray.empty, .slice none 0 0, .map none], true⟩, ⟨b37, 0, [.string (bs s53), .slice A_ ((lst (Tree.at_ (Tree.mk n1 s2 b3 l4 u5) 1)).length) c_, .map none], true⟩] []) 5 clDescribeProducersResponseTopicPartition okDescribeProducersResponseTopicPartition relDescribeProducersResponseTopicPartition A_ c_ f_ (lst (Tree.at_ (Tree.mk n1 s2 b3 l4 u5) 1)) ∧ LInv hW115 54 [⟨b21, 0, [.int .i64 n1, .slice A6 s2.length c7, .bool b3, .slice A8 l4.length c9, .slice A10 u5.length c11], true⟩, ⟨b29, 0, [.string ByteArray.empty, .slice none 0 0, .map none], true⟩, ⟨b37, 0, [.string (bs s53), .slice A_ ((lst (Tree.at_ (Tree.mk n1 s2 b3 l4 u5) 1)).length) c_, .map none], true⟩] [] [(1, .p 0 0), (2, .p 1 0), (3, .p 2 0)] a_ w_) ?_ ?_
  ·
    refine cond_of hE118 (b := !b95) (by kernel_rfl) (fun hc119 => ?_) (fun hc119 => ?_)
    ·
      have hnull_ : Tree.null (Tree.at_ (Tree.mk n1 s2 b3 l4 u5) 1) = false := by rw [ht110]; show b95 = false; simpa using hc119
      refine go_seq_region [0, 1, 2, 3, 4, 5, 6] (by kernel_rfl) ?_
      refine go_rn [0] [1, 2, 3, 4, 5, 6] [(1, .p 0 0), (2, .p 1 0), (3, .p 2 0), (17, .v (.agg #[.int .i64 n1, .slice A6 s2.length c7, .bool b3, .slice A8 l4.length c9, .slice A10 u5.length c11]))] hW115 hE118 fun a121 hE122 => ?_
      clear hE118
      refine of_op (wpOp_call hE122 (f := 95) (vs := [.agg #[.int .i64 n1, .slice A6 s2.length c7, .bool b3, .slice A8 l4.length c9, .slice A10 u5.length c11], .int .i64 1]) (d := 18) (by kernel_rfl) Try.call95 (iAt _ _ 1 _ _ (ht.move hW115.step nilM hW115.imm)) ?_)
      rintro e_ w126 ⟨cs125, rfl, hr124, hs123⟩
      have hr127 := hr124.move hs123 nilM (fun b o h_ hb_ => hW115.laid (G := F) hs123 b o (.inl h_) (Nat.lt_of_lt_of_le hb_ hs123.size))
      obtain ⟨n128, s129, b130, l131, u132, A133, c134, A135, c136, A137, c138, xs139, ht145, hcs140, h141, h142, h143, h144⟩ := hr127.open_
      rw [hcs140] at hr127
      have hsm146 := h141.small
      have hsm147 := h142.small
      rw [hcs140]
      refine ⟨_, rfl, fun a148 hE149 => ?_⟩
      have hW150 := hW115.next_nil hs123
      have hF151 := hW115.frN hs123
      clear hE122
      have hl3_ : lst (Tree.at_ (Tree.mk n1 s2 b3 l4 u5) 1) = l131 := by rw [lst_of hnull_, ht145]; rfl
      have hb152 : l131.length ≤ 1000000 := by have h_ := c1; rw [hl3_] at h_; exact h_
      refine go_rn [2, 3] [4, 5, 6] [(1, .p 0 0), (2, .p 1 0), (3, .p 2 0), (20, .v (.int .i64 ((l131.length : Nat) : Int)))] hW150 hE149 fun a153 hE154 => ?_
      clear hE149
      refine of_op (wpOp_make0 hW150 hE154 (d := 21) (j := l131.length) (t := 157) (e := 165) (size := 5) (bytes := 48) (by kernel_rfl) (by kernel_rfl) rfl (rfl) (by omega) fun b155 a156 w157 hb158 hz159 hF160 hW161 hE162 => ?_)
      clear hE154 hW150
      refine go_rn [5] [6] [(1, .p 0 0), (2, .p 1 0), (3, .p 2 0), (21, .v (.slice (some ⟨b155, 0, none⟩) 0 l131.length)), (22, .p 2 1)] hW161 hE162 fun a163 hE164 => ?_
      clear hE162
      refine of_op (wpOp_store hW161 hE164 (oi := 2) (cs := [.string (bs s53), .slice (some ⟨b155, 0, none⟩) 0 l131.length, .map none]) (by kernel_rfl) fun w165 hF166 hW167 hE168 => ?_)
      clear hE164 hW161
      refine wpOps_nil ?_
      refine then_normal ?_
      refine go_seq_region [0, 1, 2, 3, 4] (by kernel_rfl) ?_
      refine go_rn [0] [1, 2, 3, 4] [(1, .p 0 0), (2, .p 1 0), (3, .p 2 0), (23, .v (.agg #[.int .i64 n1, .slice A6 s2.length c7, .bool b3, .slice A8 l4.length c9, .slice A10 u5.length c11]))] hW167 hE168 fun a169 hE170 => ?_
      clear hE168
      refine of_op (wpOp_call hE170 (f := 95) (vs := [.agg #[.int .i64 n1, .slice A6 s2.length c7, .bool b3, .slice A8 l4.length c9, .slice A10 u5.length c11], .int .i64 1]) (d := 24) (by kernel_rfl) Try.call95 (iAt _ _ 1 _ _ (ht.move hW167.step nilM hW167.imm)) ?_)
      rintro e_ w174 ⟨cs173, rfl, hr172, hs171⟩
      have hr175 := hr172.move hs171 nilM (fun b o h_ hb_ => hW167.laid (G := F) hs171 b o (.inl h_) (Nat.lt_of_lt_of_le hb_ hs171.size))
      obtain ⟨n176, s177, b178, l179, u180, A181, c182, A183, c184, A185, c186, xs187, ht193, hcs188, h189, h190, h191, h192⟩ := hr175.open_
      rw [hcs188] at hr175
      have hsm194 := h189.small
      have hsm195 := h190.small
      rw [hcs188]
      refine ⟨_, rfl, fun a196 hE197 => ?_⟩
      have hW198 := hW167.next_nil hs171
      have hF199 := hW167.frN hs171
      clear hE170
      have hl3_ : lst (Tree.at_ (Tree.mk n1 s2 b3 l4 u5) 1) = l179 := by rw [lst_of hnull_, ht193]; rfl
      have hb200 : l179.length ≤ 1000000 := by have h_ := c1; rw [hl3_] at h_; exact h_
      refine go_rn [2, 3, 4] [] [(1, .p 0 0), (2, .p 1 0), (3, .p 2 0), (25, .v (.slice A183 l179.length c184)), (26, .v (.int .i64 ((l179.length : Nat) : Int))), (27, .v (.int .i64 0))] hW198 hE197 fun a201 hE202 => ?_
      clear hE197
      refine wpOps_nil ?_
      refine then_normal ?_
      refine wp_block ?_
      refine wp_loop_ghost (fun n_ a_ w_ => ∃ (k : Nat) (A_ : Option Addr) (c_ : Nat) (xs_ : List Value) (ds_ : List DV), n_ = l179.length - k ∧ k ≤ l179.length ∧ (A_.isNone = false) ∧ (RowL w_ (Imm F w w_ [⟨b21, 0, [.int .i64 n1, .slice A6 s2.length c7, .bool b3, .slice A8 l4.length c9, .slice A10 u5.length c11], true⟩, ⟨b29, 0, [.string ByteArray.empty, .slice none 0 0, .map none], true⟩, ⟨b37, 0, [.string (bs s53), .slice A_ k c_, .map none], true⟩] [⟨A_, c_, 165, 5, k, xs_⟩]) 5 clDescribeProducersResponseTopicPartition okDescribeProducersResponseTopicPartition relDescribeProducersResponseTopicPartition xs_ ds_ (l179.take k)) ∧ LInv hW198 54 [⟨b21, 0, [.int .i64 n1, .slice A6 s2.length c7, .bool b3, .slice A8 l4.length c9, .slice A10 u5.length c11], true⟩, ⟨b29, 0, [.string ByteArray.empty, .slice none 0 0, .map none], true⟩, ⟨b37, 0, [.string (bs s53), .slice A_ k c_, .map none], true⟩] [⟨A_, c_, 165, 5, k, xs_⟩] [(1, .p 0 0), (2, .p 1 0), (3, .p 2 0), (25, .v (.slice A183 l179.length c184)), (26, .v (.int .i64 ((l179.length : Nat) : Int))), (27, .v (.int .i64 ((k : Nat) : Int)))] a_ w_) (l179.length) ⟨0, (some ⟨b155, 0, none⟩), l131.length, [], [], by omega, by omega, rfl, RowL.nil mvDescribeProducersResponseTopicPartition, hE202.pk, hW198, Fr.refl _ _ _⟩ ?_
      clear hE202
      rintro n203 a204 w205 ⟨k, A_, c_, xs_, ds_, hn208, hk209, hA, hR, hE206, hW207, hF210⟩
      refine go_sp [(1, .p 0 0), (2, .p 1 0), (3, .p 2 0), (25, .v (.slice A183 l179.length c184)), (26, .v (.int .i64 ((l179.length : Nat) : Int))), (27, .v (.int .i64 ((k : Nat) : Int))), (28, .v (.bool (decide (((k : Nat) : Int) < ((l179.length : Nat) : Int)))))] hW207 hE206 fun a211 hE212 => ?_
      clear hE206
      refine wp_seq ?_
      refine cond_of hE212 (b := decide (((k : Nat) : Int) < ((l179.length : Nat) : Int))) (by kernel_rfl) (fun hc213 => ?_) (fun hc213 => ?_)
      ·
        have hf214 := of_decide_eq_true hc213
        refine wp_skip ?_
        refine then_normal ?_
        refine wp_seq ?_
        refine wp_block ?_
        refine go_seq_region [0, 1, 2, 3] (by kernel_rfl) ?_
        obtain ⟨b215, o216, hA217, hl218, hat219⟩ := Slots.get h190 (i := k) (by omega)
        obtain ⟨x220, he221⟩ : ∃ x, l179[k]? = some x := ⟨_, List.getElem?_eq_getElem (by omega)⟩
        have hr222 := h191 k x220 he221
        obtain ⟨n223, s224, b225, l226, u227, A228, c229, A230, c231, A232, c233, xs234, rfl, hcs235, h236, h237, h238, h239⟩ := hr222.open_
        rw [hcs235] at hr222
        have hsm241 := h236.small
        have hsm242 := h237.small
        rw [hcs235] at hat219
        refine of_op (wpOp_index hE212 (t := 36) (A := A183) (m := l179.length) (q := ((k : Nat) : Int)) (d := 29) (by kernel_rfl) (e := 39) (size := 5) (bytes := 88) (by kernel_rfl) hA217 rfl (by omega) fun a243 hE244 => ?_)
        clear hE212
        refine of_op (wpOp_load hE244 (t := 39) (b := b215) (o := o216 + k * 5) (d := 30) (by kernel_rfl) (cs := [.int .i64 n223, .slice A228 s224.length c229, .bool b225, .slice A230 l226.length c231, .slice A232 u227.length c233]) (v := .agg #[.int .i64 n223, .slice A228 s224.length c229, .bool b225, .slice A230 l226.length c231, .slice A232 u227.length c233]) (by kernel_rfl) (AtF.move hat219 hF210.step immM hF210.to').at_ fun a245 hE246 => ?_)
        clear hE244
        refine of_op (wpOp_alloc hW207 hE246 (d := 5) (cs := [.int .i64 0, .slice none 0 0, .bool false, .slice none 0 0, .slice none 0 0]) (by kernel_rfl) fun b247 a248 w249 hb250 hz251 hF252 hW253 hE254 => ?_)
        clear hE246 hW207
        refine of_op (wpOp_store hW253 hE254 (oi := 3) (cs := [.int .i64 n223, .slice A228 s224.length c229, .bool b225, .slice A230 l226.length c231, .slice A232 u227.length c233]) (by kernel_rfl) fun w255 hF256 hW257 hE258 => ?_)
        clear hE254 hW253
        refine wpOps_nil ?_
        refine then_normal ?_
        refine go_drawK 7 (by kernel_rfl) hW257 fun w259 hF260 hW261 hT262 => ?_
        clear hW257
        refine go_rnD [0, 1, 2] [(1, .p 0 0), (2, .p 1 0), (3, .p 2 0), (25, .v (.slice A183 l179.length c184)), (26, .v (.int .i64 ((l179.length : Nat) : Int))), (27, .v (.int .i64 ((k : Nat) : Int))), (32, .v (.slice A_ k c_)), (33, .v (.agg #[.int .i64 n223, .slice A228 s224.length c229, .bool b225, .slice A230 l226.length c231, .slice A232 u227.length c233]))] 5 (panicFree_block (panicFree_then (panicFree_then (panicFree_block (panicFree_then panicFree_body))))) (fun _ h => h.cells) hT262 hE258 fun a263 hE264 => ?_
        clear hE258
        refine anyC_op (i := 3) (by kernel_rfl) (wpOp_call hE264 (f := 151) (vs := [.agg #[.int .i64 n223, .slice A228 s224.length c229, .bool b225, .slice A230 l226.length c231, .slice A232 u227.length c233]]) (d := 34) (by kernel_rfl) Try.call151 (eDescribeProducersResponseTopicPartition _ _ _ _ (hr222.move (Fr.trans (Fr.trans (Fr.trans hF210 hF252) hF256) hF260).step immM (Fr.trans (Fr.trans (Fr.trans hF210 hF252) hF256) hF260).to') (c1e _ (by rw [hl3_]; exact List.mem_of_getElem? he221))) ?_)
        rintro e_ w270 ⟨D268, rfl, hk266, hrel267, hs265⟩
        have hk269 := mvDescribeProducersResponseTopicPartition _ (Step.refl _ Nil) nilM (hW261.laid (G := F) hs265) hk266
        refine ⟨_, rfl, fun a271 hE272 => ?_⟩
        have hW273 := hW261.next_nil hs265
        have hF274 := hW261.frN hs265
        clear hE264
        have hT275 := TT.ofW hF274 hW273
        refine ⟨fun _ => hT275, ?_⟩
        refine anyC_op (i := 4) (by kernel_rfl) (wpOp_lit hW273 hE272 (e := 165) (size := 5) (len := 1) (cs := [.int .i32 ((D268.f 0).n), .int .i16 ((D268.f 1).n), .pointer ((D268.f 2).A), .slice ((D268.f 3).A) ((D268.f 3).l) ((D268.f 3).c), .map D268.m]) (d := 35) (by kernel_rfl) (by kernel_rfl) fun b276 a277 w278 hb279 hz280 hF281 hW282 hE283 => ?_)
        clear hE272 hW273
        have hT284 := TT.ofW (Fr.trans hF274 hF281) hW282
        refine ⟨fun _ => hT284, ?_⟩
        refine anyC_op (i := 5) (by kernel_rfl) (wpOp_append hW282 hE283 (k := 0) (d := 36) (t := 157) (e := 165) (size := 5) (bytes := 48) (A := A_) (As := (some ⟨b276, 0, none⟩)) (m0 := k) (c := c_) (m := 1) (cs := 1) (xs := xs_) (news := [.int .i32 ((D268.f 0).n), .int .i16 ((D268.f 1).n), .pointer ((D268.f 2).A), .slice ((D268.f 3).A) ((D268.f 3).l) ((D268.f 3).c), .map D268.m]) (by kernel_rfl) (by kernel_rfl) rfl (own_src (hW282.own 1 _ rfl) (allOne_ok (by kernel_rfl))) (own_cap (hW282.own 1 _ rfl)) (by omega) fun A285 c286 a287 w288 hF289 hW290 hE291 => ?_)
        clear hE283 hW282
        have hT292 := TT.ofW (Fr.trans (Fr.trans hF274 hF281) hF289) hW290
        refine ⟨fun _ => hT292, ?_⟩
        refine go_rnD [6] [(1, .p 0 0), (2, .p 1 0), (3, .p 2 0), (25, .v (.slice A183 l179.length c184)), (26, .v (.int .i64 ((l179.length : Nat) : Int))), (27, .v (.int .i64 ((k : Nat) : Int))), (36, .v (.slice A285 (k + 1) c286)), (37, .p 2 1)] 1 (panicFree_block (panicFree_then (panicFree_then (panicFree_block (panicFree_then panicFree_body))))) (fun _ h => h.cells) hT292 hE291 fun a293 hE294 => ?_
        clear hE291
        refine anyC_op (i := 7) (by kernel_rfl) (wpOp_store hW290 hE294 (oi := 2) (cs := [.string (bs s53), .slice A285 (k + 1) c286, .map none]) (by kernel_rfl) fun w295 hF296 hW297 hE298 => ?_)
        clear hE294 hW290
        refine ⟨fun h => absurd rfl h, ?_⟩
        refine anyC_done (by kernel_rfl) ?_ _
        refine block_normal ?_
        refine then_normal ?_
        refine go_region [0, 1] (by kernel_rfl) ?_
        refine go_rn [0, 1] [] [(1, .p 0 0), (2, .p 1 0), (3, .p 2 0), (25, .v (.slice A183 l179.length c184)), (26, .v (.int .i64 ((l179.length : Nat) : Int))), (27, .v (.int .i64 (IntKind.i64.wrap (((k : Nat) : Int) + 1))))] hW297 hE298 fun a299 hE300 => ?_
        clear hE298
        refine wpOps_nil ?_
        refine then_normal ?_
        obtain ⟨hE301, hW302, hF303⟩ := hW297.cutB hE300 3 [⟨b21, 0, [.int .i64 n1, .slice A6 s2.length c7, .bool b3, .slice A8 l4.length c9, .slice A10 u5.length c11], true⟩, ⟨b29, 0, [.string ByteArray.empty, .slice none 0 0, .map none], true⟩, ⟨b37, 0, [.string (bs s53), .slice A285 (k + 1) c286, .map none], true⟩] [(1, .p 0 0), (2, .p 1 0), (3, .p 2 0), (25, .v (.slice A183 l179.length c184)), (26, .v (.int .i64 ((l179.length : Nat) : Int))), (27, .v (.int .i64 (IntKind.i64.wrap (((k : Nat) : Int) + 1))))]
        obtain ⟨hW304, hF305⟩ := hW302.cutR 1 [⟨A285, c286, 165, 5, k + 1, xs_ ++ [.int .i32 ((D268.f 0).n), .int .i16 ((D268.f 1).n), .pointer ((D268.f 2).A), .slice ((D268.f 3).A) ((D268.f 3).l) ((D268.f 3).c), .map D268.m]⟩]
        have he306 : IntKind.i64.wrap (((k : Nat) : Int) + 1) = ((k + 1 : Nat) : Int) := wrap_succ (by omega)
        rw [he306] at hE301
        exact ⟨l179.length - (k + 1), by omega, k + 1, A285, c286, xs_ ++ [Value.int .i32 ((D268.f 0).n), .int .i16 ((D268.f 1).n), .pointer ((D268.f 2).A), .slice ((D268.f 3).A) ((D268.f 3).l) ((D268.f 3).c), .map D268.m], (ds_ ++ [D268]), rfl, by omega, own_some hW304 (k := 0) rfl (by omega), RowL.snoc (d := D268) (hR.move (Fr.trans (Fr.trans (Fr.trans (Fr.trans (Fr.trans (Fr.trans (Fr.trans (Fr.trans hF252 hF256) hF260) hF274) hF281) hF289) hF296) hF303) hF305).step immM (Fr.trans (Fr.trans (Fr.trans (Fr.trans (Fr.trans (Fr.trans (Fr.trans (Fr.trans hF252 hF256) hF260) hF274) hF281) hF289) hF296) hF303) hF305).to') he221 rfl (mvDescribeProducersResponseTopicPartition _ (Fr.trans (Fr.trans (Fr.trans (Fr.trans hF281 hF289) hF296) hF303) hF305).step immM (Fr.trans (Fr.trans (Fr.trans (Fr.trans hF281 hF289) hF296) hF303) hF305).to' hk269) hrel267, hE301.pk, hW304, (Fr.trans (Fr.trans (Fr.trans (Fr.trans (Fr.trans (Fr.trans (Fr.trans (Fr.trans (Fr.trans hF210 hF252) hF256) hF260) hF274) hF281) hF289) hF296) hF303) hF305)⟩
      ·
        have hf307 := of_decide_eq_false hc213
        refine wp_exit ?_
        refine then_exit ?_
        refine then_exit ?_
        refine block_exit ?_
        refine then_normal ?_
        have hk_ : k = (lst (Tree.at_ (Tree.mk n1 s2 b3 l4 u5) 1)).length := by rw [hl3_]; omega
        subst k
        have hL_ := LstR.of hW207 (k := 0) (rs' := []) rfl hR (by rw [hl3_]) oneDescribeProducersResponseTopicPartition (by omega)
        rw [← hl3_] at hL_
        obtain ⟨hW308, hF309⟩ := hW207.cutR 0 []
        exact ⟨_, _, _, by rw [hnull_]; exact hA, hL_, hE212.pk, hW308, (Fr.trans (Fr.trans (Fr.trans (Fr.trans (Fr.trans hF151 hF160) hF166) hF199) hF210) hF309)⟩
    ·
      refine wp_skip ?_
      refine then_normal ?_
      have hn_ : Tree.null (Tree.at_ (Tree.mk n1 s2 b3 l4 u5) 1) = true := by rw [ht110]; show b95 = true; simpa using hc119
      have hl_ := lst_no hn_
      exact ⟨none, 0, fun _ => dv0, by rw [hn_]; rfl, by rw [hl_]; exact LstR.nil mvDescribeProducersResponseTopicPartition, by rw [hl_]; exact ⟨hE118.pk, hW115, Fr.refl _ _ _⟩⟩
  rintro a319 w320 ⟨A311, c312, f313, hn314, hL315, hE316, hW317, hF318⟩
  refine wp_seq ?_
  refine go_sp [(2, .p 1 0), (3, .p 2 0), (40, .v (.slice A10 u5.length c11)), (41, .v (.int .i64 ((u5.length : Nat) : Int))), (42, .v (.int .i64 0))] hW317 hE316 fun a321 hE322 => ?_
  clear hE316
  refine wp_block ?_
  have hp323 := new_of hW317 2 rfl (by kernel_rfl)
  have hE327 := hE322.recast 2 (.p 1 0) (.v (.pointer (some ⟨b29, 0, none⟩))) rfl rfl trivial
  have hE328 := hE327.recast 3 (.p 2 0) (.v (.pointer (some ⟨b37, 0, none⟩))) rfl rfl trivial
  have hE325 := (hE328.pick (ks := [2, 3, 40, 41, 42]) (env' := [(2, .v (.pointer (some ⟨b29, 0, none⟩))), (3, .v (.pointer (some ⟨b37, 0, none⟩))), (40, .v (.slice A10 u5.length c11)), (41, .v (.int .i64 ((u5.length : Nat) : Int))), (42, .v (.int .i64 0))]) (by kernel_rfl)).cutTb 0 (by kernel_rfl)
  refine wp_loop_ghost (fun q a_ w_ => ∃ (j : Nat) (m_ : Option Nat), q = u5.length - j ∧ j ≤ u5.length ∧ EnvOk 54 [] [(2, .v (.pointer (some ⟨b29, 0, none⟩))), (3, .v (.pointer (some ⟨b37, 0, none⟩))), (40, .v (.slice A10 u5.length c11)), (41, .v (.int .i64 ((u5.length : Nat) : Int))), (42, .v (.int .i64 ((j : Nat) : Int)))] a_ ∧ TL w w320 w_ F b37 2 [.string (bs s53), .slice A311 ((lst (Tree.at_ (Tree.mk n1 s2 b3 l4 u5) 1)).length) c312, .map none] m_ (u5.take j)) u5.length
    ⟨0, none, by omega, by omega, hE325, TL.start hW317 2 rfl rfl⟩ ?_
  rintro q aq wq ⟨j, m_, rfl, hj, hE2, hT⟩
  have hWq := WOk.start wq Nil
  refine go_sp [(2, .v (.pointer (some ⟨b29, 0, none⟩))), (3, .v (.pointer (some ⟨b37, 0, none⟩))), (40, .v (.slice A10 u5.length c11)), (41, .v (.int .i64 ((u5.length : Nat) : Int))), (42, .v (.int .i64 ((j : Nat) : Int))), (43, .v (.bool (decide (((j : Nat) : Int) < ((u5.length : Nat) : Int)))))] hWq hE2 fun aq2 hE3 => wp_seq ?_
  refine cond_of hE3 (b := decide (((j : Nat) : Int) < ((u5.length : Nat) : Int))) (by kernel_rfl) (fun hc => ?_) (fun hc => ?_)
  · have hlt : j < u5.length := by have := of_decide_eq_true hc; omega
    refine wp_skip (then_normal (wp_seq (wp_block ?_)))
    obtain ⟨⟨k, x⟩, hu⟩ : ∃ y, u5[j]? = some y := ⟨_, List.getElem?_eq_getElem hlt⟩
    obtain ⟨bb, bo, xA, xc, hA, hat, hxo, hk⟩ := tag_at h17 hu
    refine go_seq_region [0, 1, 2, 3] (by kernel_rfl) ?_
    refine of_op (wpOp_index hE3 (t := 37) (e := 62) (size := 2) (bytes := 32) (d := 44) (b := bb) (o := bo) (m := u5.length) (j := j) (by kernel_rfl) (by kernel_rfl) hA rfl hlt fun aq3 hE4 => ?_)
    refine of_op (wpOp_load hE4 (t := 62) (d := 45) (cs := [.int .u32 k, .slice xA x.length xc]) (v := .agg #[.int .u32 k, .slice xA x.length xc]) (by kernel_rfl) (by kernel_rfl) (hat.step_nil hT.step) fun aq4 hE5 => ?_)
    refine of_op (wpOp_alloc hWq hE5 (d := 7) (cs := [.int .u32 0, .slice none 0 0]) (by kernel_rfl) fun bx aq5 wq2 hbx hbx0 hFq2 hWq2 hE6 => ?_)
    refine of_op (wpOp_store hWq2 hE6 (oi := 0) (cs := [.int .u32 k, .slice xA x.length xc]) (by kernel_rfl) fun wq3 hFq3 hWq3 hE7 => wpOps_nil (then_normal ?_))
    refine go_region [0, 1, 2, 3, 4, 5] (by kernel_rfl) (go_rn [0, 1, 2, 3, 4] [5] [(2, .v (.pointer (some ⟨b29, 0, none⟩))), (3, .v (.pointer (some ⟨b37, 0, none⟩))), (40, .v (.slice A10 u5.length c11)), (41, .v (.int .i64 ((u5.length : Nat) : Int))), (42, .v (.int .i64 ((j : Nat) : Int))), (46, .v (.pointer (some ⟨b37, 2, none⟩))), (48, .v (.int .u32 k)), (50, .v (.slice xA x.length xc))] hWq3 hE7 fun aq6 hE8 => ?_)
    refine of_op (wpOp_call hE8 (f := 96) (vs := [.pointer (some ⟨b37, 2, none⟩), .int .u32 k, .slice xA x.length xc]) (d := 51) (by kernel_rfl) Try.call96 ((hT.move hWq3.step).set hp323 (by kernel_rfl) hsort hu hxo hk) ?_)
    rintro e_ wq5 ⟨rfl, hS5, r, hT5⟩
    refine ⟨_, rfl, fun aq7 hE9 => wpOps_nil (block_normal (then_normal ?_))⟩
    have hE10 := (hE9.pick (ks := [2, 3, 40, 41, 42]) (env' := [(2, .v (.pointer (some ⟨b29, 0, none⟩))), (3, .v (.pointer (some ⟨b37, 0, none⟩))), (40, .v (.slice A10 u5.length c11)), (41, .v (.int .i64 ((u5.length : Nat) : Int))), (42, .v (.int .i64 ((j : Nat) : Int)))]) (by kernel_rfl)).cutTb 0 (by kernel_rfl)
    refine go_region [0, 1] (by kernel_rfl) (go_rn [0, 1] [] [(2, .v (.pointer (some ⟨b29, 0, none⟩))), (3, .v (.pointer (some ⟨b37, 0, none⟩))), (40, .v (.slice A10 u5.length c11)), (41, .v (.int .i64 ((u5.length : Nat) : Int))), (42, .v (.int .i64 (IntKind.i64.wrap (((j : Nat) : Int) + 1))))] (WOk.start wq5 Nil) hE10 fun aq8 hE11 => wpOps_nil (then_normal ?_))
    rw [wrap_succ (by omega)] at hE11
    exact ⟨u5.length - (j + 1), by omega, j + 1, some r, rfl, by omega, hE11, hT5⟩
  · obtain rfl : j = u5.length := by have := of_decide_eq_false hc; omega
    refine wp_exit (then_exit (then_exit (block_exit ?_)))
    rw [List.take_length] at hT
    obtain ⟨hW329, hF330⟩ := hT.tab hW317 2 [⟨b21, 0, [.int .i64 n1, .slice A6 s2.length c7, .bool b3, .slice A8 l4.length c9, .slice A10 u5.length c11], true⟩, ⟨b29, 0, [.string ByteArray.empty, .slice none 0 0, .map none], true⟩, ⟨b37, 0, [.string (bs s53), .slice A311 ((lst (Tree.at_ (Tree.mk n1 s2 b3 l4 u5) 1)).length) c312, .map m_], true⟩] rfl
    have hM331 := hT.mapImm hW317 hW329 hF330 hsort (tags_range h17)
    have hE332 := (hE3.retable [⟨b21, 0, [.int .i64 n1, .slice A6 s2.length c7, .bool b3, .slice A8 l4.length c9, .slice A10 u5.length c11], true⟩, ⟨b29, 0, [.string ByteArray.empty, .slice none 0 0, .map none], true⟩, ⟨b37, 0, [.string (bs s53), .slice A311 ((lst (Tree.at_ (Tree.mk n1 s2 b3 l4 u5) 1)).length) c312, .map m_], true⟩]).recast 2 (.v (.pointer (some ⟨b29, 0, none⟩))) (.p 1 0) rfl rfl (Nat.le_of_ble_eq_true (n := 2) rfl)
    have hE333 := hE332.recast 3 (.v (.pointer (some ⟨b37, 0, none⟩))) (.p 2 0) rfl rfl (Nat.le_of_ble_eq_true (n := 3) rfl)
    have hE334 : EnvOk 54 [⟨b21, 0, [.int .i64 n1, .slice A6 s2.length c7, .bool b3, .slice A8 l4.length c9, .slice A10 u5.length c11], true⟩, ⟨b29, 0, [.string ByteArray.empty, .slice none 0 0, .map none], true⟩, ⟨b37, 0, [.string (bs s53), .slice A311 ((lst (Tree.at_ (Tree.mk n1 s2 b3 l4 u5) 1)).length) c312, .map m_], true⟩] [(2, .p 1 0), (3, .p 2 0)] _ := hE333.pk
    refine then_normal ?_
    refine go_seq_region [0, 1] (by kernel_rfl) ?_
    refine go_rn [0] [1] [(2, .p 1 0), (53, .v (.agg #[.string (bs s53), .slice A311 ((lst (Tree.at_ (Tree.mk n1 s2 b3 l4 u5) 1)).length) c312, .map m_]))] hW329 hE334 fun a335 hE336 => ?_
    clear hE334
    refine of_op (wpOp_store hW329 hE336 (oi := 1) (cs := [.string (bs s53), .slice A311 ((lst (Tree.at_ (Tree.mk n1 s2 b3 l4 u5) 1)).length) c312, .map m_]) (by kernel_rfl) fun w337 hF338 hW339 hE340 => ?_)
    clear hE336 hW329
    refine wpOps_nil ?_
    refine then_normal ?_
    refine wp_ret ?_
    refine leave hE340 hW339.cells (v := .agg #[.string (bs s53), .slice A311 ((lst (Tree.at_ (Tree.mk n1 s2 b3 l4 u5) 1)).length) c312, .map m_]) (by kernel_rfl) ?_
    refine ⟨dvP m_ u5 [dvS (bs s53), dvL A311 (lst (Tree.at_ (Tree.mk n1 s2 b3 l4 u5) 1)).length c312 f313], rfl, ?_, ?_, hW339.step⟩
    · unfold okDescribeProducersResponseTopic
      exact ⟨by show ByteArray.size (bs s53) ≤ 1000000; rw [bs_size]; have h_ := c0; rw [ht69] at h_; exact h_, ⟨((hL315.move (Fr.trans hF330 hF338).step immM (Fr.trans hF330 hF338).to').move (Step.refl _ Nil) nilM immOut).slots, c1, ((hL315.move (Fr.trans hF330 hF338).step immM (Fr.trans hF330 hF338).to').move (Step.refl _ Nil) nilM immOut).each⟩, ((hM331.move hF338.step immM hF338.to').move (Step.refl _ Nil) nilM immOut), cU.2.1, cU.2.2, trivial⟩
    · unfold relDescribeProducersResponseTopic
      exact ⟨by rw [ht69]; rfl, ⟨hn314, rfl, hL315.rel_⟩, rfl, trivial⟩

def makeDescribeProducersResponse (v : Int) (T : Tree) : Bs := tDescribeProducersResponse (IntKind.i16.wrap v) T
set_option maxHeartbeats 4000000 in
theorem mDescribeProducersResponse (v : Int) (ct : List Value) (t : Tree) (w : World) (F : Nat → Nat → Prop) (ht : TreeR w F ct t) (hc : canDescribeProducersResponse t) (hroom : (makeDescribeProducersResponse v t).length + 16 ≤ 1099511627776) :
    Calls Try.prog 40 #[.int .i64 v, .agg ct.toArray] w (FreshB w 5 (makeDescribeProducersResponse v t)) := by
  obtain ⟨n1, s2, b3, l4, u5, A6, c7, A8, c9, A10, c11, xs12, rfl, rfl, h14, h15, h16, h17⟩ := ht.open_
  have hsm19 := h14.small
  have hsm20 := h15.small
  unfold canDescribeProducersResponse at hc
  obtain ⟨c0, ⟨c1, c1e⟩, cU, _⟩ := hc
  have hsort := cU.1
  replace hsort : Sorted u5 := hsort
  have hul : u5.length ≤ 1000000 := cU.2.1
  refine enter (n := 17) Try.func40 rfl Try.ntmps40 (by kernel_rfl) fun a hE => ?_
  have hW := WOk.start w Nil
  refine go_seq_region [0, 1] (by kernel_rfl) ?_
  refine of_op (wpOp_box hW hE (d := 3) (cs := [.int .i64 n1, .slice A6 s2.length c7, .bool b3, .slice A8 l4.length c9, .slice A10 u5.length c11]) (by kernel_rfl) fun b21 a22 w23 hb24 hz25 hF26 hW27 hE28 => ?_)
  clear hE hW
  refine go_rn [1] [] [(0, .v (.int .i64 v)), (3, .p 0 0)] hW27 hE28 fun a29 hE30 => ?_
  clear hE28
  refine wpOps_nil ?_
  refine then_normal ?_
  refine go_seq_region [0, 1, 2] (by kernel_rfl) ?_
  refine go_rn [0] [1, 2] [(0, .v (.int .i64 v)), (3, .p 0 0), (6, .v (.agg #[.int .i16 0, .int .i32 0, .slice none 0 0, .map none]))] hW27 hE30 fun a31 hE32 => ?_
  clear hE30
  refine of_op (wpOp_box hW27 hE32 (d := 7) (cs := [.int .i16 0, .int .i32 0, .slice none 0 0, .map none]) (by kernel_rfl) fun b33 a34 w35 hb36 hz37 hF38 hW39 hE40 => ?_)
  clear hE32 hW27
  refine go_rn [2] [] [(0, .v (.int .i64 v)), (3, .p 0 0), (5, .p 1 0)] hW39 hE40 fun a41 hE42 => ?_
  clear hE40
  refine wpOps_nil ?_
  refine then_normal ?_
  refine go_seq_region [0, 1, 2, 3] (by kernel_rfl) ?_
  refine go_rn [0, 1, 2] [3] [(3, .p 0 0), (5, .p 1 0), (8, .p 1 0), (10, .v (.int .i16 (IntKind.i16.wrap v)))] hW39 hE42 fun a43 hE44 => ?_
  clear hE42
  refine of_op (wpOp_inline hE44 (f := 89) (vs := [.pointer (some ⟨b33, 0, none⟩), .int .i16 (IntKind.i16.wrap v)]) (d := 11) (n' := 8) (by kernel_rfl) Try.call89 Try.func89 rfl Try.ntmps89 (by kernel_rfl) fun a45 hE46 => ?_)
  have hE47 := hE46.recast 0 (.v (.pointer (some ⟨b33, 0, none⟩))) (.p 1 0) rfl rfl (Nat.le_of_ble_eq_true (n := 2) rfl)
  refine go_region [0, 1, 2, 3, 4] (by kernel_rfl) ?_
  refine go_rn [0, 1, 2, 3] [4] [(5, .v (.int .i16 (IntKind.i16.wrap v))), (7, .p 1 0)] hW39 hE47 fun a48 hE49 => ?_
  clear hE47
  refine of_op (wpOp_store hW39 hE49 (oi := 1) (cs := [.int .i16 (IntKind.i16.wrap v), .int .i32 0, .slice none 0 0, .map none]) (by kernel_rfl) fun w50 hF51 hW52 hE53 => ?_)
  clear hE49 hW39
  refine wpOps_nil ?_
  refine leave_end hE53 hW52.cells (v := .tuple #[]) (by kernel_rfl) ?_
  refine ⟨_, rfl, fun a54 hE55 => ?_⟩
  have hE56 : EnvOk 17 [⟨b21, 0, [.int .i64 n1, .slice A6 s2.length c7, .bool b3, .slice A8 l4.length c9, .slice A10 u5.length c11], true⟩, ⟨b33, 0, [.int .i16 (IntKind.i16.wrap v), .int .i32 0, .slice none 0 0, .map none], true⟩] [(11, .v (.tuple #[])), (3, .p 0 0), (5, .p 1 0), (8, .p 1 0), (10, .v (.int .i16 (IntKind.i16.wrap v)))] _ := hE55.places (⟨rfl, rfl, ⟨rfl, rfl, trivial⟩⟩)
  refine wpOps_nil ?_
  refine then_normal ?_
  refine go_seq_region [0, 1, 2] (by kernel_rfl) ?_
  refine go_rn [0, 1] [2] [(5, .p 1 0), (12, .p 1 0), (13, .v (.agg #[.int .i64 n1, .slice A6 s2.length c7, .bool b3, .slice A8 l4.length c9, .slice A10 u5.length c11]))] hW52 hE56 fun a57 hE58 => ?_
  clear hE56
  refine of_op (wpOp_inline hE58 (f := 90) (vs := [.pointer (some ⟨b33, 0, none⟩), .agg #[.int .i64 n1, .slice A6 s2.length c7, .bool b3, .slice A8 l4.length c9, .slice A10 u5.length c11]]) (d := 14) (n' := 63) (by kernel_rfl) Try.call90 Try.func90 rfl Try.ntmps90 (by kernel_rfl) fun a59 hE60 => ?_)
  have hE61 := hE60.recast 0 (.v (.pointer (some ⟨b33, 0, none⟩))) (.p 1 0) rfl rfl (Nat.le_of_ble_eq_true (n := 2) rfl)
  refine go_seq_region [0] (by kernel_rfl) ?_
  refine of_op (wpOp_box hW52 hE61 (d := 3) (cs := [.int .i64 n1, .slice A6 s2.length c7, .bool b3, .slice A8 l4.length c9, .slice A10 u5.length c11]) (by kernel_rfl) fun b62 a63 w64 hb65 hz66 hF67 hW68 hE69 => ?_)
  clear hE61 hW52
  refine wpOps_nil ?_
  refine then_normal ?_
  refine go_seq_region [0, 1, 2, 3, 4, 5, 6, 7] (by kernel_rfl) ?_
  refine go_rn [0, 1] [2, 3, 4, 5, 6, 7] [(0, .p 1 0), (3, .p 2 0), (8, .p 1 0), (9, .v (.agg #[.int .i64 n1, .slice A6 s2.length c7, .bool b3, .slice A8 l4.length c9, .slice A10 u5.length c11]))] hW68 hE69 fun a70 hE71 => ?_
  clear hE69
  refine of_op (wpOp_call hE71 (f := 95) (vs := [.agg #[.int .i64 n1, .slice A6 s2.length c7, .bool b3, .slice A8 l4.length c9, .slice A10 u5.length c11], .int .i64 0]) (d := 10) (by kernel_rfl) Try.call95 (iAt _ _ 0 _ _ (ht.move hW68.step nilM hW68.imm)) ?_)
  rintro e_ w75 ⟨cs74, rfl, hr73, hs72⟩
  have hr76 := hr73.move hs72 nilM (fun b o h_ hb_ => hW68.laid (G := F) hs72 b o (.inl h_) (Nat.lt_of_lt_of_le hb_ hs72.size))
  obtain ⟨n77, s78, b79, l80, u81, A82, c83, A84, c85, A86, c87, xs88, ht94, hcs89, h90, h91, h92, h93⟩ := hr76.open_
  rw [hcs89] at hr76
  have hsm95 := h90.small
  have hsm96 := h91.small
  rw [hcs89]
  refine ⟨_, rfl, fun a97 hE98 => ?_⟩
  have hW99 := hW68.next_nil hs72
  have hF100 := hW68.frN hs72
  clear hE71
  refine go_rn [3, 4, 5, 6] [7] [(0, .p 1 0), (3, .p 2 0), (12, .v (.int .i32 (IntKind.i32.wrap n77))), (14, .p 1 1)] hW99 hE98 fun a101 hE102 => ?_
  clear hE98
  refine of_op (wpOp_store hW99 hE102 (oi := 1) (cs := [.int .i16 (IntKind.i16.wrap v), .int .i32 (IntKind.i32.wrap n77), .slice none 0 0, .map none]) (by kernel_rfl) fun w103 hF104 hW105 hE106 => ?_)
  clear hE102 hW99
  refine wpOps_nil ?_
  refine then_normal ?_
  refine wp_seq ?_
  refine go_seq_region [0, 1, 2, 3] (by kernel_rfl) ?_
  refine go_rn [0] [1, 2, 3] [(0, .p 1 0), (3, .p 2 0), (15, .v (.agg #[.int .i64 n1, .slice A6 s2.length c7, .bool b3, .slice A8 l4.length c9, .slice A10 u5.length c11]))] hW105 hE106 fun a107 hE108 => ?_
  clear hE106
  refine of_op (wpOp_call hE108 (f := 95) (vs := [.agg #[.int .i64 n1, .slice A6 s2.length c7, .bool b3, .slice A8 l4.length c9, .slice A10 u5.length c11], .int .i64 1]) (d := 16) (by kernel_rfl) Try.call95 (iAt _ _ 1 _ _ (ht.move hW105.step nilM hW105.imm)) ?_)
  rintro e_ w112 ⟨cs111, rfl, hr110, hs109⟩
  have hr113 := hr110.move hs109 nilM (fun b o h_ hb_ => hW105.laid (G := F) hs109 b o (.inl h_) (Nat.lt_of_lt_of_le hb_ hs109.size))
  obtain ⟨n114, s115, b116, l117, u118, A119, c120, A121, c122, A123, c124, xs125, ht131, hcs126, h127, h128, h129, h130⟩ := hr113.open_
  rw [hcs126] at hr113
  have hsm132 := h127.small
  have hsm133 := h128.small
  rw [hcs126]
  refine ⟨_, rfl, fun a134 hE135 => ?_⟩
  have hW136 := hW105.next_nil hs109
  have hF137 := hW105.frN hs109
  clear hE108
  refine go_rn [2, 3] [] [(0, .p 1 0), (3, .p 2 0), (18, .v (.bool (!b116)))] hW136 hE135 fun a138 hE139 => ?_
  clear hE135
  refine wpOps_nil ?_
  refine then_normal ?_
  refine wp_join (Mid := fun a_ w_ => ∃ (A_ : Option Addr) (c_ : Nat) (f_ : Nat → DV), A_.isNone = Tree.null (Tree.at_ (Tree.mk n1 s2 b3 l4 u5) 1) ∧ LstR w_ (Imm F w w_ [⟨b21, 0, [.int .i64 n1, .slice A6 s2.length c7, .bool b3, .slice A8 l4.length c9, .slice A10 u5.length c11], true⟩, ⟨b33, 0, [.int .i16 (IntKind.i16.wrap v), .int .i32 (IntKind.i32.wrap n77), .slice A_ ((lst (Tree.at_ (Tree.mk n1 s2 b3 l4 u5) 1)).length) c_, .map none], true⟩, ⟨b62, 0, [.int .i64 n1, .slice A6 s2.length c7, .bool b3, .slice A8 l4.length c9, .slice A10 u5.length c11], true⟩] []) 3 clDescribeProducersResponseTopic okDescribeProducersResponseTopic relDescribeProducersResponseTopic A_ c_ f_ (lst (Tree.at_ (Tree.mk n1 s2 b3 l4 u5) 1)) ∧ LInv hW136 63 [⟨b21, 0, [.int .i64 n1, .slice A6 s2.length c7, .bool b3, .slice A8 l4.length c9, .slice A10 u5.length c11], true⟩, ⟨b33, 0, [.int .i16 (IntKind.i16.wrap v), .int .i32 (IntKind.i32.wrap n77), .slice A_ ((lst (Tree.at_ (Tree.mk n1 s2 b3 l4 u5) 1)).length) c_, .map none], true⟩, ⟨b62, 0, [.int .i64 n1, .slice A6 s2.length c7, .bool b3, .slice A8 l4.length c9, .slice A10 u5.length c11], true⟩] [] [(0, .p 1 0), (3, .p 2 0)] a_ w_) ?_ ?_
  ·
    refine cond_of hE139 (b := !b116) (by kernel_rfl) (fun hc140 => ?_) (fun hc140 => ?_)
    ·
      have hnull_ : Tree.null (Tree.at_ (Tree.mk n1 s2 b3 l4 u5) 1) = false := by rw [ht131]; show b116 = false; simpa using hc140
      refine go_seq_region [0, 1, 2, 3, 4, 5, 6, 7, 8] (by kernel_rfl) ?_
      refine go_rn [0, 1] [2, 3, 4, 5, 6, 7, 8] [(0, .p 1 0), (3, .p 2 0), (19, .p 1 0), (20, .v (.agg #[.int .i64 n1, .slice A6 s2.length c7, .bool b3, .slice A8 l4.length c9, .slice A10 u5.length c11]))] hW136 hE139 fun a142 hE143 => ?_
      clear hE139
      refine of_op (wpOp_call hE143 (f := 95) (vs := [.agg #[.int .i64 n1, .slice A6 s2.length c7, .bool b3, .slice A8 l4.length c9, .slice A10 u5.length c11], .int .i64 1]) (d := 21) (by kernel_rfl) Try.call95 (iAt _ _ 1 _ _ (ht.move hW136.step nilM hW136.imm)) ?_)
      rintro e_ w147 ⟨cs146, rfl, hr145, hs144⟩
      have hr148 := hr145.move hs144 nilM (fun b o h_ hb_ => hW136.laid (G := F) hs144 b o (.inl h_) (Nat.lt_of_lt_of_le hb_ hs144.size))
      obtain ⟨n149, s150, b151, l152, u153, A154, c155, A156, c157, A158, c159, xs160, ht166, hcs161, h162, h163, h164, h165⟩ := hr148.open_
      rw [hcs161] at hr148
      have hsm167 := h162.small
      have hsm168 := h163.small
      rw [hcs161]
      refine ⟨_, rfl, fun a169 hE170 => ?_⟩
      have hW171 := hW136.next_nil hs144
      have hF172 := hW136.frN hs144
      clear hE143
      have hl3_ : lst (Tree.at_ (Tree.mk n1 s2 b3 l4 u5) 1) = l152 := by rw [lst_of hnull_, ht166]; rfl
      have hb173 : l152.length ≤ 1000000 := by have h_ := c1; rw [hl3_] at h_; exact h_
      refine go_rn [3, 4] [5, 6, 7, 8] [(0, .p 1 0), (3, .p 2 0), (19, .p 1 0), (23, .v (.int .i64 ((l152.length : Nat) : Int)))] hW171 hE170 fun a174 hE175 => ?_
      clear hE170
      refine of_op (wpOp_make0 hW171 hE175 (d := 24) (j := l152.length) (t := 106) (e := 159) (size := 3) (bytes := 48) (by kernel_rfl) (by kernel_rfl) rfl (rfl) (by omega) fun b176 a177 w178 hb179 hz180 hF181 hW182 hE183 => ?_)
      clear hE175 hW171
      refine go_rn [6, 7] [8] [(0, .p 1 0), (3, .p 2 0), (24, .v (.slice (some ⟨b176, 0, none⟩) 0 l152.length)), (26, .p 1 2)] hW182 hE183 fun a184 hE185 => ?_
      clear hE183
      refine of_op (wpOp_store hW182 hE185 (oi := 1) (cs := [.int .i16 (IntKind.i16.wrap v), .int .i32 (IntKind.i32.wrap n77), .slice (some ⟨b176, 0, none⟩) 0 l152.length, .map none]) (by kernel_rfl) fun w186 hF187 hW188 hE189 => ?_)
      clear hE185 hW182
      refine wpOps_nil ?_
      refine then_normal ?_
      refine go_seq_region [0, 1, 2, 3, 4] (by kernel_rfl) ?_
      refine go_rn [0] [1, 2, 3, 4] [(0, .p 1 0), (3, .p 2 0), (27, .v (.agg #[.int .i64 n1, .slice A6 s2.length c7, .bool b3, .slice A8 l4.length c9, .slice A10 u5.length c11]))] hW188 hE189 fun a190 hE191 => ?_
      clear hE189
      refine of_op (wpOp_call hE191 (f := 95) (vs := [.agg #[.int .i64 n1, .slice A6 s2.length c7, .bool b3, .slice A8 l4.length c9, .slice A10 u5.length c11], .int .i64 1]) (d := 28) (by kernel_rfl) Try.call95 (iAt _ _ 1 _ _ (ht.move hW188.step nilM hW188.imm)) ?_)
      rintro e_ w195 ⟨cs194, rfl, hr193, hs192⟩
      have hr196 := hr193.move hs192 nilM (fun b o h_ hb_ => hW188.laid (G := F) hs192 b o (.inl h_) (Nat.lt_of_lt_of_le hb_ hs192.size))
      obtain ⟨n197, s198, b199, l200, u201, A202, c203, A204, c205, A206, c207, xs208, ht214, hcs209, h210, h211, h212, h213⟩ := hr196.open_
      rw [hcs209] at hr196
      have hsm215 := h210.small
      have hsm216 := h211.small
      rw [hcs209]
      refine ⟨_, rfl, fun a217 hE218 => ?_⟩
      have hW219 := hW188.next_nil hs192
      have hF220 := hW188.frN hs192
      clear hE191
      have hl3_ : lst (Tree.at_ (Tree.mk n1 s2 b3 l4 u5) 1) = l200 := by rw [lst_of hnull_, ht214]; rfl
      have hb221 : l200.length ≤ 1000000 := by have h_ := c1; rw [hl3_] at h_; exact h_
      refine go_rn [2, 3, 4] [] [(0, .p 1 0), (3, .p 2 0), (29, .v (.slice A204 l200.length c205)), (30, .v (.int .i64 ((l200.length : Nat) : Int))), (31, .v (.int .i64 0))] hW219 hE218 fun a222 hE223 => ?_
      clear hE218
      refine wpOps_nil ?_
      refine then_normal ?_
      refine wp_block ?_
      refine wp_loop_ghost (fun n_ a_ w_ => ∃ (k : Nat) (A_ : Option Addr) (c_ : Nat) (xs_ : List Value) (ds_ : List DV), n_ = l200.length - k ∧ k ≤ l200.length ∧ (A_.isNone = false) ∧ (RowL w_ (Imm F w w_ [⟨b21, 0, [.int .i64 n1, .slice A6 s2.length c7, .bool b3, .slice A8 l4.length c9, .slice A10 u5.length c11], true⟩, ⟨b33, 0, [.int .i16 (IntKind.i16.wrap v), .int .i32 (IntKind.i32.wrap n77), .slice A_ k c_, .map none], true⟩, ⟨b62, 0, [.int .i64 n1, .slice A6 s2.length c7, .bool b3, .slice A8 l4.length c9, .slice A10 u5.length c11], true⟩] [⟨A_, c_, 159, 3, k, xs_⟩]) 3 clDescribeProducersResponseTopic okDescribeProducersResponseTopic relDescribeProducersResponseTopic xs_ ds_ (l200.take k)) ∧ LInv hW219 63 [⟨b21, 0, [.int .i64 n1, .slice A6 s2.length c7, .bool b3, .slice A8 l4.length c9, .slice A10 u5.length c11], true⟩, ⟨b33, 0, [.int .i16 (IntKind.i16.wrap v), .int .i32 (IntKind.i32.wrap n77), .slice A_ k c_, .map none], true⟩, ⟨b62, 0, [.int .i64 n1, .slice A6 s2.length c7, .bool b3, .slice A8 l4.length c9, .slice A10 u5.length c11], true⟩] [⟨A_, c_, 159, 3, k, xs_⟩] [(0, .p 1 0), (3, .p 2 0), (29, .v (.slice A204 l200.length c205)), (30, .v (.int .i64 ((l200.length : Nat) : Int))), (31, .v (.int .i64 ((k : Nat) : Int)))] a_ w_) (l200.length) ⟨0, (some ⟨b176, 0, none⟩), l152.length, [], [], by omega, by omega, rfl, RowL.nil mvDescribeProducersResponseTopic, hE223.pk, hW219, Fr.refl _ _ _⟩ ?_
      clear hE223
      rintro n224 a225 w226 ⟨k, A_, c_, xs_, ds_, hn229, hk230, hA, hR, hE227, hW228, hF231⟩
      refine go_sp [(0, .p 1 0), (3, .p 2 0), (29, .v (.slice A204 l200.length c205)), (30, .v (.int .i64 ((l200.length : Nat) : Int))), (31, .v (.int .i64 ((k : Nat) : Int))), (32, .v (.bool (decide (((k : Nat) : Int) < ((l200.length : Nat) : Int)))))] hW228 hE227 fun a232 hE233 => ?_
      clear hE227
      refine wp_seq ?_
      refine cond_of hE233 (b := decide (((k : Nat) : Int) < ((l200.length : Nat) : Int))) (by kernel_rfl) (fun hc234 => ?_) (fun hc234 => ?_)
      ·
        have hf235 := of_decide_eq_true hc234
        refine wp_skip ?_
        refine then_normal ?_
        refine wp_seq ?_
        refine wp_block ?_
        refine go_seq_region [0, 1, 2, 3] (by kernel_rfl) ?_
        obtain ⟨b236, o237, hA238, hl239, hat240⟩ := Slots.get h211 (i := k) (by omega)
        obtain ⟨x241, he242⟩ : ∃ x, l200[k]? = some x := ⟨_, List.getElem?_eq_getElem (by omega)⟩
        have hr243 := h212 k x241 he242
        obtain ⟨n244, s245, b246, l247, u248, A249, c250, A251, c252, A253, c254, xs255, rfl, hcs256, h257, h258, h259, h260⟩ := hr243.open_
        rw [hcs256] at hr243
        have hsm262 := h257.small
        have hsm263 := h258.small
        rw [hcs256] at hat240
        refine of_op (wpOp_index hE233 (t := 36) (A := A204) (m := l200.length) (q := ((k : Nat) : Int)) (d := 33) (by kernel_rfl) (e := 39) (size := 5) (bytes := 88) (by kernel_rfl) hA238 rfl (by omega) fun a264 hE265 => ?_)
        clear hE233
        refine of_op (wpOp_load hE265 (t := 39) (b := b236) (o := o237 + k * 5) (d := 34) (by kernel_rfl) (cs := [.int .i64 n244, .slice A249 s245.length c250, .bool b246, .slice A251 l247.length c252, .slice A253 u248.length c254]) (v := .agg #[.int .i64 n244, .slice A249 s245.length c250, .bool b246, .slice A251 l247.length c252, .slice A253 u248.length c254]) (by kernel_rfl) (AtF.move hat240 hF231.step immM hF231.to').at_ fun a266 hE267 => ?_)
        clear hE265
        refine of_op (wpOp_alloc hW228 hE267 (d := 5) (cs := [.int .i64 0, .slice none 0 0, .bool false, .slice none 0 0, .slice none 0 0]) (by kernel_rfl) fun b268 a269 w270 hb271 hz272 hF273 hW274 hE275 => ?_)
        clear hE267 hW228
        refine of_op (wpOp_store hW274 hE275 (oi := 3) (cs := [.int .i64 n244, .slice A249 s245.length c250, .bool b246, .slice A251 l247.length c252, .slice A253 u248.length c254]) (by kernel_rfl) fun w276 hF277 hW278 hE279 => ?_)
        clear hE275 hW274
        refine wpOps_nil ?_
        refine then_normal ?_
        refine go_drawK 11 (by kernel_rfl) hW278 fun w280 hF281 hW282 hT283 => ?_
        clear hW278
        refine go_rnD [0, 1, 2, 3, 4, 5] [(0, .p 1 0), (3, .p 2 0), (29, .v (.slice A204 l200.length c205)), (30, .v (.int .i64 ((l200.length : Nat) : Int))), (31, .v (.int .i64 ((k : Nat) : Int))), (35, .p 1 0), (39, .v (.slice A_ k c_)), (40, .v (.agg #[.int .i64 n244, .slice A249 s245.length c250, .bool b246, .slice A251 l247.length c252, .slice A253 u248.length c254]))] 6 (panicFree_block (panicFree_then (panicFree_then (panicFree_block (panicFree_then panicFree_body))))) (fun _ h => h.cells) hT283 hE279 fun a284 hE285 => ?_
        clear hE279
        refine anyC_op (i := 6) (by kernel_rfl) (wpOp_call hE285 (f := 138) (vs := [.agg #[.int .i64 n244, .slice A249 s245.length c250, .bool b246, .slice A251 l247.length c252, .slice A253 u248.length c254]]) (d := 41) (by kernel_rfl) Try.call138 (eDescribeProducersResponseTopic _ _ _ _ (hr243.move (Fr.trans (Fr.trans (Fr.trans hF231 hF273) hF277) hF281).step immM (Fr.trans (Fr.trans (Fr.trans hF231 hF273) hF277) hF281).to') (c1e _ (by rw [hl3_]; exact List.mem_of_getElem? he242))) ?_)
        rintro e_ w291 ⟨D289, rfl, hk287, hrel288, hs286⟩
        have hk290 := mvDescribeProducersResponseTopic _ (Step.refl _ Nil) nilM (hW282.laid (G := F) hs286) hk287
        refine ⟨_, rfl, fun a292 hE293 => ?_⟩
        have hW294 := hW282.next_nil hs286
        have hF295 := hW282.frN hs286
        clear hE285
        have hT296 := TT.ofW hF295 hW294
        refine ⟨fun _ => hT296, ?_⟩
        refine anyC_op (i := 7) (by kernel_rfl) (wpOp_lit hW294 hE293 (e := 159) (size := 3) (len := 1) (cs := [.string ((D289.f 0).s), .slice ((D289.f 1).A) ((D289.f 1).l) ((D289.f 1).c), .map D289.m]) (d := 42) (by kernel_rfl) (by kernel_rfl) fun b297 a298 w299 hb300 hz301 hF302 hW303 hE304 => ?_)
        clear hE293 hW294
        have hT305 := TT.ofW (Fr.trans hF295 hF302) hW303
        refine ⟨fun _ => hT305, ?_⟩
        refine anyC_op (i := 8) (by kernel_rfl) (wpOp_append hW303 hE304 (k := 0) (d := 43) (t := 106) (e := 159) (size := 3) (bytes := 48) (A := A_) (As := (some ⟨b297, 0, none⟩)) (m0 := k) (c := c_) (m := 1) (cs := 1) (xs := xs_) (news := [.string ((D289.f 0).s), .slice ((D289.f 1).A) ((D289.f 1).l) ((D289.f 1).c), .map D289.m]) (by kernel_rfl) (by kernel_rfl) rfl (own_src (hW303.own 1 _ rfl) (allOne_ok (by kernel_rfl))) (own_cap (hW303.own 1 _ rfl)) (by omega) fun A306 c307 a308 w309 hF310 hW311 hE312 => ?_)
        clear hE304 hW303
        have hT313 := TT.ofW (Fr.trans (Fr.trans hF295 hF302) hF310) hW311
        refine ⟨fun _ => hT313, ?_⟩
        refine anyC_op (i := 9) (by kernel_rfl) (wpOp_pure [0, 3, 29, 30, 31, 43, 44] hW311.cells hE312 (env' := [(0, .p 1 0), (3, .p 2 0), (29, .v (.slice A204 l200.length c205)), (30, .v (.int .i64 ((l200.length : Nat) : Int))), (31, .v (.int .i64 ((k : Nat) : Int))), (43, .v (.slice A306 (k + 1) c307)), (44, .p 1 0)]) (by kernel_rfl) fun a314 hE315 => ?_)
        clear hE312
        have hT316 := TT.ofW (Fr.trans (Fr.trans hF295 hF302) hF310) hW311
        refine ⟨fun _ => hT316, ?_⟩
        refine go_rnD [10] [(0, .p 1 0), (3, .p 2 0), (29, .v (.slice A204 l200.length c205)), (30, .v (.int .i64 ((l200.length : Nat) : Int))), (31, .v (.int .i64 ((k : Nat) : Int))), (43, .v (.slice A306 (k + 1) c307)), (45, .p 1 2)] 1 (panicFree_block (panicFree_then (panicFree_then (panicFree_block (panicFree_then panicFree_body))))) (fun _ h => h.cells) hT316 hE315 fun a317 hE318 => ?_
        clear hE315
        refine anyC_op (i := 11) (by kernel_rfl) (wpOp_store hW311 hE318 (oi := 1) (cs := [.int .i16 (IntKind.i16.wrap v), .int .i32 (IntKind.i32.wrap n77), .slice A306 (k + 1) c307, .map none]) (by kernel_rfl) fun w319 hF320 hW321 hE322 => ?_)
        clear hE318 hW311
        refine ⟨fun h => absurd rfl h, ?_⟩
        refine anyC_done (by kernel_rfl) ?_ _
        refine block_normal ?_
        refine then_normal ?_
        refine go_region [0, 1] (by kernel_rfl) ?_
        refine go_rn [0, 1] [] [(0, .p 1 0), (3, .p 2 0), (29, .v (.slice A204 l200.length c205)), (30, .v (.int .i64 ((l200.length : Nat) : Int))), (31, .v (.int .i64 (IntKind.i64.wrap (((k : Nat) : Int) + 1))))] hW321 hE322 fun a323 hE324 => ?_
        clear hE322
        refine wpOps_nil ?_
        refine then_normal ?_
        obtain ⟨hE325, hW326, hF327⟩ := hW321.cutB hE324 3 [⟨b21, 0, [.int .i64 n1, .slice A6 s2.length c7, .bool b3, .slice A8 l4.length c9, .slice A10 u5.length c11], true⟩, ⟨b33, 0, [.int .i16 (IntKind.i16.wrap v), .int .i32 (IntKind.i32.wrap n77), .slice A306 (k + 1) c307, .map none], true⟩, ⟨b62, 0, [.int .i64 n1, .slice A6 s2.length c7, .bool b3, .slice A8 l4.length c9, .slice A10 u5.length c11], true⟩] [(0, .p 1 0), (3, .p 2 0), (29, .v (.slice A204 l200.length c205)), (30, .v (.int .i64 ((l200.length : Nat) : Int))), (31, .v (.int .i64 (IntKind.i64.wrap (((k : Nat) : Int) + 1))))]
        obtain ⟨hW328, hF329⟩ := hW326.cutR 1 [⟨A306, c307, 159, 3, k + 1, xs_ ++ [.string ((D289.f 0).s), .slice ((D289.f 1).A) ((D289.f 1).l) ((D289.f 1).c), .map D289.m]⟩]
        have he330 : IntKind.i64.wrap (((k : Nat) : Int) + 1) = ((k + 1 : Nat) : Int) := wrap_succ (by omega)
        rw [he330] at hE325
        exact ⟨l200.length - (k + 1), by omega, k + 1, A306, c307, xs_ ++ [Value.string ((D289.f 0).s), .slice ((D289.f 1).A) ((D289.f 1).l) ((D289.f 1).c), .map D289.m], (ds_ ++ [D289]), rfl, by omega, own_some hW328 (k := 0) rfl (by omega), RowL.snoc (d := D289) (hR.move (Fr.trans (Fr.trans (Fr.trans (Fr.trans (Fr.trans (Fr.trans (Fr.trans (Fr.trans hF273 hF277) hF281) hF295) hF302) hF310) hF320) hF327) hF329).step immM (Fr.trans (Fr.trans (Fr.trans (Fr.trans (Fr.trans (Fr.trans (Fr.trans (Fr.trans hF273 hF277) hF281) hF295) hF302) hF310) hF320) hF327) hF329).to') he242 rfl (mvDescribeProducersResponseTopic _ (Fr.trans (Fr.trans (Fr.trans (Fr.trans hF302 hF310) hF320) hF327) hF329).step immM (Fr.trans (Fr.trans (Fr.trans (Fr.trans hF302 hF310) hF320) hF327) hF329).to' hk290) hrel288, hE325.pk, hW328, (Fr.trans (Fr.trans (Fr.trans (Fr.trans (Fr.trans (Fr.trans (Fr.trans (Fr.trans (Fr.trans hF231 hF273) hF277) hF281) hF295) hF302) hF310) hF320) hF327) hF329)⟩
      ·
        have hf331 := of_decide_eq_false hc234
        refine wp_exit ?_
        refine then_exit ?_
        refine then_exit ?_
        refine block_exit ?_
        refine then_normal ?_
        have hk_ : k = (lst (Tree.at_ (Tree.mk n1 s2 b3 l4 u5) 1)).length := by rw [hl3_]; omega
        subst k
        have hL_ := LstR.of hW228 (k := 0) (rs' := []) rfl hR (by rw [hl3_]) oneDescribeProducersResponseTopic (by omega)
        rw [← hl3_] at hL_
        obtain ⟨hW332, hF333⟩ := hW228.cutR 0 []
        exact ⟨_, _, _, by rw [hnull_]; exact hA, hL_, hE233.pk, hW332, (Fr.trans (Fr.trans (Fr.trans (Fr.trans (Fr.trans hF172 hF181) hF187) hF220) hF231) hF333)⟩
    ·
      refine wp_skip ?_
      refine then_normal ?_
      have hn_ : Tree.null (Tree.at_ (Tree.mk n1 s2 b3 l4 u5) 1) = true := by rw [ht131]; show b116 = true; simpa using hc140
      have hl_ := lst_no hn_
      exact ⟨none, 0, fun _ => dv0, by rw [hn_]; rfl, by rw [hl_]; exact LstR.nil mvDescribeProducersResponseTopic, by rw [hl_]; exact ⟨hE139.pk, hW136, Fr.refl _ _ _⟩⟩
  rintro a343 w344 ⟨A335, c336, f337, hn338, hL339, hE340, hW341, hF342⟩
  refine go_sp [(0, .p 1 0), (48, .v (.slice A10 u5.length c11)), (49, .v (.int .i64 ((u5.length : Nat) : Int))), (50, .v (.int .i64 0))] hW341 hE340 fun a345 hE346 => ?_
  clear hE340
  refine wp_block ?_
  have hp347 := new_of hW341 1 rfl (by kernel_rfl)
  have hE351 := hE346.recast 0 (.p 1 0) (.v (.pointer (some ⟨b33, 0, none⟩))) rfl rfl trivial
  have hE349 := (hE351.pick (ks := [0, 48, 49, 50]) (env' := [(0, .v (.pointer (some ⟨b33, 0, none⟩))), (48, .v (.slice A10 u5.length c11)), (49, .v (.int .i64 ((u5.length : Nat) : Int))), (50, .v (.int .i64 0))]) (by kernel_rfl)).cutTb 0 (by kernel_rfl)
  refine wp_loop_ghost (fun q a_ w_ => ∃ (j : Nat) (m_ : Option Nat), q = u5.length - j ∧ j ≤ u5.length ∧ EnvOk 63 [] [(0, .v (.pointer (some ⟨b33, 0, none⟩))), (48, .v (.slice A10 u5.length c11)), (49, .v (.int .i64 ((u5.length : Nat) : Int))), (50, .v (.int .i64 ((j : Nat) : Int)))] a_ ∧ TL w w344 w_ F b33 3 [.int .i16 (IntKind.i16.wrap v), .int .i32 (IntKind.i32.wrap n77), .slice A335 ((lst (Tree.at_ (Tree.mk n1 s2 b3 l4 u5) 1)).length) c336, .map none] m_ (u5.take j)) u5.length
    ⟨0, none, by omega, by omega, hE349, TL.start hW341 1 rfl rfl⟩ ?_
  rintro q aq wq ⟨j, m_, rfl, hj, hE2, hT⟩
  have hWq := WOk.start wq Nil
  refine go_sp [(0, .v (.pointer (some ⟨b33, 0, none⟩))), (48, .v (.slice A10 u5.length c11)), (49, .v (.int .i64 ((u5.length : Nat) : Int))), (50, .v (.int .i64 ((j : Nat) : Int))), (51, .v (.bool (decide (((j : Nat) : Int) < ((u5.length : Nat) : Int)))))] hWq hE2 fun aq2 hE3 => wp_seq ?_
  refine cond_of hE3 (b := decide (((j : Nat) : Int) < ((u5.length : Nat) : Int))) (by kernel_rfl) (fun hc => ?_) (fun hc => ?_)
  · have hlt : j < u5.length := by have := of_decide_eq_true hc; omega
    refine wp_skip (then_normal (wp_seq (wp_block ?_)))
    obtain ⟨⟨k, x⟩, hu⟩ : ∃ y, u5[j]? = some y := ⟨_, List.getElem?_eq_getElem hlt⟩
    obtain ⟨bb, bo, xA, xc, hA, hat, hxo, hk⟩ := tag_at h17 hu
    refine go_seq_region [0, 1, 2, 3] (by kernel_rfl) ?_
    refine of_op (wpOp_index hE3 (t := 37) (e := 62) (size := 2) (bytes := 32) (d := 52) (b := bb) (o := bo) (m := u5.length) (j := j) (by kernel_rfl) (by kernel_rfl) hA rfl hlt fun aq3 hE4 => ?_)
    refine of_op (wpOp_load hE4 (t := 62) (d := 53) (cs := [.int .u32 k, .slice xA x.length xc]) (v := .agg #[.int .u32 k, .slice xA x.length xc]) (by kernel_rfl) (by kernel_rfl) (hat.step_nil hT.step) fun aq4 hE5 => ?_)
    refine of_op (wpOp_alloc hWq hE5 (d := 7) (cs := [.int .u32 0, .slice none 0 0]) (by kernel_rfl) fun bx aq5 wq2 hbx hbx0 hFq2 hWq2 hE6 => ?_)
    refine of_op (wpOp_store hWq2 hE6 (oi := 0) (cs := [.int .u32 k, .slice xA x.length xc]) (by kernel_rfl) fun wq3 hFq3 hWq3 hE7 => wpOps_nil (then_normal ?_))
    have hWq4 := hWq3.drew
    refine region_draw (fun wz => CellsOk wz [⟨bx, 0, [.int .u32 k, .slice xA x.length xc], true⟩]) 8 (by kernel_rfl) ?_
    refine go_rnD [0, 1, 2, 3, 4, 5, 6] [(0, .v (.pointer (some ⟨b33, 0, none⟩))), (48, .v (.slice A10 u5.length c11)), (49, .v (.int .i64 ((u5.length : Nat) : Int))), (50, .v (.int .i64 ((j : Nat) : Int))), (56, .v (.pointer (some ⟨b33, 3, none⟩))), (58, .v (.int .u32 k)), (60, .v (.slice xA x.length xc))] 1 (panicFree_block (panicFree_then (panicFree_then (panicFree_block panicFree_body)))) (fun _ h => h) hWq4.cells hE7 fun aq6 hE8 => ?_
    refine anyC_op (i := 7) (by kernel_rfl) (wpOp_call hE8 (f := 96) (vs := [.pointer (some ⟨b33, 3, none⟩), .int .u32 k, .slice xA x.length xc]) (d := 61) (by kernel_rfl) Try.call96 ((hT.move hWq4.step).set hp347 (by kernel_rfl) hsort hu hxo hk) ?_)
    rintro e_ wq5 ⟨rfl, hS5, r, hT5⟩
    refine ⟨_, rfl, fun aq7 hE9 => ⟨fun _ => hT.keeps (off := 3) (by kernel_rfl) hS5 hWq4.cells (fun ob hm => by rw [List.mem_singleton.1 hm]; exact Nat.le_of_eq hbx.symm), anyC_done (by kernel_rfl) (block_normal (then_normal ?_)) _⟩⟩
    have hE10 := (hE9.pick (ks := [0, 48, 49, 50]) (env' := [(0, .v (.pointer (some ⟨b33, 0, none⟩))), (48, .v (.slice A10 u5.length c11)), (49, .v (.int .i64 ((u5.length : Nat) : Int))), (50, .v (.int .i64 ((j : Nat) : Int)))]) (by kernel_rfl)).cutTb 0 (by kernel_rfl)
    refine go_region [0, 1] (by kernel_rfl) (go_rn [0, 1] [] [(0, .v (.pointer (some ⟨b33, 0, none⟩))), (48, .v (.slice A10 u5.length c11)), (49, .v (.int .i64 ((u5.length : Nat) : Int))), (50, .v (.int .i64 (IntKind.i64.wrap (((j : Nat) : Int) + 1))))] (WOk.start wq5 Nil) hE10 fun aq8 hE11 => wpOps_nil (then_normal ?_))
    rw [wrap_succ (by omega)] at hE11
    exact ⟨u5.length - (j + 1), by omega, j + 1, some r, rfl, by omega, hE11, hT5⟩
  · obtain rfl : j = u5.length := by have := of_decide_eq_false hc; omega
    refine wp_exit (then_exit (then_exit (block_exit ?_)))
    rw [List.take_length] at hT
    obtain ⟨hW352, hF353⟩ := hT.tab hW341 1 [⟨b21, 0, [.int .i64 n1, .slice A6 s2.length c7, .bool b3, .slice A8 l4.length c9, .slice A10 u5.length c11], true⟩, ⟨b33, 0, [.int .i16 (IntKind.i16.wrap v), .int .i32 (IntKind.i32.wrap n77), .slice A335 ((lst (Tree.at_ (Tree.mk n1 s2 b3 l4 u5) 1)).length) c336, .map m_], true⟩, ⟨b62, 0, [.int .i64 n1, .slice A6 s2.length c7, .bool b3, .slice A8 l4.length c9, .slice A10 u5.length c11], true⟩] rfl
    have hM354 := hT.mapImm hW341 hW352 hF353 hsort (tags_range h17)
    have hE355 : EnvOk 63 [⟨b21, 0, [.int .i64 n1, .slice A6 s2.length c7, .bool b3, .slice A8 l4.length c9, .slice A10 u5.length c11], true⟩, ⟨b33, 0, [.int .i16 (IntKind.i16.wrap v), .int .i32 (IntKind.i32.wrap n77), .slice A335 ((lst (Tree.at_ (Tree.mk n1 s2 b3 l4 u5) 1)).length) c336, .map m_], true⟩, ⟨b62, 0, [.int .i64 n1, .slice A6 s2.length c7, .bool b3, .slice A8 l4.length c9, .slice A10 u5.length c11], true⟩] [] _ := (hE3.retable [⟨b21, 0, [.int .i64 n1, .slice A6 s2.length c7, .bool b3, .slice A8 l4.length c9, .slice A10 u5.length c11], true⟩, ⟨b33, 0, [.int .i16 (IntKind.i16.wrap v), .int .i32 (IntKind.i32.wrap n77), .slice A335 ((lst (Tree.at_ (Tree.mk n1 s2 b3 l4 u5) 1)).length) c336, .map m_], true⟩, ⟨b62, 0, [.int .i64 n1, .slice A6 s2.length c7, .bool b3, .slice A8 l4.length c9, .slice A10 u5.length c11], true⟩]).pk
    refine leave_end hE355 hW352.cells (v := .tuple #[]) (by kernel_rfl) ?_
    refine ⟨_, rfl, fun a356 hE357 => ?_⟩
    have hE358 : EnvOk 17 [⟨b21, 0, [.int .i64 n1, .slice A6 s2.length c7, .bool b3, .slice A8 l4.length c9, .slice A10 u5.length c11], true⟩, ⟨b33, 0, [.int .i16 (IntKind.i16.wrap v), .int .i32 (IntKind.i32.wrap n77), .slice A335 ((lst (Tree.at_ (Tree.mk n1 s2 b3 l4 u5) 1)).length) c336, .map m_], true⟩, ⟨b62, 0, [.int .i64 n1, .slice A6 s2.length c7, .bool b3, .slice A8 l4.length c9, .slice A10 u5.length c11], true⟩] [(14, .v (.tuple #[])), (5, .p 1 0), (12, .p 1 0), (13, .v (.agg #[.int .i64 n1, .slice A6 s2.length c7, .bool b3, .slice A8 l4.length c9, .slice A10 u5.length c11]))] _ := hE357.places (⟨rfl, rfl, ⟨rfl, rfl, trivial⟩⟩)
    refine wpOps_nil ?_
    refine then_normal ?_
    refine go_seq_region [0, 1, 2] (by kernel_rfl) ?_
    refine go_rn [0] [1, 2] [(15, .p 1 0)] hW352 hE358 fun a359 hE360 => ?_
    clear hE358
    have hrel_ : relDescribeProducersResponse (dvP m_ u5 [dvN (IntKind.i32.wrap n77), dvL A335 (lst (Tree.at_ (Tree.mk n1 s2 b3 l4 u5) 1)).length c336 f337]) (Tree.mk n1 s2 b3 l4 u5) := by
      unfold relDescribeProducersResponse
      exact ⟨by rw [ht94]; rfl, ⟨hn338, rfl, hL339.rel_⟩, rfl, trivial⟩
    have he_ : aDescribeProducersResponse (IntKind.i16.wrap v) (dvP m_ u5 [dvN (IntKind.i32.wrap n77), dvL A335 (lst (Tree.at_ (Tree.mk n1 s2 b3 l4 u5) 1)).length c336 f337]) = makeDescribeProducersResponse v (Tree.mk n1 s2 b3 l4 u5) := atDescribeProducersResponse _ _ _ hrel_
    rw [← he_] at hroom ⊢
    have hok_ : okDescribeProducersResponse wq (fun _ _ => True) (dvP m_ u5 [dvN (IntKind.i32.wrap n77), dvL A335 (lst (Tree.at_ (Tree.mk n1 s2 b3 l4 u5) 1)).length c336 f337]) := by
      unfold okDescribeProducersResponse
      exact ⟨trivial, ⟨((hL339.move hF353.step immM hF353.to').move (Step.refl _ Nil) nilM (fun _ _ _ _ => trivial)).slots, c1, ((hL339.move hF353.step immM hF353.to').move (Step.refl _ Nil) nilM (fun _ _ _ _ => trivial)).each⟩, (hM354.move (Step.refl _ Nil) nilM (fun _ _ _ _ => trivial)), cU.2.1, cU.2.2, trivial⟩
    refine of_op (wpOp_call hE360 (f := 91) (vs := [.pointer (some ⟨b33, 0, none⟩), .slice none 0 0]) (d := 16) (by kernel_rfl) Try.call91 (kDescribeProducersResponse (IntKind.i16.wrap v) (dvP m_ u5 [dvN (IntKind.i32.wrap n77), dvL A335 (lst (Tree.at_ (Tree.mk n1 s2 b3 l4 u5) 1)).length c336 f337]) b33 0 none 0 [] _ _ (fun j v hj => ⟨trivial, hW352.cells 1 _ rfl j v hj⟩) hok_ none_blk (World.ownsRow_nil _ 0 _ _) (by simpa using hroom)) ?_)
    rintro e_ wz ⟨A', c', rfl, ho, hs, hn⟩
    refine ⟨_, rfl, fun az hEz => ?_⟩
    have hEy := (hEz.pick (ks := [16]) (env' := [(16, .v (.slice A' (([] ++ aDescribeProducersResponse (IntKind.i16.wrap v) (dvP m_ u5 [dvN (IntKind.i32.wrap n77), dvL A335 (lst (Tree.at_ (Tree.mk n1 s2 b3 l4 u5) 1)).length c336 f337])).length) c'))]) (by kernel_rfl)).cutTb 0 (by kernel_rfl)
    have hWz := WOk.start wz Nil
    refine go_rn [2] [] [(4, .v (.slice A' (([] ++ aDescribeProducersResponse (IntKind.i16.wrap v) (dvP m_ u5 [dvN (IntKind.i32.wrap n77), dvL A335 (lst (Tree.at_ (Tree.mk n1 s2 b3 l4 u5) 1)).length c336 f337])).length) c'))] hWz hEy fun a361 hE362 => ?_
    clear hEy
    refine wpOps_nil ?_
    refine then_normal ?_
    refine wp_ret ?_
    refine leave hE362 hWz.cells (v := .slice A' (([] ++ aDescribeProducersResponse (IntKind.i16.wrap v) (dvP m_ u5 [dvN (IntKind.i32.wrap n77), dvL A335 (lst (Tree.at_ (Tree.mk n1 s2 b3 l4 u5) 1)).length c336 f337])).length) c') (by kernel_rfl) ?_
    exact fresh_of_app hW352.step ⟨A', c', rfl, ho, hs, hn⟩

theorem xDescribeProducersResponse (w : World) : Calls Try.prog 38 #[] w (Gives w (.int .i64 0)) := by
  refine enter (n := 4) Try.func38 rfl Try.ntmps38 (by kernel_rfl) fun a hE => ?_
  have hW := WOk.start w Nil
  refine go_sp [] hW hE fun a1 hE2 => ?_
  clear hE
  refine go_seq_region [0, 1, 2, 3] (by kernel_rfl) ?_
  refine of_op (wpOp_inline hE2 (f := 86) (vs := []) (d := 1) (n' := 3) (by kernel_rfl) Try.call86 Try.func86 rfl Try.ntmps86 (by kernel_rfl) fun a3 hE4 => ?_)
  refine go_sp [] hW hE4 fun a5 hE6 => ?_
  clear hE4
  refine go_seq_region [0] (by kernel_rfl) ?_
  refine of_op (wpOp_alloc hW hE6 (d := 1) (cs := [.int .i16 0, .int .i32 0, .slice none 0 0, .map none]) (by kernel_rfl) fun b7 a8 w9 hb10 hz11 hF12 hW13 hE14 => ?_)
  clear hE6 hW
  refine wpOps_nil ?_
  refine then_normal ?_
  refine go_seq_region [0] (by kernel_rfl) ?_
  refine of_op (wpOp_inline hE14 (f := 136) (vs := [.pointer (some ⟨b7, 0, none⟩)]) (d := 2) (n' := 2) (by kernel_rfl) Try.call136 Try.func136 rfl Try.ntmps136 (by kernel_rfl) fun a15 hE16 => ?_)
  have hE17 := hE16.recast 0 (.v (.pointer (some ⟨b7, 0, none⟩))) (.p 0 0) rfl rfl (Nat.le_of_ble_eq_true (n := 1) rfl)
  refine wp_skip ?_
  refine leave_end hE17 hW13.cells (v := .tuple #[]) (by kernel_rfl) ?_
  refine ⟨_, rfl, fun a18 hE19 => ?_⟩
  have hE20 : EnvOk 3 [⟨b7, 0, [.int .i16 0, .int .i32 0, .slice none 0 0, .map none], true⟩] [(2, .v (.tuple #[])), (1, .p 0 0)] _ := hE19.places (⟨rfl, rfl, trivial⟩)
  refine wpOps_nil ?_
  refine then_normal ?_
  refine go_sp [(0, .p 0 0)] hW13 hE20 fun a21 hE22 => ?_
  clear hE20
  refine wp_ret ?_
  refine leave hE22 hW13.cells (v := .pointer (some ⟨b7, 0, none⟩)) (by kernel_rfl) ?_
  refine ⟨_, rfl, fun a23 hE24 => ?_⟩
  have hE25 : EnvOk 4 [⟨b7, 0, [.int .i16 0, .int .i32 0, .slice none 0 0, .map none], true⟩] [(1, .v (.pointer (some ⟨b7, 0, none⟩)))] _ := hE24.places (trivial)
  refine of_op (wpOp_inline hE25 (f := 87) (vs := [.pointer (some ⟨b7, 0, none⟩)]) (d := 2) (n' := 3) (by kernel_rfl) Try.call87 Try.func87 rfl Try.ntmps87 (by kernel_rfl) fun a26 hE27 => ?_)
  refine go_sp [] hW13 hE27 fun a28 hE29 => ?_
  clear hE27
  refine go_sp [(2, .v (.int .i16 0))] hW13 hE29 fun a30 hE31 => ?_
  clear hE29
  refine wp_ret ?_
  refine leave hE31 hW13.cells (v := .int .i16 0) (by kernel_rfl) ?_
  refine ⟨_, rfl, fun a32 hE33 => ?_⟩
  have hE34 : EnvOk 4 [⟨b7, 0, [.int .i16 0, .int .i32 0, .slice none 0 0, .map none], true⟩] [(2, .v (.int .i16 0)), (1, .v (.pointer (some ⟨b7, 0, none⟩)))] _ := hE33.places (⟨rfl, rfl, trivial⟩)
  refine go_rn [2, 3] [] [(0, .v (.int .i64 0))] hW13 hE34 fun a35 hE36 => ?_
  clear hE34
  refine wpOps_nil ?_
  refine then_normal ?_
  refine wp_ret ?_
  refine leave hE36 hW13.cells (v := .int .i64 0) (by kernel_rfl) ?_
  exact ⟨rfl, hW13.step⟩

theorem sDescribeProducersResponse_depth : depths sDescribeProducersResponseF ≤ 8 := by simp [sDescribeProducersResponseF, Fld.depth.depths, Fld.depth]
theorem sDescribeProducersResponse_plain : plains sDescribeProducersResponseF := by simp [sDescribeProducersResponseF, Fld.plain.plains, Fld.plain]

theorem lawDescribeProducersResponse (x : Int) (hx : 0 ≤ x) (hx' : x < 256) (ct : List Value) (t : Tree) (w : World) (F : Nat → Nat → Prop) (ht : TreeR w F ct t) (hroom : (writeB 8 sDescribeProducersResponseF sDescribeProducersResponseX (Int.tmod x (0 + 1)) t).length ≤ 1099511627776) (hcan : canDescribeProducersResponse (fitT (Int.tmod x (0 + 1)) 8 sDescribeProducersResponseF t)) (hmade : (makeDescribeProducersResponse (Int.tmod x (0 + 1)) (fitT (Int.tmod x (0 + 1)) 8 sDescribeProducersResponseF t)).length + 16 ≤ 1099511627776) (hpure : makeDescribeProducersResponse (Int.tmod x (0 + 1)) (fitT (Int.tmod x (0 + 1)) 8 sDescribeProducersResponseF t) = writeB 8 sDescribeProducersResponseF sDescribeProducersResponseX (Int.tmod x (0 + 1)) t) :
    Calls Try.prog 10 #[.int .u8 x, .agg ct.toArray] w (Gives w (.bool true)) := by
  obtain ⟨n1, s2, b3, l4, u5, A6, c7, A8, c9, A10, c11, xs12, rfl, rfl, h14, h15, h16, h17⟩ := ht.open_
  have hsm19 := h14.small
  have hsm20 := h15.small
  refine enter (n := 31) Try.func10 rfl Try.ntmps10 (by kernel_rfl) fun a hE => ?_
  have hW := WOk.start w Nil
  refine go_seq_region [0, 1] (by kernel_rfl) ?_
  refine of_op (wpOp_box hW hE (d := 3) (cs := [.int .i64 n1, .slice A6 s2.length c7, .bool b3, .slice A8 l4.length c9, .slice A10 u5.length c11]) (by kernel_rfl) fun b21 a22 w23 hb24 hz25 hF26 hW27 hE28 => ?_)
  clear hE hW
  refine go_rn [1] [] [(0, .v (.int .u8 x)), (3, .p 0 0)] hW27 hE28 fun a29 hE30 => ?_
  clear hE28
  refine wpOps_nil ?_
  refine then_normal ?_
  refine wp_seq ?_
  refine go_seq_region [0, 1, 2] (by kernel_rfl) ?_
  refine go_rn [0] [1, 2] [(0, .v (.int .u8 x)), (3, .p 0 0), (8, .v (.agg #[.int .i64 n1, .slice A6 s2.length c7, .bool b3, .slice A8 l4.length c9, .slice A10 u5.length c11]))] hW27 hE30 fun a31 hE32 => ?_
  clear hE30
  refine of_op (wpOp_call hE32 (f := 11) (vs := [.agg #[.int .i64 n1, .slice A6 s2.length c7, .bool b3, .slice A8 l4.length c9, .slice A10 u5.length c11]]) (d := 9) (by kernel_rfl) Try.call11 (lFits1 _ _ _ _ (ht.move hW27.step nilM hW27.imm)) ?_)
  rintro e_ w35 ⟨b34, rfl, hs33⟩
  refine ⟨_, rfl, fun a36 hE37 => ?_⟩
  have hW38 := hW27.next_nil hs33
  have hF39 := hW27.frN hs33
  clear hE32 hW27
  refine go_rn [2] [] [(0, .v (.int .u8 x)), (3, .p 0 0), (10, .v (.bool (!b34)))] hW38 hE37 fun a40 hE41 => ?_
  clear hE37
  refine wpOps_nil ?_
  refine then_normal ?_
  refine cond_of hE41 (b := !b34) (by kernel_rfl) (fun hc42 => ?_) (fun hc42 => ?_)
  ·
    refine go_sp [(4, .v (.bool true))] hW38 hE41 fun a44 hE45 => ?_
    clear hE41
    refine wp_ret ?_
    refine then_ret ?_
    refine leave hE45 hW38.cells (v := .bool true) (by kernel_rfl) ?_
    exact ⟨rfl, hW38.step⟩
  ·
    refine wp_skip ?_
    refine then_normal ?_
    refine go_seq_region [0, 1] (by kernel_rfl) ?_
    refine of_op (wpOp_call hE41 (f := 38) (vs := []) (d := 11) (by kernel_rfl) Try.call38 (xDescribeProducersResponse _) ?_)
    rintro e_ w48 ⟨rfl, hs47⟩
    refine ⟨_, rfl, fun a49 hE50 => ?_⟩
    have hW51 := hW38.next_nil hs47
    have hF52 := hW38.frN hs47
    clear hE41 hW38
    refine go_rn [1] [] [(0, .v (.int .u8 x)), (3, .p 0 0), (5, .v (.int .i64 0))] hW51 hE50 fun a53 hE54 => ?_
    clear hE50
    refine wpOps_nil ?_
    refine then_normal ?_
    refine wp_seq ?_
    refine go_sp [(0, .v (.int .u8 x)), (3, .p 0 0), (5, .v (.int .i64 0)), (13, .v (.bool false))] hW51 hE54 fun a55 hE56 => ?_
    clear hE54
    refine cond_false hE56 (b := false) (by kernel_rfl) rfl ?_
    refine wp_skip ?_
    refine then_normal ?_
    refine go_seq_region [0, 1, 2, 3, 4, 5, 6] (by kernel_rfl) ?_
    refine of_op (wpOp_call hE56 (f := 39) (vs := []) (d := 14) (by kernel_rfl) Try.call39 (sDescribeProducersResponse _ (Imm F w w48 [⟨b21, 0, [.int .i64 n1, .slice A6 s2.length c7, .bool b3, .slice A8 l4.length c9, .slice A10 u5.length c11], true⟩] [])) ?_)
    rintro e_ w61 ⟨A59, c60, rfl, hr58, hs57⟩
    obtain ⟨xs62, h63, h64⟩ := hr58.move (Step.refl _ Nil) nilM (hW51.laid (G := F) hs57)
    refine ⟨_, rfl, fun a65 hE66 => ?_⟩
    have hW67 := hW51.next_nil hs57
    have hF68 := hW51.frN hs57
    clear hE56
    refine go_rn [1, 2] [3, 4, 5, 6] [(3, .p 0 0), (14, .v (.agg #[.slice A59 sDescribeProducersResponseF.length c60, .int .i64 sDescribeProducersResponseX])), (15, .v (.int .u8 x)), (16, .v (.int .i64 0))] hW67 hE66 fun a69 hE70 => ?_
    clear hE66
    refine of_op (wpOp_call hE70 (f := 14) (vs := [.int .u8 x, .int .i64 0]) (d := 17) (by kernel_rfl) Try.call14 (lVersion x 0 hx hx' (by decide) (by decide) _) ?_)
    rintro e_ w72 ⟨rfl, hs71⟩
    refine ⟨_, rfl, fun a73 hE74 => ?_⟩
    have hW75 := hW67.next_nil hs71
    have hF76 := hW67.frN hs71
    clear hE70 hW67
    refine of_op (wpOp_alloc hW75 hE74 (d := 6) (cs := [.slice none 0 0, .int .i64 0]) (by kernel_rfl) fun b77 a78 w79 hb80 hz81 hF82 hW83 hE84 => ?_)
    clear hE74 hW75
    refine of_op (wpOp_store hW83 hE84 (oi := 1) (cs := [.slice A59 sDescribeProducersResponseF.length c60, .int .i64 sDescribeProducersResponseX]) (by kernel_rfl) fun w85 hF86 hW87 hE88 => ?_)
    clear hE84 hW83
    refine go_rn [6] [] [(3, .p 0 0), (6, .p 1 0), (7, .v (.int .i64 (Int.tmod x (0 + 1))))] hW87 hE88 fun a89 hE90 => ?_
    clear hE88
    refine wpOps_nil ?_
    refine then_normal ?_
    refine go_seq_drawK 13 (by kernel_rfl) hW87 fun w91 hF92 hW93 hT94 => ?_
    clear hW87
    refine go_rnD [0, 1, 2, 3, 4, 8, 9, 10] [(18, .v (.int .i64 (Int.tmod x (0 + 1)))), (20, .v (.slice A59 sDescribeProducersResponseF.length c60)), (21, .v (.int .i64 (Int.tmod x (0 + 1)))), (22, .v (.agg #[.int .i64 n1, .slice A6 s2.length c7, .bool b3, .slice A8 l4.length c9, .slice A10 u5.length c11])), (26, .v (.agg #[.slice A59 sDescribeProducersResponseF.length c60, .int .i64 sDescribeProducersResponseX])), (27, .v (.int .i64 (Int.tmod x (0 + 1)))), (28, .v (.agg #[.int .i64 n1, .slice A6 s2.length c7, .bool b3, .slice A8 l4.length c9, .slice A10 u5.length c11]))] 6 (panicFree_then panicFree_body) (fun _ h => h.cells) hT94 hE90 fun a95 hE96 => ?_
    clear hE90
    refine anyC_op (i := 5) (by kernel_rfl) (wpOp_call hE96 (f := 18) (vs := [.slice A59 sDescribeProducersResponseF.length c60, .int .i64 (Int.tmod x (0 + 1)), .agg #[.int .i64 n1, .slice A6 s2.length c7, .bool b3, .slice A8 l4.length c9, .slice A10 u5.length c11]]) (d := 23) (by kernel_rfl) Try.call18 (sFitOK _ _ _ sDescribeProducersResponseF (Int.tmod x (0 + 1)) _ (Tree.mk n1 s2 b3 l4 u5) _ _ ⟨xs62, (h63.move (Fr.trans (Fr.trans (Fr.trans hF76 hF82) hF86) hF92).step immM (Fr.trans (Fr.trans (Fr.trans hF76 hF82) hF86) hF92).to'), (fun i_ x_ h_ => ((h64 i_ x_ h_).move (Fr.trans (Fr.trans (Fr.trans hF76 hF82) hF86) hF92).step immM (Fr.trans (Fr.trans (Fr.trans hF76 hF82) hF86) hF92).to'))⟩ sDescribeProducersResponse_plain sDescribeProducersResponse_depth (ht.move hW93.step nilM hW93.imm)) ?_)
    rintro e_ w100 ⟨cs99, rfl, hr98, hs97⟩
    have hr101 := hr98.move (Step.refl _ Nil) nilM (hW93.laid (G := F) hs97)
    obtain ⟨n102, s103, b104, l105, u106, A107, c108, A109, c110, A111, c112, xs113, ht119, hcs114, h115, h116, h117, h118⟩ := hr101.open_
    rw [hcs114] at hr101
    have hsm120 := h115.small
    have hsm121 := h116.small
    rw [hcs114]
    refine ⟨_, rfl, fun a122 hE123 => ?_⟩
    have hW124 := hW93.next_nil hs97
    have hF125 := hW93.frN hs97
    clear hE96
    have hT126 := TT.ofW hF125 hW124
    refine ⟨fun _ => hT126, ?_⟩
    refine anyC_op (i := 6) (by kernel_rfl) (wpOp_call hE123 (f := 17) (vs := [.agg #[.int .i64 n102, .slice A107 s103.length c108, .bool b104, .slice A109 l105.length c110, .slice A111 u106.length c112]]) (d := 24) (by kernel_rfl) Try.call17 (lGiven _ _ _ _ _ hr101 (Nat.le_refl _)) ?_)
    rintro e_ w130 ⟨cs129, rfl, hr128, hs127⟩
    have hr131 := hr128.move (Step.refl _ Nil) nilM (hW124.laid (G := F) hs127)
    obtain ⟨n132, s133, b134, l135, u136, A137, c138, A139, c140, A141, c142, xs143, ht149, hcs144, h145, h146, h147, h148⟩ := hr131.open_
    rw [hcs144] at hr131
    have hsm150 := h145.small
    have hsm151 := h146.small
    rw [hcs144]
    refine ⟨_, rfl, fun a152 hE153 => ?_⟩
    have hW154 := hW124.next_nil hs127
    have hF155 := hW124.frN hs127
    clear hE123
    have hT156 := TT.ofW (Fr.trans hF125 hF155) hW154
    refine ⟨fun _ => hT156, ?_⟩
    refine anyC_op (i := 7) (by kernel_rfl) (wpOp_call hE153 (f := 40) (vs := [.int .i64 (Int.tmod x (0 + 1)), .agg #[.int .i64 n132, .slice A137 s133.length c138, .bool b134, .slice A139 l135.length c140, .slice A141 u136.length c142]]) (d := 25) (by kernel_rfl) Try.call40 (mDescribeProducersResponse (Int.tmod x (0 + 1)) _ (fitT (Int.tmod x (0 + 1)) 8 sDescribeProducersResponseF (Tree.mk n1 s2 b3 l4 u5)) _ _ hr131 hcan hmade) ?_)
    rintro e_ w161 ⟨A159, c160, rfl, ho158, hs157⟩
    refine ⟨_, rfl, fun a162 hE163 => ?_⟩
    obtain ⟨hW164, hF165⟩ := hW154.frFresh hs157 (brow A159 c160 5 (makeDescribeProducersResponse (Int.tmod x (0 + 1)) (fitT (Int.tmod x (0 + 1)) 8 sDescribeProducersResponseF (Tree.mk n1 s2 b3 l4 u5)))) (Nat.le_refl _) ho158
    clear hE153 hW154
    have hT166 := TT.ofW (Fr.trans (Fr.trans hF125 hF155) hF165) hW164
    refine ⟨fun _ => hT166, ?_⟩
    refine anyC_op (i := 11) (by kernel_rfl) (wpOp_call hE163 (f := 19) (vs := [.agg #[.slice A59 sDescribeProducersResponseF.length c60, .int .i64 sDescribeProducersResponseX], .int .i64 (Int.tmod x (0 + 1)), .agg #[.int .i64 n1, .slice A6 s2.length c7, .bool b3, .slice A8 l4.length c9, .slice A10 u5.length c11]]) (d := 29) (by kernel_rfl) Try.call19 (sWrite _ _ sDescribeProducersResponseF sDescribeProducersResponseX (Int.tmod x (0 + 1)) _ (Tree.mk n1 s2 b3 l4 u5) _ _ ⟨xs62, (h63.move (Fr.trans (Fr.trans (Fr.trans (Fr.trans (Fr.trans (Fr.trans hF76 hF82) hF86) hF92) hF125) hF155) hF165).step immM (Fr.trans (Fr.trans (Fr.trans (Fr.trans (Fr.trans (Fr.trans hF76 hF82) hF86) hF92) hF125) hF155) hF165).to'), (fun i_ x_ h_ => ((h64 i_ x_ h_).move (Fr.trans (Fr.trans (Fr.trans (Fr.trans (Fr.trans (Fr.trans hF76 hF82) hF86) hF92) hF125) hF155) hF165).step immM (Fr.trans (Fr.trans (Fr.trans (Fr.trans (Fr.trans (Fr.trans hF76 hF82) hF86) hF92) hF125) hF155) hF165).to'))⟩ sDescribeProducersResponse_depth (ht.move hW164.step nilM hW164.imm) hroom) ?_)
    rintro e_ w171 ⟨A169, c170, rfl, ho168, hs167⟩
    refine ⟨_, rfl, fun a172 hE173 => ?_⟩
    obtain ⟨hW174, hF175⟩ := hW164.frFresh hs167 (brow A169 c170 5 (writeB 8 sDescribeProducersResponseF sDescribeProducersResponseX (Int.tmod x (0 + 1)) (Tree.mk n1 s2 b3 l4 u5))) (Nat.le_refl _) ho168
    clear hE163 hW164
    have hT176 := TT.ofW (Fr.trans (Fr.trans (Fr.trans hF125 hF155) hF165) hF175) hW174
    refine ⟨fun _ => hT176, ?_⟩
    refine anyC_op (i := 12) (by kernel_rfl) (wpOp_call hE173 (f := 15) (vs := [.slice A159 ((makeDescribeProducersResponse (Int.tmod x (0 + 1)) (fitT (Int.tmod x (0 + 1)) 8 sDescribeProducersResponseF (Tree.mk n1 s2 b3 l4 u5))).length) c160, .slice A169 ((writeB 8 sDescribeProducersResponseF sDescribeProducersResponseX (Int.tmod x (0 + 1)) (Tree.mk n1 s2 b3 l4 u5)).length) c170]) (d := 30) (by kernel_rfl) Try.call15 (sSame _ _ _ _ (makeDescribeProducersResponse (Int.tmod x (0 + 1)) (fitT (Int.tmod x (0 + 1)) 8 sDescribeProducersResponseF (Tree.mk n1 s2 b3 l4 u5))) (writeB 8 sDescribeProducersResponseF sDescribeProducersResponseX (Int.tmod x (0 + 1)) (Tree.mk n1 s2 b3 l4 u5)) _ _ (octs_own (hW174.own 0 _ rfl) (by first | omega | (simp only [be_length]; exact Nat.le_trans (widthI_le _) (by decide)) | (have := hroom; omega) | (have := hmade; omega)) (F := fun _ _ => True) (fun _ _ _ => trivial)) (octs_own (hW174.own 1 _ rfl) (by first | omega | (simp only [be_length]; exact Nat.le_trans (widthI_le _) (by decide)) | (have := hroom; omega) | (have := hmade; omega)) (F := fun _ _ => True) (fun _ _ _ => trivial))) ?_)
    rintro e_ w178 ⟨rfl, hs177⟩
    refine ⟨_, rfl, fun a179 hE180 => ?_⟩
    have hW181 := hW174.next_nil hs177
    have hF182 := hW174.frN hs177
    clear hE173 hW174
    have hT183 := TT.ofW (Fr.trans (Fr.trans (Fr.trans (Fr.trans hF125 hF155) hF165) hF175) hF182) hW181
    refine ⟨fun _ => hT183, ?_⟩
    refine anyC_op (i := 13) (by kernel_rfl) (wpOp_pure [4] hW181.cells hE180 (env' := [(4, .v (.bool (decide (makeDescribeProducersResponse (Int.tmod x (0 + 1)) (fitT (Int.tmod x (0 + 1)) 8 sDescribeProducersResponseF (Tree.mk n1 s2 b3 l4 u5)) = writeB 8 sDescribeProducersResponseF sDescribeProducersResponseX (Int.tmod x (0 + 1)) (Tree.mk n1 s2 b3 l4 u5)))))]) (by kernel_rfl) fun a184 hE185 => ?_)
    clear hE180
    refine ⟨fun h => absurd rfl h, ?_⟩
    refine anyC_done (by kernel_rfl) ?_ _
    refine then_normal ?_
    refine wp_ret ?_
    refine leave hE185 hW181.cells (v := .bool (decide (makeDescribeProducersResponse (Int.tmod x (0 + 1)) (fitT (Int.tmod x (0 + 1)) 8 sDescribeProducersResponseF (Tree.mk n1 s2 b3 l4 u5)) = writeB 8 sDescribeProducersResponseF sDescribeProducersResponseX (Int.tmod x (0 + 1)) (Tree.mk n1 s2 b3 l4 u5)))) (by kernel_rfl) ?_
    exact ⟨by rw [hpure]; simp, hW181.step⟩

theorem closeDescribeProducersResponse (x : Int) (hx : 0 ≤ x ∧ x ≤ 255) (ct : List Value) (t : Tree) (w : World) (F : Nat → Nat → Prop) (ht : TreeR w F ct t) (hsz : t.size ≤ 8388608) : Calls Try.prog 10 #[.int .u8 x, .agg ct.toArray] w (Gives w (.bool true)) := by
  obtain ⟨g0, g1⟩ := ver_ok (m := 0 + 1) hx.1 hx.2 (by decide) (by decide)
  have hp : makeDescribeProducersResponse (Int.tmod x (0 + 1)) (fitT (Int.tmod x (0 + 1)) 8 sDescribeProducersResponseF t) = writeB 8 sDescribeProducersResponseF sDescribeProducersResponseX (Int.tmod x (0 + 1)) t := by unfold makeDescribeProducersResponse; rw [i16_small g0 g1]; exact pureDescribeProducersResponse (Int.tmod x (0 + 1)) g0 g1 t
  have h1 := writeB_le 8 sDescribeProducersResponseF sDescribeProducersResponseX (Int.tmod x (0 + 1)) t
  have h2 : costL sDescribeProducersResponseF ≤ 131000 := by decide +kernel
  have h3 := Nat.mul_le_mul h2 hsz
  exact lawDescribeProducersResponse x hx.1 (by omega) ct t w F ht (by omega) (canfitDescribeProducersResponse (Int.tmod x (0 + 1)) t) (by rw [hp]; omega) hp

end Go.Proofs.Ytbjopfcbpobnpaa.ME

/- FnMakeDescribeProducersResponse: the statement: of every version and every tree of the bulk that the statement speaks of the law returns true, and leaves its arguments as they are. Own work. -/
namespace Go.Proofs.Ytbjopfcbpobnpaa.ME
open Go
open Go.ChangeShapes Go.WideShapes Go.ChangeAt Go.RowKit
set_option linter.unusedVariables false
set_option linter.unusedSimpArgs false

theorem ownKnob_ : ownKnob Try.prog.godebug = none := by kernel_rfl
theorem laidOut_ : laidOutB Try.prog = true := by kernel_rfl
theorem treeTys : TreeTys Try.prog 26 23 24 61 22 2 4 59 5 := ⟨by kernel_rfl, by kernel_rfl, by kernel_rfl, by kernel_rfl, by kernel_rfl, by kernel_rfl, by kernel_rfl, by kernel_rfl, by kernel_rfl, by kernel_rfl⟩
theorem open_two {H : Type} {enc : TypeId × Value → H} {P : Program} {W : World} {base b' : Nat} {sp : Nat → Bool} {hd : Bool} {t0 t1 : TypeId} {v0 v1 : Value} {d0 : DataW H} {p0 : List MemPlace} (hu : P.underlying t0 = some (.int .u8))
    (hval : ∀ (j : Nat) (t : TypeId) (v : Value), #[t0, t1][j]? = some t → #[v0, v1][j]? = some v → Value.okWide P W .any base t v) (h : DataW.Trod enc P W b' sp hd t0 v0 d0 p0) : ∃ x, v0 = .int .u8 x ∧ d0 = .lit (.int .u8 x) ∧ p0 = [] ∧ (Lit.int .u8 x).wf = true :=
  open_int hu (hval 0 t0 v0 rfl rfl) h
theorem agg_of {v : Value} {cs : List Value} (h : v.cells.toList = cs) (h5 : cs.length = 5) : v = .agg cs.toArray := by
  subst h
  cases v <;> first | (simp [Value.cells] at h5; done) | simp [Value.cells]

theorem contract_ (H : Type) (enc : TypeId × Value → H) (W : World) (base : Nat) (args : Array Value) (ds gs : List (DataW H)) (before : List MemPlace)
    (hval : ∀ (j : Nat) t v, Try.f10.params[j]? = some t → args[j]? = some v → Value.okWide Try.prog W .any base t v)
    (hW : DataW.Whole enc Try.prog Try.f10.params.toList Rows.fnMakeDescribeProducersResponseSpec.vars false W args.toList ds gs before) (hk : Rows.uptoSmall H (ds ++ gs) = true) :
    Calls Try.prog 10 args W fun e W' => ∃ v, e = .returned v ∧ Rows.fnMakeDescribeProducersResponseSpec.post enc Try.prog Try.f10 false true false false W args v W' := by
  have hW' := hW
  obtain ⟨p, q, hA0, hV, rfl, hfz, hnd⟩ := hW
  have hA : DataW.TrodAll enc Try.prog W 0 (fun _ => true) true Try.f10.params.toList args.toList ds p := hA0
  rw [Try.params10] at hA hval
  obtain ⟨v0, v1, d0, d1, p0, p1, rfl, rfl, rfl, h0, h1⟩ := trodAll_two hA
  obtain ⟨rfl, rfl⟩ := trodVars_none hV
  obtain ⟨x, rfl, rfl, rfl, w0⟩ := open_two Try.underlying5 @hval h0
  have hx : 0 ≤ x ∧ x ≤ 255 := by simpa [Lit.wf, IntKind.min, IntKind.max, IntKind.signed, IntKind.bits] using w0
  have hb : Rows.uptoBulk d1 ≤ 1048576 := by
    have h : Rows.uptoBulkAll ([DataW.lit (H := H) (.int .u8 x), d1] ++ []) ≤ 1048576 := of_decide_eq_true hk
    simp only [List.append_nil, Rows.uptoBulkAll] at h
    omega
  obtain ⟨fuel, hf⟩ := h1
  obtain ⟨t, ht, hsz⟩ := trod_tree treeTys fuel _ _ hf hb
  replace hsz : t.size ≤ 8388608 := Nat.le_trans hsz (by show 8 * Rows.uptoBulk d1 ≤ 8388608; omega)
  have hagg := agg_of rfl ht.five
  generalize v1.cells.toList = ct at ht hagg
  subst hagg
  clear hf
  refine (closeDescribeProducersResponse x hx _ t W (fun _ _ => True) ht hsz).mono fun e W' h => ?_
  obtain ⟨rfl, hs⟩ := h
  exact ⟨_, rfl, post_step hW' hs laidOut_ (by rw [Try.params10]; decide +kernel) rfl rfl rfl (fun _ _ _ => trodAll_cons_mk (shut_bool Try.underlying4 _) trodAll_mk0)⟩

set_option maxRecDepth 100000 in
theorem lifted_ (os : Os) (started : os.Started) (H : Type) (enc : TypeId × Value → H) (F : Stop.Interp) :
    ReturnsInHanded {} Try.checked os 10 .any ((Rows.OpenSpec.upto Rows.fnMakeDescribeProducersResponseSpec).pre6 enc Try.prog Try.f10 Rows.fnMakeDescribeProducersResponseUptoRow.domain false) (((Rows.OpenSpec.upto Rows.fnMakeDescribeProducersResponseSpec).at F).post enc Try.prog Try.f10 false true false false) := by
  refine returnsInHanded_of_cond (C := Try.checked) (s := Rows.OpenSpec.upto Rows.fnMakeDescribeProducersResponseSpec) (k := Rows.uptoSmall) rfl ownKnob_ started (by kernel_rfl) Try.func10
    (OpenSpec.witness (enc := enc) (C := Try.checked) (s := Rows.OpenSpec.upto Rows.fnMakeDescribeProducersResponseSpec) (k := Rows.uptoSmall) rfl false ⟨#[], #[.int .u8 0, .agg #[.int .i64 0, .slice none 0 0, .bool false, .slice none 0 0, .slice none 0 0]], []⟩ 8 (by kernel_rfl) (by kernel_rfl) (by kernel_rfl)
      (x := ([.lit (.int .u8 0), .agg [.lit (.int .i64 0), .nil, .lit (.bool false), .nil, .nil]], [], [])) (by kernel_rfl) rfl (by kernel_rfl)) ?_
  intro W base args ds gs before hval hW _ hk _
  exact contract_ H enc W base args ds gs before @hval hW hk

theorem holds_ : Rows.FnMakeDescribeProducersResponseUptoSaid :=
  OpenClaim.holds_of_cond 10 Try.f10 rfl rfl rfl rfl rfl rfl rfl ⟨rfl, rfl, rfl, rfl, rfl⟩ rfl rfl rfl rfl rfl (by kernel_rfl) Try.func10 (by kernel_rfl)
    (of_decide_eq_true (by kernel_rfl)) (by unfold Func.isWrapper; first | (rw [if_pos (by decide +kernel)]; kernel_rfl) | (rw [if_neg (by decide +kernel)]; exact ⟨rfl, rfl⟩))
    (fun os started H enc _ F => lifted_ os started H enc F)
end Go.Proofs.Ytbjopfcbpobnpaa.ME
namespace Go.Proofs.Ytbjopfcbpobnpaa
/-- the statement -/
theorem fnMakeDescribeProducersResponse_holds : Rows.FnMakeDescribeProducersResponseUptoSaid := ME.holds_
end Go.Proofs.Ytbjopfcbpobnpaa
