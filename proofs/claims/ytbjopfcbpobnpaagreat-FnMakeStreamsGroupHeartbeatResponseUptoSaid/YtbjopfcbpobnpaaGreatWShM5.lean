/- The texts of a claim, put together: the engine, the contracts, the law. Own work. -/
import Derived.Test.YtbjopfcbpobnpaaGreatWShM4
namespace Go.Proofs.YtbjopfcbpobnpaaGreat.ME
open Go
open Go.RowKit
set_option linter.unusedVariables false
set_option linter.unusedSimpArgs false
set_option maxRecDepth 20000
def clStreamsGroupHeartbeatResponseStatus (d : DV) : List Value := [.int .i8 ((d.f 0).n), .string ((d.f 1).s), .map d.m]
theorem oneStreamsGroupHeartbeatResponseStatus : ∀ d, ∀ u ∈ clStreamsGroupHeartbeatResponseStatus d, u.oneCell' = true := fun d => allOne_ok kz
theorem mvStreamsGroupHeartbeatResponseStatus : Moves okStreamsGroupHeartbeatResponseStatus := by
 intro w w' F F' M d hs hM hF h
 unfold okStreamsGroupHeartbeatResponseStatus at h ⊢
 obtain ⟨g0, g1, t1, t2, t3, _⟩ := h
 exact ⟨g0, g1, t1.move hs hM hF, t2, t3, trivial⟩
def clTaskIDs (d : DV) : List Value := [.string ((d.f 0).s), .slice ((d.f 1).A) ((d.f 1).l) ((d.f 1).c), .map d.m]
theorem oneTaskIDs : ∀ d, ∀ u ∈ clTaskIDs d, u.oneCell' = true := fun d => allOne_ok kz
theorem mvTaskIDs : Moves okTaskIDs := by
 intro w w' F F' M d hs hM hF h
 unfold okTaskIDs at h ⊢
 obtain ⟨g0, ⟨g1, g1l, g1e⟩, t1, t2, t3, _⟩ := h
 exact ⟨g0, ⟨g1.move hs hM hF, g1l, g1e⟩, t1.move hs hM hF, t2, t3, trivial⟩
theorem mvEndpoint : Moves okEndpoint := by
 intro w w' F F' M d hs hM hF h
 unfold okEndpoint at h ⊢
 obtain ⟨g0, g1, t1, t2, t3, _⟩ := h
 exact ⟨g0, g1, t1.move hs hM hF, t2, t3, trivial⟩
def clStreamsGroupHeartbeatResponsePartitionsByUserEndpointActivePartition (d : DV) : List Value := [.string ((d.f 0).s), .slice ((d.f 1).A) ((d.f 1).l) ((d.f 1).c), .map d.m]
theorem oneStreamsGroupHeartbeatResponsePartitionsByUserEndpointActivePartition : ∀ d, ∀ u ∈ clStreamsGroupHeartbeatResponsePartitionsByUserEndpointActivePartition d, u.oneCell' = true := fun d => allOne_ok kz
theorem mvStreamsGroupHeartbeatResponsePartitionsByUserEndpointActivePartition : Moves okStreamsGroupHeartbeatResponsePartitionsByUserEndpointActivePartition := by
 intro w w' F F' M d hs hM hF h
 unfold okStreamsGroupHeartbeatResponsePartitionsByUserEndpointActivePartition at h ⊢
 obtain ⟨g0, ⟨g1, g1l, g1e⟩, t1, t2, t3, _⟩ := h
 exact ⟨g0, ⟨g1.move hs hM hF, g1l, g1e⟩, t1.move hs hM hF, t2, t3, trivial⟩
def clStreamsGroupHeartbeatResponsePartitionsByUserEndpointStandbyPartition (d : DV) : List Value := [.string ((d.f 0).s), .slice ((d.f 1).A) ((d.f 1).l) ((d.f 1).c), .map d.m]
theorem oneStreamsGroupHeartbeatResponsePartitionsByUserEndpointStandbyPartition : ∀ d, ∀ u ∈ clStreamsGroupHeartbeatResponsePartitionsByUserEndpointStandbyPartition d, u.oneCell' = true := fun d => allOne_ok kz
theorem mvStreamsGroupHeartbeatResponsePartitionsByUserEndpointStandbyPartition : Moves okStreamsGroupHeartbeatResponsePartitionsByUserEndpointStandbyPartition := by
 intro w w' F F' M d hs hM hF h
 unfold okStreamsGroupHeartbeatResponsePartitionsByUserEndpointStandbyPartition at h ⊢
 obtain ⟨g0, ⟨g1, g1l, g1e⟩, t1, t2, t3, _⟩ := h
 exact ⟨g0, ⟨g1.move hs hM hF, g1l, g1e⟩, t1.move hs hM hF, t2, t3, trivial⟩
def clStreamsGroupHeartbeatResponsePartitionsByUserEndpoint (d : DV) : List Value := [.string (((d.f 0).f 0).s), .int .u16 (((d.f 0).f 1).n), .map ((d.f 0).m), .slice ((d.f 1).A) ((d.f 1).l) ((d.f 1).c), .slice ((d.f 2).A) ((d.f 2).l) ((d.f 2).c), .map d.m]
theorem oneStreamsGroupHeartbeatResponsePartitionsByUserEndpoint : ∀ d, ∀ u ∈ clStreamsGroupHeartbeatResponsePartitionsByUserEndpoint d, u.oneCell' = true := fun d => allOne_ok kz
theorem mvStreamsGroupHeartbeatResponsePartitionsByUserEndpoint : Moves okStreamsGroupHeartbeatResponsePartitionsByUserEndpoint := by
 intro w w' F F' M d hs hM hF h
 unfold okStreamsGroupHeartbeatResponsePartitionsByUserEndpoint at h ⊢
 obtain ⟨g0, ⟨g1, g1l, g1e⟩, ⟨g2, g2l, g2e⟩, t1, t2, t3, _⟩ := h
 exact ⟨mvEndpoint _ hs hM hF g0, ⟨g1.move hs hM hF, g1l, fun i hi => mvStreamsGroupHeartbeatResponsePartitionsByUserEndpointActivePartition _ hs hM hF (g1e i hi)⟩, ⟨g2.move hs hM hF, g2l, fun i hi => mvStreamsGroupHeartbeatResponsePartitionsByUserEndpointStandbyPartition _ hs hM hF (g2e i hi)⟩, t1.move hs hM hF, t2, t3, trivial⟩
set_option maxHeartbeats 4000000 in
theorem eStreamsGroupHeartbeatResponseStatus (ct : List Value) (t : Tree) (w : World) (F : Nat → Nat → Prop) (ht : TreeR w F ct t) (hc : canStreamsGroupHeartbeatResponseStatus t) :
  Calls Tryz.prog 116 #[.agg ct.toArray] w (fun e w' => ∃ D : DV, e = .returned (.agg #[.int .i8 ((D.f 0).n), .string ((D.f 1).s), .map D.m]) ∧ okStreamsGroupHeartbeatResponseStatus w' (Fp F w) D ∧ relStreamsGroupHeartbeatResponseStatus D t ∧ Step w w' Nil) := by
 obtain ⟨n1, s2, b3, l4, u5, A6, c7, A8, c9, ab, ac, bE, rfl, rfl, bF, bG, ce, bu⟩ := ht.open_
 have bv := bF.small
 have bw := bG.small
 unfold canStreamsGroupHeartbeatResponseStatus at hc
 obtain ⟨cj0, cj1, cU, _⟩ := hc
 have hsort := cU.1
 replace hsort : Sorted u5 := hsort
 have hul : u5.length ≤ 1000000 := cU.2.1
 refine enter (n := 31) Tryz.func116 rfl Tryz.ntmps116 kz fun a hE => ?_
 have hW := WOk.start w Nil
 refine go_seq_region [0, 1] kz ?_
 refine of_op (wpOp_box hW hE (d := 1) (cs := [.int .i64 n1, .slice A6 s2.length c7, .bool b3, .slice A8 l4.length c9, .slice ab u5.length ac]) kz fun bh cg cl bH bI bJ aG aH => ?_)
 clear hE hW
 refine of_op (wpOp_alloc aG aH (d := 2) (cs := [.int .i8 0, .string ByteArray.empty, .map none]) kz fun ak cm cq bK bL bM aI aJ => ?_)
 clear aH aG
 refine wpOps_nil (then_normal ?_)
 refine go_seq_region [0] kz ?_
 refine of_op (wpOp_alloc aI aJ (d := 3) (cs := [.int .i8 0, .string ByteArray.empty, .map none]) kz fun ae cr cu bN bO bP ah aK => ?_)
 clear aJ aI
 refine wpOps_nil (then_normal ?_)
 refine go_seq_region [0, 1, 2, 3, 4, 5] kz ?_
 refine go_rn [0] [1, 2, 3, 4, 5] [(1, .p 0 0), (2, .p 1 0), (3, .p 2 0), (6, .v (.agg #[.int .i64 n1, .slice A6 s2.length c7, .bool b3, .slice A8 l4.length c9, .slice ab u5.length ac]))] ah aK fun cv aL => ?_
 clear aK
 refine of_op (wpOp_call aL (f := 73) (vs := [.agg #[.int .i64 n1, .slice A6 s2.length c7, .bool b3, .slice A8 l4.length c9, .slice ab u5.length ac], .int .i64 0]) (d := 7) kz Tryz.call73 (iAt _ _ 0 _ _ (ht.move ah.step nilM ah.imm)) ?_)
 rintro e_ cw ⟨bQ, rfl, bi, al⟩
 have aM := bi.move al nilM (fun b o h_ hb_ => ah.laid (G := F) al b o (.inl h_) (Nat.lt_of_lt_of_le hb_ al.size))
 obtain ⟨am, cy, cz, cA, cB, cC, cD, cE, cG, cH, cI, bR, bj, ar, bS, bT, cJ, cK⟩ := aM.open_
 rw [ar] at aM
 have bz := bS.small
 have bA := bT.small
 rw [ar]
 refine ⟨_, rfl, fun cL aN => ?_⟩
 have aF := ah.next_nil al
 have bU := ah.frN al
 clear aL
 refine go_rn [2, 3, 4] [5] [(1, .p 0 0), (2, .p 1 0), (3, .p 2 0), (9, .v (.int .i8 (IntKind.i8.wrap am))), (10, .p 2 0)] aF aN fun cM aO => ?_
 clear aN
 refine of_op (wpOp_store aF aO (oi := 2) (cs := [.int .i8 (IntKind.i8.wrap am), .string ByteArray.empty, .map none]) kz fun cN bV ai aP => ?_)
 clear aO aF
 refine wpOps_nil (then_normal ?_)
 refine go_seq_region [0, 1, 2, 3, 4, 5] kz ?_
 refine go_rn [0] [1, 2, 3, 4, 5] [(1, .p 0 0), (2, .p 1 0), (3, .p 2 0), (11, .v (.agg #[.int .i64 n1, .slice A6 s2.length c7, .bool b3, .slice A8 l4.length c9, .slice ab u5.length ac]))] ai aP fun cO aQ => ?_
 clear aP
 refine of_op (wpOp_call aQ (f := 73) (vs := [.agg #[.int .i64 n1, .slice A6 s2.length c7, .bool b3, .slice A8 l4.length c9, .slice ab u5.length ac], .int .i64 1]) (d := 12) kz Tryz.call73 (iAt _ _ 1 _ _ (ht.move ai.step nilM ai.imm)) ?_)
 rintro e_ cP ⟨bW, rfl, bk, ao⟩
 have aR := bk.move ao nilM (fun b o h_ hb_ => ai.laid (G := F) ao b o (.inl h_) (Nat.lt_of_lt_of_le hb_ ao.size))
 obtain ⟨cQ, aj, cR, cS, cT, bX, bY, cV, cW, cX, cY, bB, au, ap, aS, bn, bZ, b0⟩ := aR.open_
 rw [ap] at aR
 have bp := aS.small
 have bq := bn.small
 rw [ap]
 refine ⟨_, rfl, fun b5 av => ?_⟩
 have af := ai.next_nil ao
 have bC := ai.frN ao
 clear aQ
 refine go_rn [2] [3, 4, 5] [(1, .p 0 0), (2, .p 1 0), (3, .p 2 0), (13, .v (.slice bX aj.length bY))] af av fun b6 aw => ?_
 clear av
 refine of_op (wpOp_conv aw (src := 22) (dst := 9) (e := 5) (d := 14) kz kz kz kz aS fun b8 ax => ?_)
 clear aw
 refine go_rn [4] [5] [(1, .p 0 0), (2, .p 1 0), (3, .p 2 0), (14, .v (.string (bs aj))), (15, .p 2 1)] af ax fun ca ay => ?_
 clear ax
 refine of_op (wpOp_store af ay (oi := 2) (cs := [.int .i8 (IntKind.i8.wrap am), .string (bs aj), .map none]) kz fun br bD aa aA => ?_)
 clear ay af
 refine wpOps_nil (then_normal ?_)
 refine wp_seq ?_
 refine go_sp [(2, .p 1 0), (3, .p 2 0), (17, .v (.slice ab u5.length ac)), (18, .v (.int .i64 ((u5.length : Nat) : Int))), (19, .v (.int .i64 0))] aa aA fun cb aT => ?_
 clear aA
 refine wp_block ?_
 have aU := new_of aa 2 rfl kz
 have aV := aT.recast 2 (.p 1 0) (.v (.pointer (some ⟨ak, 0, none⟩))) rfl rfl trivial
 have aW := aV.recast 3 (.p 2 0) (.v (.pointer (some ⟨ae, 0, none⟩))) rfl rfl trivial
 have aX := (aW.pick (ks := [2, 3, 17, 18, 19]) (env' := [(2, .v (.pointer (some ⟨ak, 0, none⟩))), (3, .v (.pointer (some ⟨ae, 0, none⟩))), (17, .v (.slice ab u5.length ac)), (18, .v (.int .i64 ((u5.length : Nat) : Int))), (19, .v (.int .i64 0))]) kz).cutTb 0 kz
 refine wp_loop_ghost (fun q a_ w_ => ∃ (j : Nat) (m_ : Option Nat), q = u5.length - j ∧ j ≤ u5.length ∧ EnvOk 31 [] [(2, .v (.pointer (some ⟨ak, 0, none⟩))), (3, .v (.pointer (some ⟨ae, 0, none⟩))), (17, .v (.slice ab u5.length ac)), (18, .v (.int .i64 ((u5.length : Nat) : Int))), (19, .v (.int .i64 ((j : Nat) : Int)))] a_ ∧ TL w br w_ F ae 2 [.int .i8 (IntKind.i8.wrap am), .string (bs aj), .map none] m_ (u5.take j)) u5.length
  ⟨0, none, by omega, by omega, aX, TL.start aa 2 rfl rfl⟩ ?_
 rintro q aq wq ⟨j, m_, rfl, hj, hE2, hT⟩
 have hWq := WOk.start wq Nil
 refine go_sp [(2, .v (.pointer (some ⟨ak, 0, none⟩))), (3, .v (.pointer (some ⟨ae, 0, none⟩))), (17, .v (.slice ab u5.length ac)), (18, .v (.int .i64 ((u5.length : Nat) : Int))), (19, .v (.int .i64 ((j : Nat) : Int))), (20, .v (.bool (decide (((j : Nat) : Int) < ((u5.length : Nat) : Int)))))] hWq hE2 fun aq2 hE3 => wp_seq ?_
 refine cond_of hE3 (b := decide (((j : Nat) : Int) < ((u5.length : Nat) : Int))) kz (fun hc => ?_) (fun hc => ?_)
 ·have hlt : j < u5.length := by have := of_decide_eq_true hc; omega
  refine wp_skip (then_normal (wp_seq (wp_block ?_)))
  obtain ⟨⟨k, x⟩, hu⟩ : ∃ y, u5[j]? = some y := ⟨_, List.getElem?_eq_getElem hlt⟩
  obtain ⟨bb, bo, xA, xc, hA, hat, hxo, hk⟩ := tag_at bu hu
  refine go_seq_region [0, 1, 2, 3] kz ?_
  refine of_op (wpOp_index hE3 (t := 37) (e := 64) (size := 2) (bytes := 32) (d := 21) (b := bb) (o := bo) (m := u5.length) (j := j) kz kz hA rfl hlt fun aq3 hE4 => ?_)
  refine of_op (wpOp_load hE4 (t := 64) (d := 22) (cs := [.int .u32 k, .slice xA x.length xc]) (v := .agg #[.int .u32 k, .slice xA x.length xc]) kz kz (hat.step_nil hT.step) fun aq4 hE5 => ?_)
  refine of_op (wpOp_alloc hWq hE5 (d := 5) (cs := [.int .u32 0, .slice none 0 0]) kz fun bx aq5 wq2 hbx hbx0 hFq2 hWq2 hE6 => ?_)
  refine of_op (wpOp_store hWq2 hE6 (oi := 0) (cs := [.int .u32 k, .slice xA x.length xc]) kz fun wq3 hFq3 hWq3 hE7 => wpOps_nil (then_normal ?_))
  refine go_region [0, 1, 2, 3, 4, 5] kz (go_rn [0, 1, 2, 3, 4] [5] [(2, .v (.pointer (some ⟨ak, 0, none⟩))), (3, .v (.pointer (some ⟨ae, 0, none⟩))), (17, .v (.slice ab u5.length ac)), (18, .v (.int .i64 ((u5.length : Nat) : Int))), (19, .v (.int .i64 ((j : Nat) : Int))), (23, .v (.pointer (some ⟨ae, 2, none⟩))), (25, .v (.int .u32 k)), (27, .v (.slice xA x.length xc))] hWq3 hE7 fun aq6 hE8 => ?_)
  refine of_op (wpOp_call hE8 (f := 75) (vs := [.pointer (some ⟨ae, 2, none⟩), .int .u32 k, .slice xA x.length xc]) (d := 28) kz Tryz.call75 ((hT.move hWq3.step).set aU kz hsort hu hxo hk) ?_)
  rintro e_ wq5 ⟨rfl, hS5, r, hT5⟩
  refine ⟨_, rfl, fun aq7 hE9 => wpOps_nil (block_normal (then_normal ?_))⟩
  have bt := (hE9.pick (ks := [2, 3, 17, 18, 19]) (env' := [(2, .v (.pointer (some ⟨ak, 0, none⟩))), (3, .v (.pointer (some ⟨ae, 0, none⟩))), (17, .v (.slice ab u5.length ac)), (18, .v (.int .i64 ((u5.length : Nat) : Int))), (19, .v (.int .i64 ((j : Nat) : Int)))]) kz).cutTb 0 kz
  refine go_region [0, 1] kz (go_rn [0, 1] [] [(2, .v (.pointer (some ⟨ak, 0, none⟩))), (3, .v (.pointer (some ⟨ae, 0, none⟩))), (17, .v (.slice ab u5.length ac)), (18, .v (.int .i64 ((u5.length : Nat) : Int))), (19, .v (.int .i64 (IntKind.i64.wrap (((j : Nat) : Int) + 1))))] (WOk.start wq5 Nil) bt fun aq8 aY => wpOps_nil (then_normal ?_))
  rw [wrap_succ (by omega)] at aY
  exact ⟨u5.length - (j + 1), by omega, j + 1, some r, rfl, by omega, aY, hT5⟩
 ·obtain rfl : j = u5.length := by have := of_decide_eq_false hc; omega
  refine wp_exit (then_exit (then_exit (block_exit ?_)))
  rw [List.take_length] at hT
  obtain ⟨ag, aZ⟩ := hT.tab aa 2 [⟨bh, 0, [.int .i64 n1, .slice A6 s2.length c7, .bool b3, .slice A8 l4.length c9, .slice ab u5.length ac], true⟩, ⟨ak, 0, [.int .i8 0, .string ByteArray.empty, .map none], true⟩, ⟨ae, 0, [.int .i8 (IntKind.i8.wrap am), .string (bs aj), .map m_], true⟩] rfl
  have ba := hT.mapImm aa ag aZ hsort (tags_range bu)
  have bd := (hE3.retable [⟨bh, 0, [.int .i64 n1, .slice A6 s2.length c7, .bool b3, .slice A8 l4.length c9, .slice ab u5.length ac], true⟩, ⟨ak, 0, [.int .i8 0, .string ByteArray.empty, .map none], true⟩, ⟨ae, 0, [.int .i8 (IntKind.i8.wrap am), .string (bs aj), .map m_], true⟩]).recast 2 (.v (.pointer (some ⟨ak, 0, none⟩))) (.p 1 0) rfl rfl (Nat.le_of_ble_eq_true (n := 2) rfl)
  have bf := bd.recast 3 (.v (.pointer (some ⟨ae, 0, none⟩))) (.p 2 0) rfl rfl (Nat.le_of_ble_eq_true (n := 3) rfl)
  have aB : EnvOk 31 [⟨bh, 0, [.int .i64 n1, .slice A6 s2.length c7, .bool b3, .slice A8 l4.length c9, .slice ab u5.length ac], true⟩, ⟨ak, 0, [.int .i8 0, .string ByteArray.empty, .map none], true⟩, ⟨ae, 0, [.int .i8 (IntKind.i8.wrap am), .string (bs aj), .map m_], true⟩] [(2, .p 1 0), (3, .p 2 0)] _ := bf.pk
  refine then_normal ?_
  refine go_seq_region [0, 1] kz ?_
  refine go_rn [0] [1] [(2, .p 1 0), (30, .v (.agg #[.int .i8 (IntKind.i8.wrap am), .string (bs aj), .map m_]))] ag aB fun cc aC => ?_
  clear aB
  refine of_op (wpOp_store ag aC (oi := 1) (cs := [.int .i8 (IntKind.i8.wrap am), .string (bs aj), .map m_]) kz fun cd aD aE bg => ?_)
  clear aC ag
  refine wpOps_nil (then_normal ?_)
  refine wp_ret ?_
  refine leave bg aE.cells (v := .agg #[.int .i8 (IntKind.i8.wrap am), .string (bs aj), .map m_]) kz ?_
  refine ⟨dvP m_ u5 [dvN (IntKind.i8.wrap am), dvS (bs aj)], rfl, ?_, ?_, aE.step⟩
  ·unfold okStreamsGroupHeartbeatResponseStatus
   exact ⟨trivial, by show ByteArray.size (bs aj) ≤ 1000000; rw [bs_size]; have h_ := cj1; rw [au] at h_; exact h_, ((ba.move aD.step immM aD.to').move (Step.refl _ Nil) nilM immOut), cU.2.1, cU.2.2, trivial⟩
  ·unfold relStreamsGroupHeartbeatResponseStatus
   exact ⟨by rw [bj]; rfl, by rw [au]; rfl, rfl, trivial⟩
set_option maxHeartbeats 4000000 in
theorem eTaskIDs (ct : List Value) (t : Tree) (w : World) (F : Nat → Nat → Prop) (ht : TreeR w F ct t) (hc : canTaskIDs t) :
  Calls Tryz.prog 117 #[.agg ct.toArray] w (fun e w' => ∃ D : DV, e = .returned (.agg #[.string ((D.f 0).s), .slice ((D.f 1).A) ((D.f 1).l) ((D.f 1).c), .map D.m]) ∧ okTaskIDs w' (Fp F w) D ∧ relTaskIDs D t ∧ Step w w' Nil) := by
 obtain ⟨n1, s2, b3, l4, u5, A6, c7, A8, c9, ac, ae, d9, rfl, rfl, ea, eb, fL, dG⟩ := ht.open_
 have dH := ea.small
 have dI := eb.small
 unfold canTaskIDs at hc
 obtain ⟨cj0, cj1, cU, _⟩ := hc
 have hsort := cU.1
 replace hsort : Sorted u5 := hsort
 have hul : u5.length ≤ 1000000 := cU.2.1
 refine enter (n := 55) Tryz.func117 rfl Tryz.ntmps117 kz fun a hE => ?_
 have hW := WOk.start w Nil
 refine go_seq_region [0, 1] kz ?_
 refine of_op (wpOp_box hW hE (d := 1) (cs := [.int .i64 n1, .slice A6 s2.length c7, .bool b3, .slice A8 l4.length c9, .slice ac u5.length ae]) kz fun bf fM fN ec ee ef cb cc => ?_)
 clear hE hW
 refine of_op (wpOp_alloc cb cc (d := 2) (cs := [.string ByteArray.empty, .slice none 0 0, .map none]) kz fun au fO fP eg eh ei cd ce => ?_)
 clear cc cb
 refine wpOps_nil (then_normal ?_)
 refine go_seq_region [0] kz ?_
 refine of_op (wpOp_alloc cd ce (d := 3) (cs := [.string ByteArray.empty, .slice none 0 0, .map none]) kz fun ag fQ fR ej ek em aD cg => ?_)
 clear ce cd
 refine wpOps_nil (then_normal ?_)
 refine go_seq_region [0, 1, 2, 3, 4, 5] kz ?_
 refine go_rn [0] [1, 2, 3, 4, 5] [(1, .p 0 0), (2, .p 1 0), (3, .p 2 0), (8, .v (.agg #[.int .i64 n1, .slice A6 s2.length c7, .bool b3, .slice A8 l4.length c9, .slice ac u5.length ae]))] aD cg fun fS cl => ?_
 clear cg
 refine of_op (wpOp_call cl (f := 73) (vs := [.agg #[.int .i64 n1, .slice A6 s2.length c7, .bool b3, .slice A8 l4.length c9, .slice ac u5.length ae], .int .i64 0]) (d := 9) kz Tryz.call73 (iAt _ _ 0 _ _ (ht.move aD.step nilM aD.imm)) ?_)
 rintro e_ fT ⟨eo, rfl, dc, aF⟩
 have cm := dc.move aF nilM (fun b o h_ hb_ => aD.laid (G := F) aF b o (.inl h_) (Nat.lt_of_lt_of_le hb_ aF.size))
 obtain ⟨fU, ah, fV, fW, fX, ep, eu, fY, fZ, f0, f5, ev, cq, bg, dJ, ew, f8, f9⟩ := cm.open_
 rw [bg] at cm
 have dK := dJ.small
 have dL := ew.small
 rw [bg]
 refine ⟨_, rfl, fun ga cr => ?_⟩
 have aZ := aD.next_nil aF
 have ey := aD.frN aF
 clear cl
 refine go_rn [2] [3, 4, 5] [(1, .p 0 0), (2, .p 1 0), (3, .p 2 0), (10, .v (.slice ep ah.length eu))] aZ cr fun gb cu => ?_
 clear cr
 refine of_op (wpOp_conv cu (src := 22) (dst := 9) (e := 5) (d := 11) kz kz kz kz dJ fun gc cv => ?_)
 clear cu
 refine go_rn [4] [5] [(1, .p 0 0), (2, .p 1 0), (3, .p 2 0), (11, .v (.string (bs ah))), (12, .p 2 0)] aZ cv fun gd cw => ?_
 clear cv
 refine of_op (wpOp_store aZ cw (oi := 2) (cs := [.string (bs ah), .slice none 0 0, .map none]) kz fun ge ez aE cy => ?_)
 clear cw aZ
 refine wpOps_nil (then_normal ?_)
 refine wp_seq ?_
 refine go_seq_region [0, 1, 2, 3] kz ?_
 refine go_rn [0] [1, 2, 3] [(1, .p 0 0), (2, .p 1 0), (3, .p 2 0), (13, .v (.agg #[.int .i64 n1, .slice A6 s2.length c7, .bool b3, .slice A8 l4.length c9, .slice ac u5.length ae]))] aE cy fun gf cz => ?_
 clear cy
 refine of_op (wpOp_call cz (f := 73) (vs := [.agg #[.int .i64 n1, .slice A6 s2.length c7, .bool b3, .slice A8 l4.length c9, .slice ac u5.length ae], .int .i64 1]) (d := 14) kz Tryz.call73 (iAt _ _ 1 _ _ (ht.move aE.step nilM aE.imm)) ?_)
 rintro e_ gg ⟨eA, rfl, de, aG⟩
 have cA := de.move aG nilM (fun b o h_ hb_ => aE.laid (G := F) aG b o (.inl h_) (Nat.lt_of_lt_of_le hb_ aG.size))
 obtain ⟨gh, gi, db, gj, gk, gl, gm, eB, eC, eD, eE, dM, bh, aH, df, dg, eF, eG⟩ := cA.open_
 rw [aH] at cA
 have dh := df.small
 have di := dg.small
 rw [aH]
 refine ⟨_, rfl, fun eH bi => ?_⟩
 have ab := aE.next_nil aG
 have dN := aE.frN aG
 clear cz
 refine go_rn [2, 3] [] [(1, .p 0 0), (2, .p 1 0), (3, .p 2 0), (16, .v (.bool (!db)))] ab bi fun eI ax => ?_
 clear bi
 refine wpOps_nil (then_normal ?_)
 refine wp_join (Mid := fun a_ w_ => ∃ (A_ : Option Addr) (c_ : Nat) (f_ : Nat → DV), A_.isNone = Tree.null (Tree.at_ (Tree.mk n1 s2 b3 l4 u5) 1) ∧ LstR w_ (Imm F w w_ [⟨bf, 0, [.int .i64 n1, .slice A6 s2.length c7, .bool b3, .slice A8 l4.length c9, .slice ac u5.length ae], true⟩, ⟨au, 0, [.string ByteArray.empty, .slice none 0 0, .map none], true⟩, ⟨ag, 0, [.string (bs ah), .slice A_ ((lst (Tree.at_ (Tree.mk n1 s2 b3 l4 u5) 1)).length) c_, .map none], true⟩] []) 1 (fun d => [.int .i32 d.n]) okNone (fun d t => d.n = IntKind.i32.wrap t.N) A_ c_ f_ (lst (Tree.at_ (Tree.mk n1 s2 b3 l4 u5) 1)) ∧ LInv ab 55 [⟨bf, 0, [.int .i64 n1, .slice A6 s2.length c7, .bool b3, .slice A8 l4.length c9, .slice ac u5.length ae], true⟩, ⟨au, 0, [.string ByteArray.empty, .slice none 0 0, .map none], true⟩, ⟨ag, 0, [.string (bs ah), .slice A_ ((lst (Tree.at_ (Tree.mk n1 s2 b3 l4 u5) 1)).length) c_, .map none], true⟩] [] [(1, .p 0 0), (2, .p 1 0), (3, .p 2 0)] a_ w_) ?_ ?_
 ·
  refine cond_of ax (b := !db) kz (fun aI => ?_) (fun aI => ?_)
  ·
   have hnull_ : Tree.null (Tree.at_ (Tree.mk n1 s2 b3 l4 u5) 1) = false := by rw [bh]; show db = false; simpa using aI
   refine go_seq_region [0, 1, 2, 3, 4, 5, 6] kz ?_
   refine go_rn [0] [1, 2, 3, 4, 5, 6] [(1, .p 0 0), (2, .p 1 0), (3, .p 2 0), (17, .v (.agg #[.int .i64 n1, .slice A6 s2.length c7, .bool b3, .slice A8 l4.length c9, .slice ac u5.length ae]))] ab ax fun eJ bj => ?_
   clear ax
   refine of_op (wpOp_call bj (f := 73) (vs := [.agg #[.int .i64 n1, .slice A6 s2.length c7, .bool b3, .slice A8 l4.length c9, .slice ac u5.length ae], .int .i64 1]) (d := 18) kz Tryz.call73 (iAt _ _ 1 _ _ (ht.move ab.step nilM ab.imm)) ?_)
   rintro e_ eK ⟨dO, rfl, cB, ai⟩
   have bk := cB.move ai nilM (fun b o h_ hb_ => ab.laid (G := F) ai b o (.inl h_) (Nat.lt_of_lt_of_le hb_ ai.size))
   obtain ⟨eL, eM, eN, av, eO, eP, eQ, eR, eS, eT, eU, dP, cC, aJ, dj, dl, eV, eW⟩ := bk.open_
   rw [aJ] at bk
   have dp := dj.small
   have dq := dl.small
   rw [aJ]
   refine ⟨_, rfl, fun eX bn => ?_⟩
   have aK := ab.next_nil ai
   have cD := ab.frN ai
   clear bj
   have hl3_ : lst (Tree.at_ (Tree.mk n1 s2 b3 l4 u5) 1) = av := by rw [lst_of hnull_, cC]; rfl
   have dQ : av.length ≤ 1000000 := by have h_ := cj1; rw [hl3_] at h_; exact h_
   refine go_rn [2, 3] [4, 5, 6] [(1, .p 0 0), (2, .p 1 0), (3, .p 2 0), (20, .v (.int .i64 ((av.length : Nat) : Int)))] aK bn fun eY bp => ?_
   clear bn
   refine of_op (wpOp_make0 aK bp (d := 21) (j := av.length) (t := 143) (e := 21) (size := 1) (bytes := 4) kz kz rfl (rfl) (by omega) fun bU eZ e5 dR dS cE aL bq => ?_)
   clear bp aK
   refine go_rn [5] [6] [(1, .p 0 0), (2, .p 1 0), (3, .p 2 0), (21, .v (.slice (some ⟨bU, 0, none⟩) 0 av.length)), (22, .p 2 1)] aL bq fun e6 br => ?_
   clear bq
   refine of_op (wpOp_store aL br (oi := 2) (cs := [.string (bs ah), .slice (some ⟨bU, 0, none⟩) 0 av.length, .map none]) kz fun e7 cG af bt => ?_)
   clear br aL
   refine wpOps_nil (then_normal ?_)
   refine go_seq_region [0, 1, 2, 3, 4] kz ?_
   refine go_rn [0] [1, 2, 3, 4] [(1, .p 0 0), (2, .p 1 0), (3, .p 2 0), (23, .v (.agg #[.int .i64 n1, .slice A6 s2.length c7, .bool b3, .slice A8 l4.length c9, .slice ac u5.length ae]))] af bt fun e9 bu => ?_
   clear bt
   refine of_op (wpOp_call bu (f := 73) (vs := [.agg #[.int .i64 n1, .slice A6 s2.length c7, .bool b3, .slice A8 l4.length c9, .slice ac u5.length ae], .int .i64 1]) (d := 24) kz Tryz.call73 (iAt _ _ 1 _ _ (ht.move af.step nilM af.imm)) ?_)
   rintro e_ fa ⟨dT, rfl, cH, aj⟩
   have bv := cH.move aj nilM (fun b o h_ hb_ => af.laid (G := F) aj b o (.inl h_) (Nat.lt_of_lt_of_le hb_ aj.size))
   obtain ⟨fb, fc, fe, aa, ff, fg, fh, ak, aw, fi, fj, dU, cI, aM, dr, cJ, dt, fk⟩ := bv.open_
   rw [aM] at bv
   have du := dr.small
   have dv := cJ.small
   rw [aM]
   refine ⟨_, rfl, fun fl bw => ?_⟩
   have aN := af.next_nil aj
   have cK := af.frN aj
   clear bu
   have hl3_ : lst (Tree.at_ (Tree.mk n1 s2 b3 l4 u5) 1) = aa := by rw [lst_of hnull_, cI]; rfl
   have dV : aa.length ≤ 1000000 := by have h_ := cj1; rw [hl3_] at h_; exact h_
   refine go_rn [2, 3, 4] [] [(1, .p 0 0), (2, .p 1 0), (3, .p 2 0), (25, .v (.slice ak aa.length aw)), (26, .v (.int .i64 ((aa.length : Nat) : Int))), (27, .v (.int .i64 0))] aN bw fun fm bz => ?_
   clear bw
   refine wpOps_nil (then_normal ?_)
   refine wp_block ?_
   refine wp_loop_ghost (fun n_ a_ w_ => ∃ (k : Nat) (A_ : Option Addr) (c_ : Nat) (xs_ : List Value) (ds_ : List DV), n_ = aa.length - k ∧ k ≤ aa.length ∧ (A_.isNone = false) ∧ (RowL w_ (Imm F w w_ [⟨bf, 0, [.int .i64 n1, .slice A6 s2.length c7, .bool b3, .slice A8 l4.length c9, .slice ac u5.length ae], true⟩, ⟨au, 0, [.string ByteArray.empty, .slice none 0 0, .map none], true⟩, ⟨ag, 0, [.string (bs ah), .slice A_ k c_, .map none], true⟩] [⟨A_, c_, 21, 1, k, xs_⟩]) 1 (fun d => [.int .i32 d.n]) okNone (fun d t => d.n = IntKind.i32.wrap t.N) xs_ ds_ (aa.take k)) ∧ LInv aN 55 [⟨bf, 0, [.int .i64 n1, .slice A6 s2.length c7, .bool b3, .slice A8 l4.length c9, .slice ac u5.length ae], true⟩, ⟨au, 0, [.string ByteArray.empty, .slice none 0 0, .map none], true⟩, ⟨ag, 0, [.string (bs ah), .slice A_ k c_, .map none], true⟩] [⟨A_, c_, 21, 1, k, xs_⟩] [(1, .p 0 0), (2, .p 1 0), (3, .p 2 0), (25, .v (.slice ak aa.length aw)), (26, .v (.int .i64 ((aa.length : Nat) : Int))), (27, .v (.int .i64 ((k : Nat) : Int)))] a_ w_) (aa.length) ⟨0, (some ⟨bU, 0, none⟩), av.length, [], [], by omega, by omega, rfl, RowL.nil mvNone, bz.pk, aN, Fr.refl _ _ _⟩ ?_
   clear bz
   rintro fo fp fq ⟨k, A_, c_, xs_, ds_, dW, dX, hA, hR, bA, al, ay⟩
   refine go_sp [(1, .p 0 0), (2, .p 1 0), (3, .p 2 0), (25, .v (.slice ak aa.length aw)), (26, .v (.int .i64 ((aa.length : Nat) : Int))), (27, .v (.int .i64 ((k : Nat) : Int))), (28, .v (.bool (decide (((k : Nat) : Int) < ((aa.length : Nat) : Int)))))] al bA fun fr aA => ?_
   clear bA
   refine wp_seq ?_
   refine cond_of aA (b := decide (((k : Nat) : Int) < ((aa.length : Nat) : Int))) kz (fun aO => ?_) (fun aO => ?_)
   ·
    have dY := of_decide_eq_true aO
    refine wp_skip ?_
    refine then_normal ?_
    refine wp_seq ?_
    refine wp_block ?_
    refine go_seq_region [0, 1, 2, 3] kz ?_
    obtain ⟨dw, dx, cL, dZ, aP⟩ := Slots.get cJ (i := k) (by omega)
    obtain ⟨dy, bB⟩ : ∃ x, aa[k]? = some x := ⟨_, List.getElem?_eq_getElem (by omega)⟩
    have bC := dt k dy bB
    obtain ⟨am, bV, bW, bX, bY, bZ, b0, b5, b6, b8, ca, d4, rfl, aQ, dz, dA, ft, fu⟩ := bC.open_
    rw [aQ] at bC
    have dB := dz.small
    have dC := dA.small
    rw [aQ] at aP
    refine of_op (wpOp_index aA (t := 36) (A := ak) (m := aa.length) (q := ((k : Nat) : Int)) (d := 29) kz (e := 39) (size := 5) (bytes := 88) kz cL rfl (by omega) fun fv bD => ?_)
    clear aA
    refine of_op (wpOp_load bD (t := 39) (b := dw) (o := dx + k * 5) (d := 30) kz (cs := [.int .i64 am, .slice bZ bV.length b0, .bool bW, .slice b5 bX.length b6, .slice b8 bY.length ca]) (v := .agg #[.int .i64 am, .slice bZ bV.length b0, .bool bW, .slice b5 bX.length b6, .slice b8 bY.length ca]) kz (AtF.move aP ay.step immM ay.to').at_ fun fw bE => ?_)
    clear bD
    refine of_op (wpOp_alloc al bE (d := 5) (cs := [.int .i64 0, .slice none 0 0, .bool false, .slice none 0 0, .slice none 0 0]) kz fun fx fy fz d5 d6 aR bF bG => ?_)
    clear bE al
    refine of_op (wpOp_store bF bG (oi := 3) (cs := [.int .i64 am, .slice bZ bV.length b0, .bool bW, .slice b5 bX.length b6, .slice b8 bY.length ca]) kz fun fA aS aT bH => ?_)
    clear bG bF
    refine wpOps_nil (then_normal ?_)
    refine go_region [0, 1, 2, 3, 4, 5, 6, 7, 8] kz ?_
    refine go_rn [0, 1, 2, 3, 4] [5, 6, 7, 8] [(1, .p 0 0), (2, .p 1 0), (3, .p 2 0), (25, .v (.slice ak aa.length aw)), (26, .v (.int .i64 ((aa.length : Nat) : Int))), (27, .v (.int .i64 ((k : Nat) : Int))), (32, .v (.slice A_ k c_)), (35, .v (.int .i32 (IntKind.i32.wrap am)))] aT bH fun fB bI => ?_
    clear bH
    refine wpOps_push aT bI (k := 0) (e := 21) (size := 1) (len := 1) (cs := [.int .i32 (IntKind.i32.wrap am)]) (d1 := 36) (d := 37) kz (t := 143) (bytes := 4) kz (fun _ => by kernel_rfl) rfl kz (by omega) fun ba bd fC fD aU aV ⟨_, bJ⟩ => ?_
    clear bI aT
    refine go_rn [7] [8] [(1, .p 0 0), (2, .p 1 0), (3, .p 2 0), (25, .v (.slice ak aa.length aw)), (26, .v (.int .i64 ((aa.length : Nat) : Int))), (27, .v (.int .i64 ((k : Nat) : Int))), (37, .v (.slice ba (k + 1) bd)), (38, .p 2 1)] aV bJ fun fE bK => ?_
    clear bJ
    refine of_op (wpOp_store aV bK (oi := 2) (cs := [.string (bs ah), .slice ba (k + 1) bd, .map none]) kz fun fF aW bL bM => ?_)
    clear bK aV
    refine wpOps_nil ?_
    refine block_normal ?_
    refine then_normal ?_
    refine go_region [0, 1] kz ?_
    refine go_rn [0, 1] [] [(1, .p 0 0), (2, .p 1 0), (3, .p 2 0), (25, .v (.slice ak aa.length aw)), (26, .v (.int .i64 ((aa.length : Nat) : Int))), (27, .v (.int .i64 (IntKind.i64.wrap (((k : Nat) : Int) + 1))))] bL bM fun fG cM => ?_
    clear bM
    refine wpOps_nil (then_normal ?_)
    obtain ⟨bN, bO, aX⟩ := bL.cutB cM 3 [⟨bf, 0, [.int .i64 n1, .slice A6 s2.length c7, .bool b3, .slice A8 l4.length c9, .slice ac u5.length ae], true⟩, ⟨au, 0, [.string ByteArray.empty, .slice none 0 0, .map none], true⟩, ⟨ag, 0, [.string (bs ah), .slice ba (k + 1) bd, .map none], true⟩] [(1, .p 0 0), (2, .p 1 0), (3, .p 2 0), (25, .v (.slice ak aa.length aw)), (26, .v (.int .i64 ((aa.length : Nat) : Int))), (27, .v (.int .i64 (IntKind.i64.wrap (((k : Nat) : Int) + 1))))]
    have cN : IntKind.i64.wrap (((k : Nat) : Int) + 1) = ((k + 1 : Nat) : Int) := wrap_succ (by omega)
    rw [cN] at bN
    exact ⟨aa.length - (k + 1), by omega, k + 1, ba, bd, xs_ ++ [Value.int .i32 (IntKind.i32.wrap am)], (ds_ ++ [(dvN (IntKind.i32.wrap am))]), rfl, by omega, own_some bO (k := 0) rfl (by omega), RowL.snoc (d := (dvN (IntKind.i32.wrap am))) (hR.move ((((aR.trans aS).trans aU).trans aW).trans aX).step immM ((((aR.trans aS).trans aU).trans aW).trans aX).to') bB rfl trivial rfl, bN.pk, bO, (((((ay.trans aR).trans aS).trans aU).trans aW).trans aX)⟩
   ·
    have d7 := of_decide_eq_false aO
    refine wp_exit ?_
    refine then_exit ?_
    refine then_exit ?_
    refine block_exit ?_
    refine then_normal ?_
    have hk_ : k = (lst (Tree.at_ (Tree.mk n1 s2 b3 l4 u5) 1)).length := by rw [hl3_]; omega
    subst k
    have hL_ := LstR.of al (k := 0) (rs' := []) rfl hR (by rw [hl3_]) (fun d => allOne_ok kz) (by omega)
    rw [← hl3_] at hL_
    obtain ⟨cO, cP⟩ := al.cutR 0 []
    exact ⟨_, _, _, by rw [hnull_]; exact hA, hL_, aA.pk, cO, (((((cD.trans cE).trans cG).trans cK).trans ay).trans cP)⟩
  ·
   refine wp_skip ?_
   refine then_normal ?_
   have hn_ : Tree.null (Tree.at_ (Tree.mk n1 s2 b3 l4 u5) 1) = true := by rw [bh]; show db = true; simpa using aI
   have hl_ := lst_no hn_
   exact ⟨none, 0, fun _ => dv0, by rw [hn_]; rfl, by rw [hl_]; exact LstR.nil mvNone, by rw [hl_]; exact ⟨ax.pk, ab, Fr.refl _ _ _⟩⟩
 rintro fH dD ⟨ao, ap, dE, cQ, bP, bQ, ar, d8⟩
 refine wp_seq ?_
 refine go_sp [(2, .p 1 0), (3, .p 2 0), (41, .v (.slice ac u5.length ae)), (42, .v (.int .i64 ((u5.length : Nat) : Int))), (43, .v (.int .i64 0))] ar bQ fun fI cR => ?_
 clear bQ
 refine wp_block ?_
 have cS := new_of ar 2 rfl kz
 have cT := cR.recast 2 (.p 1 0) (.v (.pointer (some ⟨au, 0, none⟩))) rfl rfl trivial
 have cV := cT.recast 3 (.p 2 0) (.v (.pointer (some ⟨ag, 0, none⟩))) rfl rfl trivial
 have cW := (cV.pick (ks := [2, 3, 41, 42, 43]) (env' := [(2, .v (.pointer (some ⟨au, 0, none⟩))), (3, .v (.pointer (some ⟨ag, 0, none⟩))), (41, .v (.slice ac u5.length ae)), (42, .v (.int .i64 ((u5.length : Nat) : Int))), (43, .v (.int .i64 0))]) kz).cutTb 0 kz
 refine wp_loop_ghost (fun q a_ w_ => ∃ (j : Nat) (m_ : Option Nat), q = u5.length - j ∧ j ≤ u5.length ∧ EnvOk 55 [] [(2, .v (.pointer (some ⟨au, 0, none⟩))), (3, .v (.pointer (some ⟨ag, 0, none⟩))), (41, .v (.slice ac u5.length ae)), (42, .v (.int .i64 ((u5.length : Nat) : Int))), (43, .v (.int .i64 ((j : Nat) : Int)))] a_ ∧ TL w dD w_ F ag 2 [.string (bs ah), .slice ao ((lst (Tree.at_ (Tree.mk n1 s2 b3 l4 u5) 1)).length) ap, .map none] m_ (u5.take j)) u5.length
  ⟨0, none, by omega, by omega, cW, TL.start ar 2 rfl rfl⟩ ?_
 rintro q aq wq ⟨j, m_, rfl, hj, hE2, hT⟩
 have hWq := WOk.start wq Nil
 refine go_sp [(2, .v (.pointer (some ⟨au, 0, none⟩))), (3, .v (.pointer (some ⟨ag, 0, none⟩))), (41, .v (.slice ac u5.length ae)), (42, .v (.int .i64 ((u5.length : Nat) : Int))), (43, .v (.int .i64 ((j : Nat) : Int))), (44, .v (.bool (decide (((j : Nat) : Int) < ((u5.length : Nat) : Int)))))] hWq hE2 fun aq2 hE3 => wp_seq ?_
 refine cond_of hE3 (b := decide (((j : Nat) : Int) < ((u5.length : Nat) : Int))) kz (fun hc => ?_) (fun hc => ?_)
 ·have hlt : j < u5.length := by have := of_decide_eq_true hc; omega
  refine wp_skip (then_normal (wp_seq (wp_block ?_)))
  obtain ⟨⟨k, x⟩, hu⟩ : ∃ y, u5[j]? = some y := ⟨_, List.getElem?_eq_getElem hlt⟩
  obtain ⟨bb, bo, xA, xc, hA, hat, hxo, hk⟩ := tag_at dG hu
  refine go_seq_region [0, 1, 2, 3] kz ?_
  refine of_op (wpOp_index hE3 (t := 37) (e := 64) (size := 2) (bytes := 32) (d := 45) (b := bb) (o := bo) (m := u5.length) (j := j) kz kz hA rfl hlt fun aq3 hE4 => ?_)
  refine of_op (wpOp_load hE4 (t := 64) (d := 46) (cs := [.int .u32 k, .slice xA x.length xc]) (v := .agg #[.int .u32 k, .slice xA x.length xc]) kz kz (hat.step_nil hT.step) fun aq4 hE5 => ?_)
  refine of_op (wpOp_alloc hWq hE5 (d := 7) (cs := [.int .u32 0, .slice none 0 0]) kz fun bx aq5 wq2 hbx hbx0 hFq2 hWq2 hE6 => ?_)
  refine of_op (wpOp_store hWq2 hE6 (oi := 0) (cs := [.int .u32 k, .slice xA x.length xc]) kz fun wq3 hFq3 hWq3 hE7 => wpOps_nil (then_normal ?_))
  refine go_region [0, 1, 2, 3, 4, 5] kz (go_rn [0, 1, 2, 3, 4] [5] [(2, .v (.pointer (some ⟨au, 0, none⟩))), (3, .v (.pointer (some ⟨ag, 0, none⟩))), (41, .v (.slice ac u5.length ae)), (42, .v (.int .i64 ((u5.length : Nat) : Int))), (43, .v (.int .i64 ((j : Nat) : Int))), (47, .v (.pointer (some ⟨ag, 2, none⟩))), (49, .v (.int .u32 k)), (51, .v (.slice xA x.length xc))] hWq3 hE7 fun aq6 hE8 => ?_)
  refine of_op (wpOp_call hE8 (f := 75) (vs := [.pointer (some ⟨ag, 2, none⟩), .int .u32 k, .slice xA x.length xc]) (d := 52) kz Tryz.call75 ((hT.move hWq3.step).set cS kz hsort hu hxo hk) ?_)
  rintro e_ wq5 ⟨rfl, hS5, r, hT5⟩
  refine ⟨_, rfl, fun aq7 hE9 => wpOps_nil (block_normal (then_normal ?_))⟩
  have dF := (hE9.pick (ks := [2, 3, 41, 42, 43]) (env' := [(2, .v (.pointer (some ⟨au, 0, none⟩))), (3, .v (.pointer (some ⟨ag, 0, none⟩))), (41, .v (.slice ac u5.length ae)), (42, .v (.int .i64 ((u5.length : Nat) : Int))), (43, .v (.int .i64 ((j : Nat) : Int)))]) kz).cutTb 0 kz
  refine go_region [0, 1] kz (go_rn [0, 1] [] [(2, .v (.pointer (some ⟨au, 0, none⟩))), (3, .v (.pointer (some ⟨ag, 0, none⟩))), (41, .v (.slice ac u5.length ae)), (42, .v (.int .i64 ((u5.length : Nat) : Int))), (43, .v (.int .i64 (IntKind.i64.wrap (((j : Nat) : Int) + 1))))] (WOk.start wq5 Nil) dF fun aq8 cX => wpOps_nil (then_normal ?_))
  rw [wrap_succ (by omega)] at cX
  exact ⟨u5.length - (j + 1), by omega, j + 1, some r, rfl, by omega, cX, hT5⟩
 ·obtain rfl : j = u5.length := by have := of_decide_eq_false hc; omega
  refine wp_exit (then_exit (then_exit (block_exit ?_)))
  rw [List.take_length] at hT
  obtain ⟨aB, aY⟩ := hT.tab ar 2 [⟨bf, 0, [.int .i64 n1, .slice A6 s2.length c7, .bool b3, .slice A8 l4.length c9, .slice ac u5.length ae], true⟩, ⟨au, 0, [.string ByteArray.empty, .slice none 0 0, .map none], true⟩, ⟨ag, 0, [.string (bs ah), .slice ao ((lst (Tree.at_ (Tree.mk n1 s2 b3 l4 u5) 1)).length) ap, .map m_], true⟩] rfl
  have cY := hT.mapImm ar aB aY hsort (tags_range dG)
  have cZ := (hE3.retable [⟨bf, 0, [.int .i64 n1, .slice A6 s2.length c7, .bool b3, .slice A8 l4.length c9, .slice ac u5.length ae], true⟩, ⟨au, 0, [.string ByteArray.empty, .slice none 0 0, .map none], true⟩, ⟨ag, 0, [.string (bs ah), .slice ao ((lst (Tree.at_ (Tree.mk n1 s2 b3 l4 u5) 1)).length) ap, .map m_], true⟩]).recast 2 (.v (.pointer (some ⟨au, 0, none⟩))) (.p 1 0) rfl rfl (Nat.le_of_ble_eq_true (n := 2) rfl)
  have c5 := cZ.recast 3 (.v (.pointer (some ⟨ag, 0, none⟩))) (.p 2 0) rfl rfl (Nat.le_of_ble_eq_true (n := 3) rfl)
  have bR : EnvOk 55 [⟨bf, 0, [.int .i64 n1, .slice A6 s2.length c7, .bool b3, .slice A8 l4.length c9, .slice ac u5.length ae], true⟩, ⟨au, 0, [.string ByteArray.empty, .slice none 0 0, .map none], true⟩, ⟨ag, 0, [.string (bs ah), .slice ao ((lst (Tree.at_ (Tree.mk n1 s2 b3 l4 u5) 1)).length) ap, .map m_], true⟩] [(2, .p 1 0), (3, .p 2 0)] _ := c5.pk
  refine then_normal ?_
  refine go_seq_region [0, 1] kz ?_
  refine go_rn [0] [1] [(2, .p 1 0), (54, .v (.agg #[.string (bs ah), .slice ao ((lst (Tree.at_ (Tree.mk n1 s2 b3 l4 u5) 1)).length) ap, .map m_]))] aB bR fun fJ bS => ?_
  clear bR
  refine of_op (wpOp_store aB bS (oi := 1) (cs := [.string (bs ah), .slice ao ((lst (Tree.at_ (Tree.mk n1 s2 b3 l4 u5) 1)).length) ap, .map m_]) kz fun fK aC bT da => ?_)
  clear bS aB
  refine wpOps_nil (then_normal ?_)
  refine wp_ret ?_
  refine leave da bT.cells (v := .agg #[.string (bs ah), .slice ao ((lst (Tree.at_ (Tree.mk n1 s2 b3 l4 u5) 1)).length) ap, .map m_]) kz ?_
  refine ⟨dvP m_ u5 [dvS (bs ah), dvL ao (lst (Tree.at_ (Tree.mk n1 s2 b3 l4 u5) 1)).length ap dE], rfl, ?_, ?_, bT.step⟩
  ·unfold okTaskIDs
   exact ⟨by show ByteArray.size (bs ah) ≤ 1000000; rw [bs_size]; have h_ := cj0; rw [cq] at h_; exact h_, ⟨((bP.move (aY.trans aC).step immM (aY.trans aC).to').move (Step.refl _ Nil) nilM immOut).slots, cj1, fun _ _ => trivial⟩, ((cY.move aC.step immM aC.to').move (Step.refl _ Nil) nilM immOut), cU.2.1, cU.2.2, trivial⟩
  ·unfold relTaskIDs
   exact ⟨by rw [cq]; rfl, ⟨cQ, rfl, bP.rel_⟩, rfl, trivial⟩
set_option maxHeartbeats 4000000 in
theorem eEndpoint (ct : List Value) (t : Tree) (w : World) (F : Nat → Nat → Prop) (ht : TreeR w F ct t) (hc : canEndpoint t) :
  Calls Tryz.prog 140 #[.agg ct.toArray] w (fun e w' => ∃ D : DV, e = .returned (.agg #[.string ((D.f 0).s), .int .u16 ((D.f 1).n), .map D.m]) ∧ okEndpoint w' (Fp F w) D ∧ relEndpoint D t ∧ Step w w' Nil) := by
 obtain ⟨n1, s2, b3, l4, u5, A6, c7, A8, c9, ab, ac, bF, rfl, rfl, bG, bH, cl, bu⟩ := ht.open_
 have bv := bG.small
 have bw := bH.small
 unfold canEndpoint at hc
 obtain ⟨cj0, cj1, cU, _⟩ := hc
 have hsort := cU.1
 replace hsort : Sorted u5 := hsort
 have hul : u5.length ≤ 1000000 := cU.2.1
 refine enter (n := 31) Tryz.func140 rfl Tryz.ntmps140 kz fun a hE => ?_
 have hW := WOk.start w Nil
 refine go_seq_region [0, 1] kz ?_
 refine of_op (wpOp_box hW hE (d := 1) (cs := [.int .i64 n1, .slice A6 s2.length c7, .bool b3, .slice A8 l4.length c9, .slice ab u5.length ac]) kz fun bh cm cq bI bJ bK aD aE => ?_)
 clear hE hW
 refine of_op (wpOp_alloc aD aE (d := 2) (cs := [.string ByteArray.empty, .int .u16 0, .map none]) kz fun aj cr cu bL bM bN aF aG => ?_)
 clear aE aD
 refine wpOps_nil (then_normal ?_)
 refine go_seq_region [0] kz ?_
 refine of_op (wpOp_alloc aF aG (d := 3) (cs := [.string ByteArray.empty, .int .u16 0, .map none]) kz fun ae cv cw bO bP bQ ag aH => ?_)
 clear aG aF
 refine wpOps_nil (then_normal ?_)
 refine go_seq_region [0, 1, 2, 3, 4, 5] kz ?_
 refine go_rn [0] [1, 2, 3, 4, 5] [(1, .p 0 0), (2, .p 1 0), (3, .p 2 0), (6, .v (.agg #[.int .i64 n1, .slice A6 s2.length c7, .bool b3, .slice A8 l4.length c9, .slice ab u5.length ac]))] ag aH fun cy aI => ?_
 clear aH
 refine of_op (wpOp_call aI (f := 73) (vs := [.agg #[.int .i64 n1, .slice A6 s2.length c7, .bool b3, .slice A8 l4.length c9, .slice ab u5.length ac], .int .i64 0]) (d := 7) kz Tryz.call73 (iAt _ _ 0 _ _ (ht.move ag.step nilM ag.imm)) ?_)
 rintro e_ cz ⟨bR, rfl, bi, ak⟩
 have aJ := bi.move ak nilM (fun b o h_ hb_ => ag.laid (G := F) ak b o (.inl h_) (Nat.lt_of_lt_of_le hb_ ak.size))
 obtain ⟨cA, ah, cB, cC, cD, bS, bT, cE, cG, cH, cI, bU, aK, au, bz, bV, cJ, cK⟩ := aJ.open_
 rw [au] at aJ
 have bA := bz.small
 have bB := bV.small
 rw [au]
 refine ⟨_, rfl, fun cL aL => ?_⟩
 have ar := ag.next_nil ak
 have bW := ag.frN ak
 clear aI
 refine go_rn [2] [3, 4, 5] [(1, .p 0 0), (2, .p 1 0), (3, .p 2 0), (8, .v (.slice bS ah.length bT))] ar aL fun cM aM => ?_
 clear aL
 refine of_op (wpOp_conv aM (src := 22) (dst := 9) (e := 5) (d := 9) kz kz kz kz bz fun cN aN => ?_)
 clear aM
 refine go_rn [4] [5] [(1, .p 0 0), (2, .p 1 0), (3, .p 2 0), (9, .v (.string (bs ah))), (10, .p 2 0)] ar aN fun cO aO => ?_
 clear aN
 refine of_op (wpOp_store ar aO (oi := 2) (cs := [.string (bs ah), .int .u16 0, .map none]) kz fun cP bX ai aP => ?_)
 clear aO ar
 refine wpOps_nil (then_normal ?_)
 refine go_seq_region [0, 1, 2, 3, 4, 5] kz ?_
 refine go_rn [0] [1, 2, 3, 4, 5] [(1, .p 0 0), (2, .p 1 0), (3, .p 2 0), (11, .v (.agg #[.int .i64 n1, .slice A6 s2.length c7, .bool b3, .slice A8 l4.length c9, .slice ab u5.length ac]))] ai aP fun cQ aQ => ?_
 clear aP
 refine of_op (wpOp_call aQ (f := 73) (vs := [.agg #[.int .i64 n1, .slice A6 s2.length c7, .bool b3, .slice A8 l4.length c9, .slice ab u5.length ac], .int .i64 1]) (d := 12) kz Tryz.call73 (iAt _ _ 1 _ _ (ht.move ai.step nilM ai.imm)) ?_)
 rintro e_ cR ⟨bY, rfl, bj, al⟩
 have aR := bj.move al nilM (fun b o h_ hb_ => ai.laid (G := F) al b o (.inl h_) (Nat.lt_of_lt_of_le hb_ al.size))
 obtain ⟨ap, cS, cT, cV, cW, cX, cY, bZ, b0, b5, b6, bC, aS, am, bk, bn, b8, ca⟩ := aR.open_
 rw [am] at aR
 have bp := bk.small
 have bq := bn.small
 rw [am]
 refine ⟨_, rfl, fun cb av => ?_⟩
 have ao := ai.next_nil al
 have bD := ai.frN al
 clear aQ
 refine go_rn [2, 3, 4] [5] [(1, .p 0 0), (2, .p 1 0), (3, .p 2 0), (14, .v (.int .u16 (IntKind.u16.wrap ap))), (15, .p 2 1)] ao av fun cc aw => ?_
 clear av
 refine of_op (wpOp_store ao aw (oi := 2) (cs := [.string (bs ah), .int .u16 (IntKind.u16.wrap ap), .map none]) kz fun br bE aa ax => ?_)
 clear aw ao
 refine wpOps_nil (then_normal ?_)
 refine wp_seq ?_
 refine go_sp [(2, .p 1 0), (3, .p 2 0), (17, .v (.slice ab u5.length ac)), (18, .v (.int .i64 ((u5.length : Nat) : Int))), (19, .v (.int .i64 0))] aa ax fun cd aT => ?_
 clear ax
 refine wp_block ?_
 have aU := new_of aa 2 rfl kz
 have aV := aT.recast 2 (.p 1 0) (.v (.pointer (some ⟨aj, 0, none⟩))) rfl rfl trivial
 have aW := aV.recast 3 (.p 2 0) (.v (.pointer (some ⟨ae, 0, none⟩))) rfl rfl trivial
 have aX := (aW.pick (ks := [2, 3, 17, 18, 19]) (env' := [(2, .v (.pointer (some ⟨aj, 0, none⟩))), (3, .v (.pointer (some ⟨ae, 0, none⟩))), (17, .v (.slice ab u5.length ac)), (18, .v (.int .i64 ((u5.length : Nat) : Int))), (19, .v (.int .i64 0))]) kz).cutTb 0 kz
 refine wp_loop_ghost (fun q a_ w_ => ∃ (j : Nat) (m_ : Option Nat), q = u5.length - j ∧ j ≤ u5.length ∧ EnvOk 31 [] [(2, .v (.pointer (some ⟨aj, 0, none⟩))), (3, .v (.pointer (some ⟨ae, 0, none⟩))), (17, .v (.slice ab u5.length ac)), (18, .v (.int .i64 ((u5.length : Nat) : Int))), (19, .v (.int .i64 ((j : Nat) : Int)))] a_ ∧ TL w br w_ F ae 2 [.string (bs ah), .int .u16 (IntKind.u16.wrap ap), .map none] m_ (u5.take j)) u5.length
  ⟨0, none, by omega, by omega, aX, TL.start aa 2 rfl rfl⟩ ?_
 rintro q aq wq ⟨j, m_, rfl, hj, hE2, hT⟩
 have hWq := WOk.start wq Nil
 refine go_sp [(2, .v (.pointer (some ⟨aj, 0, none⟩))), (3, .v (.pointer (some ⟨ae, 0, none⟩))), (17, .v (.slice ab u5.length ac)), (18, .v (.int .i64 ((u5.length : Nat) : Int))), (19, .v (.int .i64 ((j : Nat) : Int))), (20, .v (.bool (decide (((j : Nat) : Int) < ((u5.length : Nat) : Int)))))] hWq hE2 fun aq2 hE3 => wp_seq ?_
 refine cond_of hE3 (b := decide (((j : Nat) : Int) < ((u5.length : Nat) : Int))) kz (fun hc => ?_) (fun hc => ?_)
 ·have hlt : j < u5.length := by have := of_decide_eq_true hc; omega
  refine wp_skip (then_normal (wp_seq (wp_block ?_)))
  obtain ⟨⟨k, x⟩, hu⟩ : ∃ y, u5[j]? = some y := ⟨_, List.getElem?_eq_getElem hlt⟩
  obtain ⟨bb, bo, xA, xc, hA, hat, hxo, hk⟩ := tag_at bu hu
  refine go_seq_region [0, 1, 2, 3] kz ?_
  refine of_op (wpOp_index hE3 (t := 37) (e := 64) (size := 2) (bytes := 32) (d := 21) (b := bb) (o := bo) (m := u5.length) (j := j) kz kz hA rfl hlt fun aq3 hE4 => ?_)
  refine of_op (wpOp_load hE4 (t := 64) (d := 22) (cs := [.int .u32 k, .slice xA x.length xc]) (v := .agg #[.int .u32 k, .slice xA x.length xc]) kz kz (hat.step_nil hT.step) fun aq4 hE5 => ?_)
  refine of_op (wpOp_alloc hWq hE5 (d := 5) (cs := [.int .u32 0, .slice none 0 0]) kz fun bx aq5 wq2 hbx hbx0 hFq2 hWq2 hE6 => ?_)
  refine of_op (wpOp_store hWq2 hE6 (oi := 0) (cs := [.int .u32 k, .slice xA x.length xc]) kz fun wq3 hFq3 hWq3 hE7 => wpOps_nil (then_normal ?_))
  refine go_region [0, 1, 2, 3, 4, 5] kz (go_rn [0, 1, 2, 3, 4] [5] [(2, .v (.pointer (some ⟨aj, 0, none⟩))), (3, .v (.pointer (some ⟨ae, 0, none⟩))), (17, .v (.slice ab u5.length ac)), (18, .v (.int .i64 ((u5.length : Nat) : Int))), (19, .v (.int .i64 ((j : Nat) : Int))), (23, .v (.pointer (some ⟨ae, 2, none⟩))), (25, .v (.int .u32 k)), (27, .v (.slice xA x.length xc))] hWq3 hE7 fun aq6 hE8 => ?_)
  refine of_op (wpOp_call hE8 (f := 75) (vs := [.pointer (some ⟨ae, 2, none⟩), .int .u32 k, .slice xA x.length xc]) (d := 28) kz Tryz.call75 ((hT.move hWq3.step).set aU kz hsort hu hxo hk) ?_)
  rintro e_ wq5 ⟨rfl, hS5, r, hT5⟩
  refine ⟨_, rfl, fun aq7 hE9 => wpOps_nil (block_normal (then_normal ?_))⟩
  have bt := (hE9.pick (ks := [2, 3, 17, 18, 19]) (env' := [(2, .v (.pointer (some ⟨aj, 0, none⟩))), (3, .v (.pointer (some ⟨ae, 0, none⟩))), (17, .v (.slice ab u5.length ac)), (18, .v (.int .i64 ((u5.length : Nat) : Int))), (19, .v (.int .i64 ((j : Nat) : Int)))]) kz).cutTb 0 kz
  refine go_region [0, 1] kz (go_rn [0, 1] [] [(2, .v (.pointer (some ⟨aj, 0, none⟩))), (3, .v (.pointer (some ⟨ae, 0, none⟩))), (17, .v (.slice ab u5.length ac)), (18, .v (.int .i64 ((u5.length : Nat) : Int))), (19, .v (.int .i64 (IntKind.i64.wrap (((j : Nat) : Int) + 1))))] (WOk.start wq5 Nil) bt fun aq8 aY => wpOps_nil (then_normal ?_))
  rw [wrap_succ (by omega)] at aY
  exact ⟨u5.length - (j + 1), by omega, j + 1, some r, rfl, by omega, aY, hT5⟩
 ·obtain rfl : j = u5.length := by have := of_decide_eq_false hc; omega
  refine wp_exit (then_exit (then_exit (block_exit ?_)))
  rw [List.take_length] at hT
  obtain ⟨af, aZ⟩ := hT.tab aa 2 [⟨bh, 0, [.int .i64 n1, .slice A6 s2.length c7, .bool b3, .slice A8 l4.length c9, .slice ab u5.length ac], true⟩, ⟨aj, 0, [.string ByteArray.empty, .int .u16 0, .map none], true⟩, ⟨ae, 0, [.string (bs ah), .int .u16 (IntKind.u16.wrap ap), .map m_], true⟩] rfl
  have ba := hT.mapImm aa af aZ hsort (tags_range bu)
  have bd := (hE3.retable [⟨bh, 0, [.int .i64 n1, .slice A6 s2.length c7, .bool b3, .slice A8 l4.length c9, .slice ab u5.length ac], true⟩, ⟨aj, 0, [.string ByteArray.empty, .int .u16 0, .map none], true⟩, ⟨ae, 0, [.string (bs ah), .int .u16 (IntKind.u16.wrap ap), .map m_], true⟩]).recast 2 (.v (.pointer (some ⟨aj, 0, none⟩))) (.p 1 0) rfl rfl (Nat.le_of_ble_eq_true (n := 2) rfl)
  have bf := bd.recast 3 (.v (.pointer (some ⟨ae, 0, none⟩))) (.p 2 0) rfl rfl (Nat.le_of_ble_eq_true (n := 3) rfl)
  have ay : EnvOk 31 [⟨bh, 0, [.int .i64 n1, .slice A6 s2.length c7, .bool b3, .slice A8 l4.length c9, .slice ab u5.length ac], true⟩, ⟨aj, 0, [.string ByteArray.empty, .int .u16 0, .map none], true⟩, ⟨ae, 0, [.string (bs ah), .int .u16 (IntKind.u16.wrap ap), .map m_], true⟩] [(2, .p 1 0), (3, .p 2 0)] _ := bf.pk
  refine then_normal ?_
  refine go_seq_region [0, 1] kz ?_
  refine go_rn [0] [1] [(2, .p 1 0), (30, .v (.agg #[.string (bs ah), .int .u16 (IntKind.u16.wrap ap), .map m_]))] af ay fun ce aA => ?_
  clear ay
  refine of_op (wpOp_store af aA (oi := 1) (cs := [.string (bs ah), .int .u16 (IntKind.u16.wrap ap), .map m_]) kz fun cg aB aC bg => ?_)
  clear aA af
  refine wpOps_nil (then_normal ?_)
  refine wp_ret ?_
  refine leave bg aC.cells (v := .agg #[.string (bs ah), .int .u16 (IntKind.u16.wrap ap), .map m_]) kz ?_
  refine ⟨dvP m_ u5 [dvS (bs ah), dvN (IntKind.u16.wrap ap)], rfl, ?_, ?_, aC.step⟩
  ·unfold okEndpoint
   exact ⟨by show ByteArray.size (bs ah) ≤ 1000000; rw [bs_size]; have h_ := cj0; rw [aK] at h_; exact h_, trivial, ((ba.move aB.step immM aB.to').move (Step.refl _ Nil) nilM immOut), cU.2.1, cU.2.2, trivial⟩
  ·unfold relEndpoint
   exact ⟨by rw [aK]; rfl, by rw [aS]; rfl, rfl, trivial⟩
set_option maxHeartbeats 4000000 in
theorem eStreamsGroupHeartbeatResponsePartitionsByUserEndpointActivePartition (ct : List Value) (t : Tree) (w : World) (F : Nat → Nat → Prop) (ht : TreeR w F ct t) (hc : canStreamsGroupHeartbeatResponsePartitionsByUserEndpointActivePartition t) :
  Calls Tryz.prog 141 #[.agg ct.toArray] w (fun e w' => ∃ D : DV, e = .returned (.agg #[.string ((D.f 0).s), .slice ((D.f 1).A) ((D.f 1).l) ((D.f 1).c), .map D.m]) ∧ okStreamsGroupHeartbeatResponsePartitionsByUserEndpointActivePartition w' (Fp F w) D ∧ relStreamsGroupHeartbeatResponsePartitionsByUserEndpointActivePartition D t ∧ Step w w' Nil) := by
 obtain ⟨n1, s2, b3, l4, u5, A6, c7, A8, c9, ac, ae, d9, rfl, rfl, ea, eb, fL, dG⟩ := ht.open_
 have dH := ea.small
 have dI := eb.small
 unfold canStreamsGroupHeartbeatResponsePartitionsByUserEndpointActivePartition at hc
 obtain ⟨cj0, cj1, cU, _⟩ := hc
 have hsort := cU.1
 replace hsort : Sorted u5 := hsort
 have hul : u5.length ≤ 1000000 := cU.2.1
 refine enter (n := 55) Tryz.func141 rfl Tryz.ntmps141 kz fun a hE => ?_
 have hW := WOk.start w Nil
 refine go_seq_region [0, 1] kz ?_
 refine of_op (wpOp_box hW hE (d := 1) (cs := [.int .i64 n1, .slice A6 s2.length c7, .bool b3, .slice A8 l4.length c9, .slice ac u5.length ae]) kz fun bf fM fN ec ee ef cb cc => ?_)
 clear hE hW
 refine of_op (wpOp_alloc cb cc (d := 2) (cs := [.string ByteArray.empty, .slice none 0 0, .map none]) kz fun au fO fP eg eh ei cd ce => ?_)
 clear cc cb
 refine wpOps_nil (then_normal ?_)
 refine go_seq_region [0] kz ?_
 refine of_op (wpOp_alloc cd ce (d := 3) (cs := [.string ByteArray.empty, .slice none 0 0, .map none]) kz fun ag fQ fR ej ek em aD cg => ?_)
 clear ce cd
 refine wpOps_nil (then_normal ?_)
 refine go_seq_region [0, 1, 2, 3, 4, 5] kz ?_
 refine go_rn [0] [1, 2, 3, 4, 5] [(1, .p 0 0), (2, .p 1 0), (3, .p 2 0), (8, .v (.agg #[.int .i64 n1, .slice A6 s2.length c7, .bool b3, .slice A8 l4.length c9, .slice ac u5.length ae]))] aD cg fun fS cl => ?_
 clear cg
 refine of_op (wpOp_call cl (f := 73) (vs := [.agg #[.int .i64 n1, .slice A6 s2.length c7, .bool b3, .slice A8 l4.length c9, .slice ac u5.length ae], .int .i64 0]) (d := 9) kz Tryz.call73 (iAt _ _ 0 _ _ (ht.move aD.step nilM aD.imm)) ?_)
 rintro e_ fT ⟨eo, rfl, dc, aF⟩
 have cm := dc.move aF nilM (fun b o h_ hb_ => aD.laid (G := F) aF b o (.inl h_) (Nat.lt_of_lt_of_le hb_ aF.size))
 obtain ⟨fU, ah, fV, fW, fX, ep, eu, fY, fZ, f0, f5, ev, cq, bg, dJ, ew, f8, f9⟩ := cm.open_
 rw [bg] at cm
 have dK := dJ.small
 have dL := ew.small
 rw [bg]
 refine ⟨_, rfl, fun ga cr => ?_⟩
 have aZ := aD.next_nil aF
 have ey := aD.frN aF
 clear cl
 refine go_rn [2] [3, 4, 5] [(1, .p 0 0), (2, .p 1 0), (3, .p 2 0), (10, .v (.slice ep ah.length eu))] aZ cr fun gb cu => ?_
 clear cr
 refine of_op (wpOp_conv cu (src := 22) (dst := 9) (e := 5) (d := 11) kz kz kz kz dJ fun gc cv => ?_)
 clear cu
 refine go_rn [4] [5] [(1, .p 0 0), (2, .p 1 0), (3, .p 2 0), (11, .v (.string (bs ah))), (12, .p 2 0)] aZ cv fun gd cw => ?_
 clear cv
 refine of_op (wpOp_store aZ cw (oi := 2) (cs := [.string (bs ah), .slice none 0 0, .map none]) kz fun ge ez aE cy => ?_)
 clear cw aZ
 refine wpOps_nil (then_normal ?_)
 refine wp_seq ?_
 refine go_seq_region [0, 1, 2, 3] kz ?_
 refine go_rn [0] [1, 2, 3] [(1, .p 0 0), (2, .p 1 0), (3, .p 2 0), (13, .v (.agg #[.int .i64 n1, .slice A6 s2.length c7, .bool b3, .slice A8 l4.length c9, .slice ac u5.length ae]))] aE cy fun gf cz => ?_
 clear cy
 refine of_op (wpOp_call cz (f := 73) (vs := [.agg #[.int .i64 n1, .slice A6 s2.length c7, .bool b3, .slice A8 l4.length c9, .slice ac u5.length ae], .int .i64 1]) (d := 14) kz Tryz.call73 (iAt _ _ 1 _ _ (ht.move aE.step nilM aE.imm)) ?_)
 rintro e_ gg ⟨eA, rfl, de, aG⟩
 have cA := de.move aG nilM (fun b o h_ hb_ => aE.laid (G := F) aG b o (.inl h_) (Nat.lt_of_lt_of_le hb_ aG.size))
 obtain ⟨gh, gi, db, gj, gk, gl, gm, eB, eC, eD, eE, dM, bh, aH, df, dg, eF, eG⟩ := cA.open_
 rw [aH] at cA
 have dh := df.small
 have di := dg.small
 rw [aH]
 refine ⟨_, rfl, fun eH bi => ?_⟩
 have ab := aE.next_nil aG
 have dN := aE.frN aG
 clear cz
 refine go_rn [2, 3] [] [(1, .p 0 0), (2, .p 1 0), (3, .p 2 0), (16, .v (.bool (!db)))] ab bi fun eI ax => ?_
 clear bi
 refine wpOps_nil (then_normal ?_)
 refine wp_join (Mid := fun a_ w_ => ∃ (A_ : Option Addr) (c_ : Nat) (f_ : Nat → DV), A_.isNone = Tree.null (Tree.at_ (Tree.mk n1 s2 b3 l4 u5) 1) ∧ LstR w_ (Imm F w w_ [⟨bf, 0, [.int .i64 n1, .slice A6 s2.length c7, .bool b3, .slice A8 l4.length c9, .slice ac u5.length ae], true⟩, ⟨au, 0, [.string ByteArray.empty, .slice none 0 0, .map none], true⟩, ⟨ag, 0, [.string (bs ah), .slice A_ ((lst (Tree.at_ (Tree.mk n1 s2 b3 l4 u5) 1)).length) c_, .map none], true⟩] []) 1 (fun d => [.int .i32 d.n]) okNone (fun d t => d.n = IntKind.i32.wrap t.N) A_ c_ f_ (lst (Tree.at_ (Tree.mk n1 s2 b3 l4 u5) 1)) ∧ LInv ab 55 [⟨bf, 0, [.int .i64 n1, .slice A6 s2.length c7, .bool b3, .slice A8 l4.length c9, .slice ac u5.length ae], true⟩, ⟨au, 0, [.string ByteArray.empty, .slice none 0 0, .map none], true⟩, ⟨ag, 0, [.string (bs ah), .slice A_ ((lst (Tree.at_ (Tree.mk n1 s2 b3 l4 u5) 1)).length) c_, .map none], true⟩] [] [(1, .p 0 0), (2, .p 1 0), (3, .p 2 0)] a_ w_) ?_ ?_
 ·
  refine cond_of ax (b := !db) kz (fun aI => ?_) (fun aI => ?_)
  ·
   have hnull_ : Tree.null (Tree.at_ (Tree.mk n1 s2 b3 l4 u5) 1) = false := by rw [bh]; show db = false; simpa using aI
   refine go_seq_region [0, 1, 2, 3, 4, 5, 6] kz ?_
   refine go_rn [0] [1, 2, 3, 4, 5, 6] [(1, .p 0 0), (2, .p 1 0), (3, .p 2 0), (17, .v (.agg #[.int .i64 n1, .slice A6 s2.length c7, .bool b3, .slice A8 l4.length c9, .slice ac u5.length ae]))] ab ax fun eJ bj => ?_
   clear ax
   refine of_op (wpOp_call bj (f := 73) (vs := [.agg #[.int .i64 n1, .slice A6 s2.length c7, .bool b3, .slice A8 l4.length c9, .slice ac u5.length ae], .int .i64 1]) (d := 18) kz Tryz.call73 (iAt _ _ 1 _ _ (ht.move ab.step nilM ab.imm)) ?_)
   rintro e_ eK ⟨dO, rfl, cB, ai⟩
   have bk := cB.move ai nilM (fun b o h_ hb_ => ab.laid (G := F) ai b o (.inl h_) (Nat.lt_of_lt_of_le hb_ ai.size))
   obtain ⟨eL, eM, eN, av, eO, eP, eQ, eR, eS, eT, eU, dP, cC, aJ, dj, dl, eV, eW⟩ := bk.open_
   rw [aJ] at bk
   have dp := dj.small
   have dq := dl.small
   rw [aJ]
   refine ⟨_, rfl, fun eX bn => ?_⟩
   have aK := ab.next_nil ai
   have cD := ab.frN ai
   clear bj
   have hl3_ : lst (Tree.at_ (Tree.mk n1 s2 b3 l4 u5) 1) = av := by rw [lst_of hnull_, cC]; rfl
   have dQ : av.length ≤ 1000000 := by have h_ := cj1; rw [hl3_] at h_; exact h_
   refine go_rn [2, 3] [4, 5, 6] [(1, .p 0 0), (2, .p 1 0), (3, .p 2 0), (20, .v (.int .i64 ((av.length : Nat) : Int)))] aK bn fun eY bp => ?_
   clear bn
   refine of_op (wpOp_make0 aK bp (d := 21) (j := av.length) (t := 143) (e := 21) (size := 1) (bytes := 4) kz kz rfl (rfl) (by omega) fun bU eZ e5 dR dS cE aL bq => ?_)
   clear bp aK
   refine go_rn [5] [6] [(1, .p 0 0), (2, .p 1 0), (3, .p 2 0), (21, .v (.slice (some ⟨bU, 0, none⟩) 0 av.length)), (22, .p 2 1)] aL bq fun e6 br => ?_
   clear bq
   refine of_op (wpOp_store aL br (oi := 2) (cs := [.string (bs ah), .slice (some ⟨bU, 0, none⟩) 0 av.length, .map none]) kz fun e7 cG af bt => ?_)
   clear br aL
   refine wpOps_nil (then_normal ?_)
   refine go_seq_region [0, 1, 2, 3, 4] kz ?_
   refine go_rn [0] [1, 2, 3, 4] [(1, .p 0 0), (2, .p 1 0), (3, .p 2 0), (23, .v (.agg #[.int .i64 n1, .slice A6 s2.length c7, .bool b3, .slice A8 l4.length c9, .slice ac u5.length ae]))] af bt fun e9 bu => ?_
   clear bt
   refine of_op (wpOp_call bu (f := 73) (vs := [.agg #[.int .i64 n1, .slice A6 s2.length c7, .bool b3, .slice A8 l4.length c9, .slice ac u5.length ae], .int .i64 1]) (d := 24) kz Tryz.call73 (iAt _ _ 1 _ _ (ht.move af.step nilM af.imm)) ?_)
   rintro e_ fa ⟨dT, rfl, cH, aj⟩
   have bv := cH.move aj nilM (fun b o h_ hb_ => af.laid (G := F) aj b o (.inl h_) (Nat.lt_of_lt_of_le hb_ aj.size))
   obtain ⟨fb, fc, fe, aa, ff, fg, fh, ak, aw, fi, fj, dU, cI, aM, dr, cJ, dt, fk⟩ := bv.open_
   rw [aM] at bv
   have du := dr.small
   have dv := cJ.small
   rw [aM]
   refine ⟨_, rfl, fun fl bw => ?_⟩
   have aN := af.next_nil aj
   have cK := af.frN aj
   clear bu
   have hl3_ : lst (Tree.at_ (Tree.mk n1 s2 b3 l4 u5) 1) = aa := by rw [lst_of hnull_, cI]; rfl
   have dV : aa.length ≤ 1000000 := by have h_ := cj1; rw [hl3_] at h_; exact h_
   refine go_rn [2, 3, 4] [] [(1, .p 0 0), (2, .p 1 0), (3, .p 2 0), (25, .v (.slice ak aa.length aw)), (26, .v (.int .i64 ((aa.length : Nat) : Int))), (27, .v (.int .i64 0))] aN bw fun fm bz => ?_
   clear bw
   refine wpOps_nil (then_normal ?_)
   refine wp_block ?_
   refine wp_loop_ghost (fun n_ a_ w_ => ∃ (k : Nat) (A_ : Option Addr) (c_ : Nat) (xs_ : List Value) (ds_ : List DV), n_ = aa.length - k ∧ k ≤ aa.length ∧ (A_.isNone = false) ∧ (RowL w_ (Imm F w w_ [⟨bf, 0, [.int .i64 n1, .slice A6 s2.length c7, .bool b3, .slice A8 l4.length c9, .slice ac u5.length ae], true⟩, ⟨au, 0, [.string ByteArray.empty, .slice none 0 0, .map none], true⟩, ⟨ag, 0, [.string (bs ah), .slice A_ k c_, .map none], true⟩] [⟨A_, c_, 21, 1, k, xs_⟩]) 1 (fun d => [.int .i32 d.n]) okNone (fun d t => d.n = IntKind.i32.wrap t.N) xs_ ds_ (aa.take k)) ∧ LInv aN 55 [⟨bf, 0, [.int .i64 n1, .slice A6 s2.length c7, .bool b3, .slice A8 l4.length c9, .slice ac u5.length ae], true⟩, ⟨au, 0, [.string ByteArray.empty, .slice none 0 0, .map none], true⟩, ⟨ag, 0, [.string (bs ah), .slice A_ k c_, .map none], true⟩] [⟨A_, c_, 21, 1, k, xs_⟩] [(1, .p 0 0), (2, .p 1 0), (3, .p 2 0), (25, .v (.slice ak aa.length aw)), (26, .v (.int .i64 ((aa.length : Nat) : Int))), (27, .v (.int .i64 ((k : Nat) : Int)))] a_ w_) (aa.length) ⟨0, (some ⟨bU, 0, none⟩), av.length, [], [], by omega, by omega, rfl, RowL.nil mvNone, bz.pk, aN, Fr.refl _ _ _⟩ ?_
   clear bz
   rintro fo fp fq ⟨k, A_, c_, xs_, ds_, dW, dX, hA, hR, bA, al, ay⟩
   refine go_sp [(1, .p 0 0), (2, .p 1 0), (3, .p 2 0), (25, .v (.slice ak aa.length aw)), (26, .v (.int .i64 ((aa.length : Nat) : Int))), (27, .v (.int .i64 ((k : Nat) : Int))), (28, .v (.bool (decide (((k : Nat) : Int) < ((aa.length : Nat) : Int)))))] al bA fun fr aA => ?_
   clear bA
   refine wp_seq ?_
   refine cond_of aA (b := decide (((k : Nat) : Int) < ((aa.length : Nat) : Int))) kz (fun aO => ?_) (fun aO => ?_)
   ·
    have dY := of_decide_eq_true aO
    refine wp_skip ?_
    refine then_normal ?_
    refine wp_seq ?_
    refine wp_block ?_
    refine go_seq_region [0, 1, 2, 3] kz ?_
    obtain ⟨dw, dx, cL, dZ, aP⟩ := Slots.get cJ (i := k) (by omega)
    obtain ⟨dy, bB⟩ : ∃ x, aa[k]? = some x := ⟨_, List.getElem?_eq_getElem (by omega)⟩
    have bC := dt k dy bB
    obtain ⟨am, bV, bW, bX, bY, bZ, b0, b5, b6, b8, ca, d4, rfl, aQ, dz, dA, ft, fu⟩ := bC.open_
    rw [aQ] at bC
    have dB := dz.small
    have dC := dA.small
    rw [aQ] at aP
    refine of_op (wpOp_index aA (t := 36) (A := ak) (m := aa.length) (q := ((k : Nat) : Int)) (d := 29) kz (e := 39) (size := 5) (bytes := 88) kz cL rfl (by omega) fun fv bD => ?_)
    clear aA
    refine of_op (wpOp_load bD (t := 39) (b := dw) (o := dx + k * 5) (d := 30) kz (cs := [.int .i64 am, .slice bZ bV.length b0, .bool bW, .slice b5 bX.length b6, .slice b8 bY.length ca]) (v := .agg #[.int .i64 am, .slice bZ bV.length b0, .bool bW, .slice b5 bX.length b6, .slice b8 bY.length ca]) kz (AtF.move aP ay.step immM ay.to').at_ fun fw bE => ?_)
    clear bD
    refine of_op (wpOp_alloc al bE (d := 5) (cs := [.int .i64 0, .slice none 0 0, .bool false, .slice none 0 0, .slice none 0 0]) kz fun fx fy fz d5 d6 aR bF bG => ?_)
    clear bE al
    refine of_op (wpOp_store bF bG (oi := 3) (cs := [.int .i64 am, .slice bZ bV.length b0, .bool bW, .slice b5 bX.length b6, .slice b8 bY.length ca]) kz fun fA aS aT bH => ?_)
    clear bG bF
    refine wpOps_nil (then_normal ?_)
    refine go_region [0, 1, 2, 3, 4, 5, 6, 7, 8] kz ?_
    refine go_rn [0, 1, 2, 3, 4] [5, 6, 7, 8] [(1, .p 0 0), (2, .p 1 0), (3, .p 2 0), (25, .v (.slice ak aa.length aw)), (26, .v (.int .i64 ((aa.length : Nat) : Int))), (27, .v (.int .i64 ((k : Nat) : Int))), (32, .v (.slice A_ k c_)), (35, .v (.int .i32 (IntKind.i32.wrap am)))] aT bH fun fB bI => ?_
    clear bH
    refine wpOps_push aT bI (k := 0) (e := 21) (size := 1) (len := 1) (cs := [.int .i32 (IntKind.i32.wrap am)]) (d1 := 36) (d := 37) kz (t := 143) (bytes := 4) kz (fun _ => by kernel_rfl) rfl kz (by omega) fun ba bd fC fD aU aV ⟨_, bJ⟩ => ?_
    clear bI aT
    refine go_rn [7] [8] [(1, .p 0 0), (2, .p 1 0), (3, .p 2 0), (25, .v (.slice ak aa.length aw)), (26, .v (.int .i64 ((aa.length : Nat) : Int))), (27, .v (.int .i64 ((k : Nat) : Int))), (37, .v (.slice ba (k + 1) bd)), (38, .p 2 1)] aV bJ fun fE bK => ?_
    clear bJ
    refine of_op (wpOp_store aV bK (oi := 2) (cs := [.string (bs ah), .slice ba (k + 1) bd, .map none]) kz fun fF aW bL bM => ?_)
    clear bK aV
    refine wpOps_nil ?_
    refine block_normal ?_
    refine then_normal ?_
    refine go_region [0, 1] kz ?_
    refine go_rn [0, 1] [] [(1, .p 0 0), (2, .p 1 0), (3, .p 2 0), (25, .v (.slice ak aa.length aw)), (26, .v (.int .i64 ((aa.length : Nat) : Int))), (27, .v (.int .i64 (IntKind.i64.wrap (((k : Nat) : Int) + 1))))] bL bM fun fG cM => ?_
    clear bM
    refine wpOps_nil (then_normal ?_)
    obtain ⟨bN, bO, aX⟩ := bL.cutB cM 3 [⟨bf, 0, [.int .i64 n1, .slice A6 s2.length c7, .bool b3, .slice A8 l4.length c9, .slice ac u5.length ae], true⟩, ⟨au, 0, [.string ByteArray.empty, .slice none 0 0, .map none], true⟩, ⟨ag, 0, [.string (bs ah), .slice ba (k + 1) bd, .map none], true⟩] [(1, .p 0 0), (2, .p 1 0), (3, .p 2 0), (25, .v (.slice ak aa.length aw)), (26, .v (.int .i64 ((aa.length : Nat) : Int))), (27, .v (.int .i64 (IntKind.i64.wrap (((k : Nat) : Int) + 1))))]
    have cN : IntKind.i64.wrap (((k : Nat) : Int) + 1) = ((k + 1 : Nat) : Int) := wrap_succ (by omega)
    rw [cN] at bN
    exact ⟨aa.length - (k + 1), by omega, k + 1, ba, bd, xs_ ++ [Value.int .i32 (IntKind.i32.wrap am)], (ds_ ++ [(dvN (IntKind.i32.wrap am))]), rfl, by omega, own_some bO (k := 0) rfl (by omega), RowL.snoc (d := (dvN (IntKind.i32.wrap am))) (hR.move ((((aR.trans aS).trans aU).trans aW).trans aX).step immM ((((aR.trans aS).trans aU).trans aW).trans aX).to') bB rfl trivial rfl, bN.pk, bO, (((((ay.trans aR).trans aS).trans aU).trans aW).trans aX)⟩
   ·
    have d7 := of_decide_eq_false aO
    refine wp_exit ?_
    refine then_exit ?_
    refine then_exit ?_
    refine block_exit ?_
    refine then_normal ?_
    have hk_ : k = (lst (Tree.at_ (Tree.mk n1 s2 b3 l4 u5) 1)).length := by rw [hl3_]; omega
    subst k
    have hL_ := LstR.of al (k := 0) (rs' := []) rfl hR (by rw [hl3_]) (fun d => allOne_ok kz) (by omega)
    rw [← hl3_] at hL_
    obtain ⟨cO, cP⟩ := al.cutR 0 []
    exact ⟨_, _, _, by rw [hnull_]; exact hA, hL_, aA.pk, cO, (((((cD.trans cE).trans cG).trans cK).trans ay).trans cP)⟩
  ·
   refine wp_skip ?_
   refine then_normal ?_
   have hn_ : Tree.null (Tree.at_ (Tree.mk n1 s2 b3 l4 u5) 1) = true := by rw [bh]; show db = true; simpa using aI
   have hl_ := lst_no hn_
   exact ⟨none, 0, fun _ => dv0, by rw [hn_]; rfl, by rw [hl_]; exact LstR.nil mvNone, by rw [hl_]; exact ⟨ax.pk, ab, Fr.refl _ _ _⟩⟩
 rintro fH dD ⟨ao, ap, dE, cQ, bP, bQ, ar, d8⟩
 refine wp_seq ?_
 refine go_sp [(2, .p 1 0), (3, .p 2 0), (41, .v (.slice ac u5.length ae)), (42, .v (.int .i64 ((u5.length : Nat) : Int))), (43, .v (.int .i64 0))] ar bQ fun fI cR => ?_
 clear bQ
 refine wp_block ?_
 have cS := new_of ar 2 rfl kz
 have cT := cR.recast 2 (.p 1 0) (.v (.pointer (some ⟨au, 0, none⟩))) rfl rfl trivial
 have cV := cT.recast 3 (.p 2 0) (.v (.pointer (some ⟨ag, 0, none⟩))) rfl rfl trivial
 have cW := (cV.pick (ks := [2, 3, 41, 42, 43]) (env' := [(2, .v (.pointer (some ⟨au, 0, none⟩))), (3, .v (.pointer (some ⟨ag, 0, none⟩))), (41, .v (.slice ac u5.length ae)), (42, .v (.int .i64 ((u5.length : Nat) : Int))), (43, .v (.int .i64 0))]) kz).cutTb 0 kz
 refine wp_loop_ghost (fun q a_ w_ => ∃ (j : Nat) (m_ : Option Nat), q = u5.length - j ∧ j ≤ u5.length ∧ EnvOk 55 [] [(2, .v (.pointer (some ⟨au, 0, none⟩))), (3, .v (.pointer (some ⟨ag, 0, none⟩))), (41, .v (.slice ac u5.length ae)), (42, .v (.int .i64 ((u5.length : Nat) : Int))), (43, .v (.int .i64 ((j : Nat) : Int)))] a_ ∧ TL w dD w_ F ag 2 [.string (bs ah), .slice ao ((lst (Tree.at_ (Tree.mk n1 s2 b3 l4 u5) 1)).length) ap, .map none] m_ (u5.take j)) u5.length
  ⟨0, none, by omega, by omega, cW, TL.start ar 2 rfl rfl⟩ ?_
 rintro q aq wq ⟨j, m_, rfl, hj, hE2, hT⟩
 have hWq := WOk.start wq Nil
 refine go_sp [(2, .v (.pointer (some ⟨au, 0, none⟩))), (3, .v (.pointer (some ⟨ag, 0, none⟩))), (41, .v (.slice ac u5.length ae)), (42, .v (.int .i64 ((u5.length : Nat) : Int))), (43, .v (.int .i64 ((j : Nat) : Int))), (44, .v (.bool (decide (((j : Nat) : Int) < ((u5.length : Nat) : Int)))))] hWq hE2 fun aq2 hE3 => wp_seq ?_
 refine cond_of hE3 (b := decide (((j : Nat) : Int) < ((u5.length : Nat) : Int))) kz (fun hc => ?_) (fun hc => ?_)
 ·have hlt : j < u5.length := by have := of_decide_eq_true hc; omega
  refine wp_skip (then_normal (wp_seq (wp_block ?_)))
  obtain ⟨⟨k, x⟩, hu⟩ : ∃ y, u5[j]? = some y := ⟨_, List.getElem?_eq_getElem hlt⟩
  obtain ⟨bb, bo, xA, xc, hA, hat, hxo, hk⟩ := tag_at dG hu
  refine go_seq_region [0, 1, 2, 3] kz ?_
  refine of_op (wpOp_index hE3 (t := 37) (e := 64) (size := 2) (bytes := 32) (d := 45) (b := bb) (o := bo) (m := u5.length) (j := j) kz kz hA rfl hlt fun aq3 hE4 => ?_)
  refine of_op (wpOp_load hE4 (t := 64) (d := 46) (cs := [.int .u32 k, .slice xA x.length xc]) (v := .agg #[.int .u32 k, .slice xA x.length xc]) kz kz (hat.step_nil hT.step) fun aq4 hE5 => ?_)
  refine of_op (wpOp_alloc hWq hE5 (d := 7) (cs := [.int .u32 0, .slice none 0 0]) kz fun bx aq5 wq2 hbx hbx0 hFq2 hWq2 hE6 => ?_)
  refine of_op (wpOp_store hWq2 hE6 (oi := 0) (cs := [.int .u32 k, .slice xA x.length xc]) kz fun wq3 hFq3 hWq3 hE7 => wpOps_nil (then_normal ?_))
  refine go_region [0, 1, 2, 3, 4, 5] kz (go_rn [0, 1, 2, 3, 4] [5] [(2, .v (.pointer (some ⟨au, 0, none⟩))), (3, .v (.pointer (some ⟨ag, 0, none⟩))), (41, .v (.slice ac u5.length ae)), (42, .v (.int .i64 ((u5.length : Nat) : Int))), (43, .v (.int .i64 ((j : Nat) : Int))), (47, .v (.pointer (some ⟨ag, 2, none⟩))), (49, .v (.int .u32 k)), (51, .v (.slice xA x.length xc))] hWq3 hE7 fun aq6 hE8 => ?_)
  refine of_op (wpOp_call hE8 (f := 75) (vs := [.pointer (some ⟨ag, 2, none⟩), .int .u32 k, .slice xA x.length xc]) (d := 52) kz Tryz.call75 ((hT.move hWq3.step).set cS kz hsort hu hxo hk) ?_)
  rintro e_ wq5 ⟨rfl, hS5, r, hT5⟩
  refine ⟨_, rfl, fun aq7 hE9 => wpOps_nil (block_normal (then_normal ?_))⟩
  have dF := (hE9.pick (ks := [2, 3, 41, 42, 43]) (env' := [(2, .v (.pointer (some ⟨au, 0, none⟩))), (3, .v (.pointer (some ⟨ag, 0, none⟩))), (41, .v (.slice ac u5.length ae)), (42, .v (.int .i64 ((u5.length : Nat) : Int))), (43, .v (.int .i64 ((j : Nat) : Int)))]) kz).cutTb 0 kz
  refine go_region [0, 1] kz (go_rn [0, 1] [] [(2, .v (.pointer (some ⟨au, 0, none⟩))), (3, .v (.pointer (some ⟨ag, 0, none⟩))), (41, .v (.slice ac u5.length ae)), (42, .v (.int .i64 ((u5.length : Nat) : Int))), (43, .v (.int .i64 (IntKind.i64.wrap (((j : Nat) : Int) + 1))))] (WOk.start wq5 Nil) dF fun aq8 cX => wpOps_nil (then_normal ?_))
  rw [wrap_succ (by omega)] at cX
  exact ⟨u5.length - (j + 1), by omega, j + 1, some r, rfl, by omega, cX, hT5⟩
 ·obtain rfl : j = u5.length := by have := of_decide_eq_false hc; omega
  refine wp_exit (then_exit (then_exit (block_exit ?_)))
  rw [List.take_length] at hT
  obtain ⟨aB, aY⟩ := hT.tab ar 2 [⟨bf, 0, [.int .i64 n1, .slice A6 s2.length c7, .bool b3, .slice A8 l4.length c9, .slice ac u5.length ae], true⟩, ⟨au, 0, [.string ByteArray.empty, .slice none 0 0, .map none], true⟩, ⟨ag, 0, [.string (bs ah), .slice ao ((lst (Tree.at_ (Tree.mk n1 s2 b3 l4 u5) 1)).length) ap, .map m_], true⟩] rfl
  have cY := hT.mapImm ar aB aY hsort (tags_range dG)
  have cZ := (hE3.retable [⟨bf, 0, [.int .i64 n1, .slice A6 s2.length c7, .bool b3, .slice A8 l4.length c9, .slice ac u5.length ae], true⟩, ⟨au, 0, [.string ByteArray.empty, .slice none 0 0, .map none], true⟩, ⟨ag, 0, [.string (bs ah), .slice ao ((lst (Tree.at_ (Tree.mk n1 s2 b3 l4 u5) 1)).length) ap, .map m_], true⟩]).recast 2 (.v (.pointer (some ⟨au, 0, none⟩))) (.p 1 0) rfl rfl (Nat.le_of_ble_eq_true (n := 2) rfl)
  have c5 := cZ.recast 3 (.v (.pointer (some ⟨ag, 0, none⟩))) (.p 2 0) rfl rfl (Nat.le_of_ble_eq_true (n := 3) rfl)
  have bR : EnvOk 55 [⟨bf, 0, [.int .i64 n1, .slice A6 s2.length c7, .bool b3, .slice A8 l4.length c9, .slice ac u5.length ae], true⟩, ⟨au, 0, [.string ByteArray.empty, .slice none 0 0, .map none], true⟩, ⟨ag, 0, [.string (bs ah), .slice ao ((lst (Tree.at_ (Tree.mk n1 s2 b3 l4 u5) 1)).length) ap, .map m_], true⟩] [(2, .p 1 0), (3, .p 2 0)] _ := c5.pk
  refine then_normal ?_
  refine go_seq_region [0, 1] kz ?_
  refine go_rn [0] [1] [(2, .p 1 0), (54, .v (.agg #[.string (bs ah), .slice ao ((lst (Tree.at_ (Tree.mk n1 s2 b3 l4 u5) 1)).length) ap, .map m_]))] aB bR fun fJ bS => ?_
  clear bR
  refine of_op (wpOp_store aB bS (oi := 1) (cs := [.string (bs ah), .slice ao ((lst (Tree.at_ (Tree.mk n1 s2 b3 l4 u5) 1)).length) ap, .map m_]) kz fun fK aC bT da => ?_)
  clear bS aB
  refine wpOps_nil (then_normal ?_)
  refine wp_ret ?_
  refine leave da bT.cells (v := .agg #[.string (bs ah), .slice ao ((lst (Tree.at_ (Tree.mk n1 s2 b3 l4 u5) 1)).length) ap, .map m_]) kz ?_
  refine ⟨dvP m_ u5 [dvS (bs ah), dvL ao (lst (Tree.at_ (Tree.mk n1 s2 b3 l4 u5) 1)).length ap dE], rfl, ?_, ?_, bT.step⟩
  ·unfold okStreamsGroupHeartbeatResponsePartitionsByUserEndpointActivePartition
   exact ⟨by show ByteArray.size (bs ah) ≤ 1000000; rw [bs_size]; have h_ := cj0; rw [cq] at h_; exact h_, ⟨((bP.move (aY.trans aC).step immM (aY.trans aC).to').move (Step.refl _ Nil) nilM immOut).slots, cj1, fun _ _ => trivial⟩, ((cY.move aC.step immM aC.to').move (Step.refl _ Nil) nilM immOut), cU.2.1, cU.2.2, trivial⟩
  ·unfold relStreamsGroupHeartbeatResponsePartitionsByUserEndpointActivePartition
   exact ⟨by rw [cq]; rfl, ⟨cQ, rfl, bP.rel_⟩, rfl, trivial⟩
set_option maxHeartbeats 4000000 in
theorem eStreamsGroupHeartbeatResponsePartitionsByUserEndpointStandbyPartition (ct : List Value) (t : Tree) (w : World) (F : Nat → Nat → Prop) (ht : TreeR w F ct t) (hc : canStreamsGroupHeartbeatResponsePartitionsByUserEndpointStandbyPartition t) :
  Calls Tryz.prog 142 #[.agg ct.toArray] w (fun e w' => ∃ D : DV, e = .returned (.agg #[.string ((D.f 0).s), .slice ((D.f 1).A) ((D.f 1).l) ((D.f 1).c), .map D.m]) ∧ okStreamsGroupHeartbeatResponsePartitionsByUserEndpointStandbyPartition w' (Fp F w) D ∧ relStreamsGroupHeartbeatResponsePartitionsByUserEndpointStandbyPartition D t ∧ Step w w' Nil) := by
 obtain ⟨n1, s2, b3, l4, u5, A6, c7, A8, c9, ac, ae, d9, rfl, rfl, ea, eb, fL, dG⟩ := ht.open_
 have dH := ea.small
 have dI := eb.small
 unfold canStreamsGroupHeartbeatResponsePartitionsByUserEndpointStandbyPartition at hc
 obtain ⟨cj0, cj1, cU, _⟩ := hc
 have hsort := cU.1
 replace hsort : Sorted u5 := hsort
 have hul : u5.length ≤ 1000000 := cU.2.1
 refine enter (n := 55) Tryz.func142 rfl Tryz.ntmps142 kz fun a hE => ?_
 have hW := WOk.start w Nil
 refine go_seq_region [0, 1] kz ?_
 refine of_op (wpOp_box hW hE (d := 1) (cs := [.int .i64 n1, .slice A6 s2.length c7, .bool b3, .slice A8 l4.length c9, .slice ac u5.length ae]) kz fun bf fM fN ec ee ef cb cc => ?_)
 clear hE hW
 refine of_op (wpOp_alloc cb cc (d := 2) (cs := [.string ByteArray.empty, .slice none 0 0, .map none]) kz fun au fO fP eg eh ei cd ce => ?_)
 clear cc cb
 refine wpOps_nil (then_normal ?_)
 refine go_seq_region [0] kz ?_
 refine of_op (wpOp_alloc cd ce (d := 3) (cs := [.string ByteArray.empty, .slice none 0 0, .map none]) kz fun ag fQ fR ej ek em aD cg => ?_)
 clear ce cd
 refine wpOps_nil (then_normal ?_)
 refine go_seq_region [0, 1, 2, 3, 4, 5] kz ?_
 refine go_rn [0] [1, 2, 3, 4, 5] [(1, .p 0 0), (2, .p 1 0), (3, .p 2 0), (8, .v (.agg #[.int .i64 n1, .slice A6 s2.length c7, .bool b3, .slice A8 l4.length c9, .slice ac u5.length ae]))] aD cg fun fS cl => ?_
 clear cg
 refine of_op (wpOp_call cl (f := 73) (vs := [.agg #[.int .i64 n1, .slice A6 s2.length c7, .bool b3, .slice A8 l4.length c9, .slice ac u5.length ae], .int .i64 0]) (d := 9) kz Tryz.call73 (iAt _ _ 0 _ _ (ht.move aD.step nilM aD.imm)) ?_)
 rintro e_ fT ⟨eo, rfl, dc, aF⟩
 have cm := dc.move aF nilM (fun b o h_ hb_ => aD.laid (G := F) aF b o (.inl h_) (Nat.lt_of_lt_of_le hb_ aF.size))
 obtain ⟨fU, ah, fV, fW, fX, ep, eu, fY, fZ, f0, f5, ev, cq, bg, dJ, ew, f8, f9⟩ := cm.open_
 rw [bg] at cm
 have dK := dJ.small
 have dL := ew.small
 rw [bg]
 refine ⟨_, rfl, fun ga cr => ?_⟩
 have aZ := aD.next_nil aF
 have ey := aD.frN aF
 clear cl
 refine go_rn [2] [3, 4, 5] [(1, .p 0 0), (2, .p 1 0), (3, .p 2 0), (10, .v (.slice ep ah.length eu))] aZ cr fun gb cu => ?_
 clear cr
 refine of_op (wpOp_conv cu (src := 22) (dst := 9) (e := 5) (d := 11) kz kz kz kz dJ fun gc cv => ?_)
 clear cu
 refine go_rn [4] [5] [(1, .p 0 0), (2, .p 1 0), (3, .p 2 0), (11, .v (.string (bs ah))), (12, .p 2 0)] aZ cv fun gd cw => ?_
 clear cv
 refine of_op (wpOp_store aZ cw (oi := 2) (cs := [.string (bs ah), .slice none 0 0, .map none]) kz fun ge ez aE cy => ?_)
 clear cw aZ
 refine wpOps_nil (then_normal ?_)
 refine wp_seq ?_
 refine go_seq_region [0, 1, 2, 3] kz ?_
 refine go_rn [0] [1, 2, 3] [(1, .p 0 0), (2, .p 1 0), (3, .p 2 0), (13, .v (.agg #[.int .i64 n1, .slice A6 s2.length c7, .bool b3, .slice A8 l4.length c9, .slice ac u5.length ae]))] aE cy fun gf cz => ?_
 clear cy
 refine of_op (wpOp_call cz (f := 73) (vs := [.agg #[.int .i64 n1, .slice A6 s2.length c7, .bool b3, .slice A8 l4.length c9, .slice ac u5.length ae], .int .i64 1]) (d := 14) kz Tryz.call73 (iAt _ _ 1 _ _ (ht.move aE.step nilM aE.imm)) ?_)
 rintro e_ gg ⟨eA, rfl, de, aG⟩
 have cA := de.move aG nilM (fun b o h_ hb_ => aE.laid (G := F) aG b o (.inl h_) (Nat.lt_of_lt_of_le hb_ aG.size))
 obtain ⟨gh, gi, db, gj, gk, gl, gm, eB, eC, eD, eE, dM, bh, aH, df, dg, eF, eG⟩ := cA.open_
 rw [aH] at cA
 have dh := df.small
 have di := dg.small
 rw [aH]
 refine ⟨_, rfl, fun eH bi => ?_⟩
 have ab := aE.next_nil aG
 have dN := aE.frN aG
 clear cz
 refine go_rn [2, 3] [] [(1, .p 0 0), (2, .p 1 0), (3, .p 2 0), (16, .v (.bool (!db)))] ab bi fun eI ax => ?_
 clear bi
 refine wpOps_nil (then_normal ?_)
 refine wp_join (Mid := fun a_ w_ => ∃ (A_ : Option Addr) (c_ : Nat) (f_ : Nat → DV), A_.isNone = Tree.null (Tree.at_ (Tree.mk n1 s2 b3 l4 u5) 1) ∧ LstR w_ (Imm F w w_ [⟨bf, 0, [.int .i64 n1, .slice A6 s2.length c7, .bool b3, .slice A8 l4.length c9, .slice ac u5.length ae], true⟩, ⟨au, 0, [.string ByteArray.empty, .slice none 0 0, .map none], true⟩, ⟨ag, 0, [.string (bs ah), .slice A_ ((lst (Tree.at_ (Tree.mk n1 s2 b3 l4 u5) 1)).length) c_, .map none], true⟩] []) 1 (fun d => [.int .i32 d.n]) okNone (fun d t => d.n = IntKind.i32.wrap t.N) A_ c_ f_ (lst (Tree.at_ (Tree.mk n1 s2 b3 l4 u5) 1)) ∧ LInv ab 55 [⟨bf, 0, [.int .i64 n1, .slice A6 s2.length c7, .bool b3, .slice A8 l4.length c9, .slice ac u5.length ae], true⟩, ⟨au, 0, [.string ByteArray.empty, .slice none 0 0, .map none], true⟩, ⟨ag, 0, [.string (bs ah), .slice A_ ((lst (Tree.at_ (Tree.mk n1 s2 b3 l4 u5) 1)).length) c_, .map none], true⟩] [] [(1, .p 0 0), (2, .p 1 0), (3, .p 2 0)] a_ w_) ?_ ?_
 ·
  refine cond_of ax (b := !db) kz (fun aI => ?_) (fun aI => ?_)
  ·
   have hnull_ : Tree.null (Tree.at_ (Tree.mk n1 s2 b3 l4 u5) 1) = false := by rw [bh]; show db = false; simpa using aI
   refine go_seq_region [0, 1, 2, 3, 4, 5, 6] kz ?_
   refine go_rn [0] [1, 2, 3, 4, 5, 6] [(1, .p 0 0), (2, .p 1 0), (3, .p 2 0), (17, .v (.agg #[.int .i64 n1, .slice A6 s2.length c7, .bool b3, .slice A8 l4.length c9, .slice ac u5.length ae]))] ab ax fun eJ bj => ?_
   clear ax
   refine of_op (wpOp_call bj (f := 73) (vs := [.agg #[.int .i64 n1, .slice A6 s2.length c7, .bool b3, .slice A8 l4.length c9, .slice ac u5.length ae], .int .i64 1]) (d := 18) kz Tryz.call73 (iAt _ _ 1 _ _ (ht.move ab.step nilM ab.imm)) ?_)
   rintro e_ eK ⟨dO, rfl, cB, ai⟩
   have bk := cB.move ai nilM (fun b o h_ hb_ => ab.laid (G := F) ai b o (.inl h_) (Nat.lt_of_lt_of_le hb_ ai.size))
   obtain ⟨eL, eM, eN, av, eO, eP, eQ, eR, eS, eT, eU, dP, cC, aJ, dj, dl, eV, eW⟩ := bk.open_
   rw [aJ] at bk
   have dp := dj.small
   have dq := dl.small
   rw [aJ]
   refine ⟨_, rfl, fun eX bn => ?_⟩
   have aK := ab.next_nil ai
   have cD := ab.frN ai
   clear bj
   have hl3_ : lst (Tree.at_ (Tree.mk n1 s2 b3 l4 u5) 1) = av := by rw [lst_of hnull_, cC]; rfl
   have dQ : av.length ≤ 1000000 := by have h_ := cj1; rw [hl3_] at h_; exact h_
   refine go_rn [2, 3] [4, 5, 6] [(1, .p 0 0), (2, .p 1 0), (3, .p 2 0), (20, .v (.int .i64 ((av.length : Nat) : Int)))] aK bn fun eY bp => ?_
   clear bn
   refine of_op (wpOp_make0 aK bp (d := 21) (j := av.length) (t := 143) (e := 21) (size := 1) (bytes := 4) kz kz rfl (rfl) (by omega) fun bU eZ e5 dR dS cE aL bq => ?_)
   clear bp aK
   refine go_rn [5] [6] [(1, .p 0 0), (2, .p 1 0), (3, .p 2 0), (21, .v (.slice (some ⟨bU, 0, none⟩) 0 av.length)), (22, .p 2 1)] aL bq fun e6 br => ?_
   clear bq
   refine of_op (wpOp_store aL br (oi := 2) (cs := [.string (bs ah), .slice (some ⟨bU, 0, none⟩) 0 av.length, .map none]) kz fun e7 cG af bt => ?_)
   clear br aL
   refine wpOps_nil (then_normal ?_)
   refine go_seq_region [0, 1, 2, 3, 4] kz ?_
   refine go_rn [0] [1, 2, 3, 4] [(1, .p 0 0), (2, .p 1 0), (3, .p 2 0), (23, .v (.agg #[.int .i64 n1, .slice A6 s2.length c7, .bool b3, .slice A8 l4.length c9, .slice ac u5.length ae]))] af bt fun e9 bu => ?_
   clear bt
   refine of_op (wpOp_call bu (f := 73) (vs := [.agg #[.int .i64 n1, .slice A6 s2.length c7, .bool b3, .slice A8 l4.length c9, .slice ac u5.length ae], .int .i64 1]) (d := 24) kz Tryz.call73 (iAt _ _ 1 _ _ (ht.move af.step nilM af.imm)) ?_)
   rintro e_ fa ⟨dT, rfl, cH, aj⟩
   have bv := cH.move aj nilM (fun b o h_ hb_ => af.laid (G := F) aj b o (.inl h_) (Nat.lt_of_lt_of_le hb_ aj.size))
   obtain ⟨fb, fc, fe, aa, ff, fg, fh, ak, aw, fi, fj, dU, cI, aM, dr, cJ, dt, fk⟩ := bv.open_
   rw [aM] at bv
   have du := dr.small
   have dv := cJ.small
   rw [aM]
   refine ⟨_, rfl, fun fl bw => ?_⟩
   have aN := af.next_nil aj
   have cK := af.frN aj
   clear bu
   have hl3_ : lst (Tree.at_ (Tree.mk n1 s2 b3 l4 u5) 1) = aa := by rw [lst_of hnull_, cI]; rfl
   have dV : aa.length ≤ 1000000 := by have h_ := cj1; rw [hl3_] at h_; exact h_
   refine go_rn [2, 3, 4] [] [(1, .p 0 0), (2, .p 1 0), (3, .p 2 0), (25, .v (.slice ak aa.length aw)), (26, .v (.int .i64 ((aa.length : Nat) : Int))), (27, .v (.int .i64 0))] aN bw fun fm bz => ?_
   clear bw
   refine wpOps_nil (then_normal ?_)
   refine wp_block ?_
   refine wp_loop_ghost (fun n_ a_ w_ => ∃ (k : Nat) (A_ : Option Addr) (c_ : Nat) (xs_ : List Value) (ds_ : List DV), n_ = aa.length - k ∧ k ≤ aa.length ∧ (A_.isNone = false) ∧ (RowL w_ (Imm F w w_ [⟨bf, 0, [.int .i64 n1, .slice A6 s2.length c7, .bool b3, .slice A8 l4.length c9, .slice ac u5.length ae], true⟩, ⟨au, 0, [.string ByteArray.empty, .slice none 0 0, .map none], true⟩, ⟨ag, 0, [.string (bs ah), .slice A_ k c_, .map none], true⟩] [⟨A_, c_, 21, 1, k, xs_⟩]) 1 (fun d => [.int .i32 d.n]) okNone (fun d t => d.n = IntKind.i32.wrap t.N) xs_ ds_ (aa.take k)) ∧ LInv aN 55 [⟨bf, 0, [.int .i64 n1, .slice A6 s2.length c7, .bool b3, .slice A8 l4.length c9, .slice ac u5.length ae], true⟩, ⟨au, 0, [.string ByteArray.empty, .slice none 0 0, .map none], true⟩, ⟨ag, 0, [.string (bs ah), .slice A_ k c_, .map none], true⟩] [⟨A_, c_, 21, 1, k, xs_⟩] [(1, .p 0 0), (2, .p 1 0), (3, .p 2 0), (25, .v (.slice ak aa.length aw)), (26, .v (.int .i64 ((aa.length : Nat) : Int))), (27, .v (.int .i64 ((k : Nat) : Int)))] a_ w_) (aa.length) ⟨0, (some ⟨bU, 0, none⟩), av.length, [], [], by omega, by omega, rfl, RowL.nil mvNone, bz.pk, aN, Fr.refl _ _ _⟩ ?_
   clear bz
   rintro fo fp fq ⟨k, A_, c_, xs_, ds_, dW, dX, hA, hR, bA, al, ay⟩
   refine go_sp [(1, .p 0 0), (2, .p 1 0), (3, .p 2 0), (25, .v (.slice ak aa.length aw)), (26, .v (.int .i64 ((aa.length : Nat) : Int))), (27, .v (.int .i64 ((k : Nat) : Int))), (28, .v (.bool (decide (((k : Nat) : Int) < ((aa.length : Nat) : Int)))))] al bA fun fr aA => ?_
   clear bA
   refine wp_seq ?_
   refine cond_of aA (b := decide (((k : Nat) : Int) < ((aa.length : Nat) : Int))) kz (fun aO => ?_) (fun aO => ?_)
   ·
    have dY := of_decide_eq_true aO
    refine wp_skip ?_
    refine then_normal ?_
    refine wp_seq ?_
    refine wp_block ?_
    refine go_seq_region [0, 1, 2, 3] kz ?_
    obtain ⟨dw, dx, cL, dZ, aP⟩ := Slots.get cJ (i := k) (by omega)
    obtain ⟨dy, bB⟩ : ∃ x, aa[k]? = some x := ⟨_, List.getElem?_eq_getElem (by omega)⟩
    have bC := dt k dy bB
    obtain ⟨am, bV, bW, bX, bY, bZ, b0, b5, b6, b8, ca, d4, rfl, aQ, dz, dA, ft, fu⟩ := bC.open_
    rw [aQ] at bC
    have dB := dz.small
    have dC := dA.small
    rw [aQ] at aP
    refine of_op (wpOp_index aA (t := 36) (A := ak) (m := aa.length) (q := ((k : Nat) : Int)) (d := 29) kz (e := 39) (size := 5) (bytes := 88) kz cL rfl (by omega) fun fv bD => ?_)
    clear aA
    refine of_op (wpOp_load bD (t := 39) (b := dw) (o := dx + k * 5) (d := 30) kz (cs := [.int .i64 am, .slice bZ bV.length b0, .bool bW, .slice b5 bX.length b6, .slice b8 bY.length ca]) (v := .agg #[.int .i64 am, .slice bZ bV.length b0, .bool bW, .slice b5 bX.length b6, .slice b8 bY.length ca]) kz (AtF.move aP ay.step immM ay.to').at_ fun fw bE => ?_)
    clear bD
    refine of_op (wpOp_alloc al bE (d := 5) (cs := [.int .i64 0, .slice none 0 0, .bool false, .slice none 0 0, .slice none 0 0]) kz fun fx fy fz d5 d6 aR bF bG => ?_)
    clear bE al
    refine of_op (wpOp_store bF bG (oi := 3) (cs := [.int .i64 am, .slice bZ bV.length b0, .bool bW, .slice b5 bX.length b6, .slice b8 bY.length ca]) kz fun fA aS aT bH => ?_)
    clear bG bF
    refine wpOps_nil (then_normal ?_)
    refine go_region [0, 1, 2, 3, 4, 5, 6, 7, 8] kz ?_
    refine go_rn [0, 1, 2, 3, 4] [5, 6, 7, 8] [(1, .p 0 0), (2, .p 1 0), (3, .p 2 0), (25, .v (.slice ak aa.length aw)), (26, .v (.int .i64 ((aa.length : Nat) : Int))), (27, .v (.int .i64 ((k : Nat) : Int))), (32, .v (.slice A_ k c_)), (35, .v (.int .i32 (IntKind.i32.wrap am)))] aT bH fun fB bI => ?_
    clear bH
    refine wpOps_push aT bI (k := 0) (e := 21) (size := 1) (len := 1) (cs := [.int .i32 (IntKind.i32.wrap am)]) (d1 := 36) (d := 37) kz (t := 143) (bytes := 4) kz (fun _ => by kernel_rfl) rfl kz (by omega) fun ba bd fC fD aU aV ⟨_, bJ⟩ => ?_
    clear bI aT
    refine go_rn [7] [8] [(1, .p 0 0), (2, .p 1 0), (3, .p 2 0), (25, .v (.slice ak aa.length aw)), (26, .v (.int .i64 ((aa.length : Nat) : Int))), (27, .v (.int .i64 ((k : Nat) : Int))), (37, .v (.slice ba (k + 1) bd)), (38, .p 2 1)] aV bJ fun fE bK => ?_
    clear bJ
    refine of_op (wpOp_store aV bK (oi := 2) (cs := [.string (bs ah), .slice ba (k + 1) bd, .map none]) kz fun fF aW bL bM => ?_)
    clear bK aV
    refine wpOps_nil ?_
    refine block_normal ?_
    refine then_normal ?_
    refine go_region [0, 1] kz ?_
    refine go_rn [0, 1] [] [(1, .p 0 0), (2, .p 1 0), (3, .p 2 0), (25, .v (.slice ak aa.length aw)), (26, .v (.int .i64 ((aa.length : Nat) : Int))), (27, .v (.int .i64 (IntKind.i64.wrap (((k : Nat) : Int) + 1))))] bL bM fun fG cM => ?_
    clear bM
    refine wpOps_nil (then_normal ?_)
    obtain ⟨bN, bO, aX⟩ := bL.cutB cM 3 [⟨bf, 0, [.int .i64 n1, .slice A6 s2.length c7, .bool b3, .slice A8 l4.length c9, .slice ac u5.length ae], true⟩, ⟨au, 0, [.string ByteArray.empty, .slice none 0 0, .map none], true⟩, ⟨ag, 0, [.string (bs ah), .slice ba (k + 1) bd, .map none], true⟩] [(1, .p 0 0), (2, .p 1 0), (3, .p 2 0), (25, .v (.slice ak aa.length aw)), (26, .v (.int .i64 ((aa.length : Nat) : Int))), (27, .v (.int .i64 (IntKind.i64.wrap (((k : Nat) : Int) + 1))))]
    have cN : IntKind.i64.wrap (((k : Nat) : Int) + 1) = ((k + 1 : Nat) : Int) := wrap_succ (by omega)
    rw [cN] at bN
    exact ⟨aa.length - (k + 1), by omega, k + 1, ba, bd, xs_ ++ [Value.int .i32 (IntKind.i32.wrap am)], (ds_ ++ [(dvN (IntKind.i32.wrap am))]), rfl, by omega, own_some bO (k := 0) rfl (by omega), RowL.snoc (d := (dvN (IntKind.i32.wrap am))) (hR.move ((((aR.trans aS).trans aU).trans aW).trans aX).step immM ((((aR.trans aS).trans aU).trans aW).trans aX).to') bB rfl trivial rfl, bN.pk, bO, (((((ay.trans aR).trans aS).trans aU).trans aW).trans aX)⟩
   ·
    have d7 := of_decide_eq_false aO
    refine wp_exit ?_
    refine then_exit ?_
    refine then_exit ?_
    refine block_exit ?_
    refine then_normal ?_
    have hk_ : k = (lst (Tree.at_ (Tree.mk n1 s2 b3 l4 u5) 1)).length := by rw [hl3_]; omega
    subst k
    have hL_ := LstR.of al (k := 0) (rs' := []) rfl hR (by rw [hl3_]) (fun d => allOne_ok kz) (by omega)
    rw [← hl3_] at hL_
    obtain ⟨cO, cP⟩ := al.cutR 0 []
    exact ⟨_, _, _, by rw [hnull_]; exact hA, hL_, aA.pk, cO, (((((cD.trans cE).trans cG).trans cK).trans ay).trans cP)⟩
  ·
   refine wp_skip ?_
   refine then_normal ?_
   have hn_ : Tree.null (Tree.at_ (Tree.mk n1 s2 b3 l4 u5) 1) = true := by rw [bh]; show db = true; simpa using aI
   have hl_ := lst_no hn_
   exact ⟨none, 0, fun _ => dv0, by rw [hn_]; rfl, by rw [hl_]; exact LstR.nil mvNone, by rw [hl_]; exact ⟨ax.pk, ab, Fr.refl _ _ _⟩⟩
 rintro fH dD ⟨ao, ap, dE, cQ, bP, bQ, ar, d8⟩
 refine wp_seq ?_
 refine go_sp [(2, .p 1 0), (3, .p 2 0), (41, .v (.slice ac u5.length ae)), (42, .v (.int .i64 ((u5.length : Nat) : Int))), (43, .v (.int .i64 0))] ar bQ fun fI cR => ?_
 clear bQ
 refine wp_block ?_
 have cS := new_of ar 2 rfl kz
 have cT := cR.recast 2 (.p 1 0) (.v (.pointer (some ⟨au, 0, none⟩))) rfl rfl trivial
 have cV := cT.recast 3 (.p 2 0) (.v (.pointer (some ⟨ag, 0, none⟩))) rfl rfl trivial
 have cW := (cV.pick (ks := [2, 3, 41, 42, 43]) (env' := [(2, .v (.pointer (some ⟨au, 0, none⟩))), (3, .v (.pointer (some ⟨ag, 0, none⟩))), (41, .v (.slice ac u5.length ae)), (42, .v (.int .i64 ((u5.length : Nat) : Int))), (43, .v (.int .i64 0))]) kz).cutTb 0 kz
 refine wp_loop_ghost (fun q a_ w_ => ∃ (j : Nat) (m_ : Option Nat), q = u5.length - j ∧ j ≤ u5.length ∧ EnvOk 55 [] [(2, .v (.pointer (some ⟨au, 0, none⟩))), (3, .v (.pointer (some ⟨ag, 0, none⟩))), (41, .v (.slice ac u5.length ae)), (42, .v (.int .i64 ((u5.length : Nat) : Int))), (43, .v (.int .i64 ((j : Nat) : Int)))] a_ ∧ TL w dD w_ F ag 2 [.string (bs ah), .slice ao ((lst (Tree.at_ (Tree.mk n1 s2 b3 l4 u5) 1)).length) ap, .map none] m_ (u5.take j)) u5.length
  ⟨0, none, by omega, by omega, cW, TL.start ar 2 rfl rfl⟩ ?_
 rintro q aq wq ⟨j, m_, rfl, hj, hE2, hT⟩
 have hWq := WOk.start wq Nil
 refine go_sp [(2, .v (.pointer (some ⟨au, 0, none⟩))), (3, .v (.pointer (some ⟨ag, 0, none⟩))), (41, .v (.slice ac u5.length ae)), (42, .v (.int .i64 ((u5.length : Nat) : Int))), (43, .v (.int .i64 ((j : Nat) : Int))), (44, .v (.bool (decide (((j : Nat) : Int) < ((u5.length : Nat) : Int)))))] hWq hE2 fun aq2 hE3 => wp_seq ?_
 refine cond_of hE3 (b := decide (((j : Nat) : Int) < ((u5.length : Nat) : Int))) kz (fun hc => ?_) (fun hc => ?_)
 ·have hlt : j < u5.length := by have := of_decide_eq_true hc; omega
  refine wp_skip (then_normal (wp_seq (wp_block ?_)))
  obtain ⟨⟨k, x⟩, hu⟩ : ∃ y, u5[j]? = some y := ⟨_, List.getElem?_eq_getElem hlt⟩
  obtain ⟨bb, bo, xA, xc, hA, hat, hxo, hk⟩ := tag_at dG hu
  refine go_seq_region [0, 1, 2, 3] kz ?_
  refine of_op (wpOp_index hE3 (t := 37) (e := 64) (size := 2) (bytes := 32) (d := 45) (b := bb) (o := bo) (m := u5.length) (j := j) kz kz hA rfl hlt fun aq3 hE4 => ?_)
  refine of_op (wpOp_load hE4 (t := 64) (d := 46) (cs := [.int .u32 k, .slice xA x.length xc]) (v := .agg #[.int .u32 k, .slice xA x.length xc]) kz kz (hat.step_nil hT.step) fun aq4 hE5 => ?_)
  refine of_op (wpOp_alloc hWq hE5 (d := 7) (cs := [.int .u32 0, .slice none 0 0]) kz fun bx aq5 wq2 hbx hbx0 hFq2 hWq2 hE6 => ?_)
  refine of_op (wpOp_store hWq2 hE6 (oi := 0) (cs := [.int .u32 k, .slice xA x.length xc]) kz fun wq3 hFq3 hWq3 hE7 => wpOps_nil (then_normal ?_))
  refine go_region [0, 1, 2, 3, 4, 5] kz (go_rn [0, 1, 2, 3, 4] [5] [(2, .v (.pointer (some ⟨au, 0, none⟩))), (3, .v (.pointer (some ⟨ag, 0, none⟩))), (41, .v (.slice ac u5.length ae)), (42, .v (.int .i64 ((u5.length : Nat) : Int))), (43, .v (.int .i64 ((j : Nat) : Int))), (47, .v (.pointer (some ⟨ag, 2, none⟩))), (49, .v (.int .u32 k)), (51, .v (.slice xA x.length xc))] hWq3 hE7 fun aq6 hE8 => ?_)
  refine of_op (wpOp_call hE8 (f := 75) (vs := [.pointer (some ⟨ag, 2, none⟩), .int .u32 k, .slice xA x.length xc]) (d := 52) kz Tryz.call75 ((hT.move hWq3.step).set cS kz hsort hu hxo hk) ?_)
  rintro e_ wq5 ⟨rfl, hS5, r, hT5⟩
  refine ⟨_, rfl, fun aq7 hE9 => wpOps_nil (block_normal (then_normal ?_))⟩
  have dF := (hE9.pick (ks := [2, 3, 41, 42, 43]) (env' := [(2, .v (.pointer (some ⟨au, 0, none⟩))), (3, .v (.pointer (some ⟨ag, 0, none⟩))), (41, .v (.slice ac u5.length ae)), (42, .v (.int .i64 ((u5.length : Nat) : Int))), (43, .v (.int .i64 ((j : Nat) : Int)))]) kz).cutTb 0 kz
  refine go_region [0, 1] kz (go_rn [0, 1] [] [(2, .v (.pointer (some ⟨au, 0, none⟩))), (3, .v (.pointer (some ⟨ag, 0, none⟩))), (41, .v (.slice ac u5.length ae)), (42, .v (.int .i64 ((u5.length : Nat) : Int))), (43, .v (.int .i64 (IntKind.i64.wrap (((j : Nat) : Int) + 1))))] (WOk.start wq5 Nil) dF fun aq8 cX => wpOps_nil (then_normal ?_))
  rw [wrap_succ (by omega)] at cX
  exact ⟨u5.length - (j + 1), by omega, j + 1, some r, rfl, by omega, cX, hT5⟩
 ·obtain rfl : j = u5.length := by have := of_decide_eq_false hc; omega
  refine wp_exit (then_exit (then_exit (block_exit ?_)))
  rw [List.take_length] at hT
  obtain ⟨aB, aY⟩ := hT.tab ar 2 [⟨bf, 0, [.int .i64 n1, .slice A6 s2.length c7, .bool b3, .slice A8 l4.length c9, .slice ac u5.length ae], true⟩, ⟨au, 0, [.string ByteArray.empty, .slice none 0 0, .map none], true⟩, ⟨ag, 0, [.string (bs ah), .slice ao ((lst (Tree.at_ (Tree.mk n1 s2 b3 l4 u5) 1)).length) ap, .map m_], true⟩] rfl
  have cY := hT.mapImm ar aB aY hsort (tags_range dG)
  have cZ := (hE3.retable [⟨bf, 0, [.int .i64 n1, .slice A6 s2.length c7, .bool b3, .slice A8 l4.length c9, .slice ac u5.length ae], true⟩, ⟨au, 0, [.string ByteArray.empty, .slice none 0 0, .map none], true⟩, ⟨ag, 0, [.string (bs ah), .slice ao ((lst (Tree.at_ (Tree.mk n1 s2 b3 l4 u5) 1)).length) ap, .map m_], true⟩]).recast 2 (.v (.pointer (some ⟨au, 0, none⟩))) (.p 1 0) rfl rfl (Nat.le_of_ble_eq_true (n := 2) rfl)
  have c5 := cZ.recast 3 (.v (.pointer (some ⟨ag, 0, none⟩))) (.p 2 0) rfl rfl (Nat.le_of_ble_eq_true (n := 3) rfl)
  have bR : EnvOk 55 [⟨bf, 0, [.int .i64 n1, .slice A6 s2.length c7, .bool b3, .slice A8 l4.length c9, .slice ac u5.length ae], true⟩, ⟨au, 0, [.string ByteArray.empty, .slice none 0 0, .map none], true⟩, ⟨ag, 0, [.string (bs ah), .slice ao ((lst (Tree.at_ (Tree.mk n1 s2 b3 l4 u5) 1)).length) ap, .map m_], true⟩] [(2, .p 1 0), (3, .p 2 0)] _ := c5.pk
  refine then_normal ?_
  refine go_seq_region [0, 1] kz ?_
  refine go_rn [0] [1] [(2, .p 1 0), (54, .v (.agg #[.string (bs ah), .slice ao ((lst (Tree.at_ (Tree.mk n1 s2 b3 l4 u5) 1)).length) ap, .map m_]))] aB bR fun fJ bS => ?_
  clear bR
  refine of_op (wpOp_store aB bS (oi := 1) (cs := [.string (bs ah), .slice ao ((lst (Tree.at_ (Tree.mk n1 s2 b3 l4 u5) 1)).length) ap, .map m_]) kz fun fK aC bT da => ?_)
  clear bS aB
  refine wpOps_nil (then_normal ?_)
  refine wp_ret ?_
  refine leave da bT.cells (v := .agg #[.string (bs ah), .slice ao ((lst (Tree.at_ (Tree.mk n1 s2 b3 l4 u5) 1)).length) ap, .map m_]) kz ?_
  refine ⟨dvP m_ u5 [dvS (bs ah), dvL ao (lst (Tree.at_ (Tree.mk n1 s2 b3 l4 u5) 1)).length ap dE], rfl, ?_, ?_, bT.step⟩
  ·unfold okStreamsGroupHeartbeatResponsePartitionsByUserEndpointStandbyPartition
   exact ⟨by show ByteArray.size (bs ah) ≤ 1000000; rw [bs_size]; have h_ := cj0; rw [cq] at h_; exact h_, ⟨((bP.move (aY.trans aC).step immM (aY.trans aC).to').move (Step.refl _ Nil) nilM immOut).slots, cj1, fun _ _ => trivial⟩, ((cY.move aC.step immM aC.to').move (Step.refl _ Nil) nilM immOut), cU.2.1, cU.2.2, trivial⟩
  ·unfold relStreamsGroupHeartbeatResponsePartitionsByUserEndpointStandbyPartition
   exact ⟨by rw [cq]; rfl, ⟨cQ, rfl, bP.rel_⟩, rfl, trivial⟩
set_option maxHeartbeats 4000000 in
theorem eStreamsGroupHeartbeatResponsePartitionsByUserEndpoint (ct : List Value) (t : Tree) (w : World) (F : Nat → Nat → Prop) (ht : TreeR w F ct t) (hc : canStreamsGroupHeartbeatResponsePartitionsByUserEndpoint t) :
  Calls Tryz.prog 118 #[.agg ct.toArray] w (fun e w' => ∃ D : DV, e = .returned (.agg #[.string (((D.f 0).f 0).s), .int .u16 (((D.f 0).f 1).n), .map ((D.f 0).m), .slice ((D.f 1).A) ((D.f 1).l) ((D.f 1).c), .slice ((D.f 2).A) ((D.f 2).l) ((D.f 2).c), .map D.m]) ∧ okStreamsGroupHeartbeatResponsePartitionsByUserEndpoint w' (Fp F w) D ∧ relStreamsGroupHeartbeatResponsePartitionsByUserEndpoint D t ∧ Step w w' Nil) := by
 obtain ⟨n1, s2, b3, l4, u5, A6, c7, A8, c9, ah, ai, iC, rfl, rfl, iD, iE, lU, gO⟩ := ht.open_
 have gP := iD.small
 have gQ := iE.small
 unfold canStreamsGroupHeartbeatResponsePartitionsByUserEndpoint at hc
 obtain ⟨cj0, ⟨cj1, cj1e⟩, ⟨cj2, cj2e⟩, cU, _⟩ := hc
 have hsort := cU.1
 replace hsort : Sorted u5 := hsort
 have hul : u5.length ≤ 1000000 := cU.2.1
 refine enter (n := 81) Tryz.func118 rfl Tryz.ntmps118 kz fun a hE => ?_
 have hW := WOk.start w Nil
 refine go_seq_region [0, 1] kz ?_
 refine of_op (wpOp_box hW hE (d := 1) (cs := [.int .i64 n1, .slice A6 s2.length c7, .bool b3, .slice A8 l4.length c9, .slice ah u5.length ai]) kz fun bA lV lW iF iG iH eG eH => ?_)
 clear hE hW
 refine of_op (wpOp_alloc eG eH (d := 2) (cs := [.string ByteArray.empty, .int .u16 0, .map none, .slice none 0 0, .slice none 0 0, .map none]) kz fun av lX lY iI iJ iK eI eJ => ?_)
 clear eH eG
 refine wpOps_nil (then_normal ?_)
 refine go_seq_region [0] kz ?_
 refine of_op (wpOp_alloc eI eJ (d := 3) (cs := [.string ByteArray.empty, .int .u16 0, .map none, .slice none 0 0, .slice none 0 0, .map none]) kz fun ap lZ l0 iL iM iN bB eK => ?_)
 clear eJ eI
 refine wpOps_nil (then_normal ?_)
 refine go_seq_region [0, 1, 2, 3, 4] kz ?_
 refine go_rn [0] [1, 2, 3, 4] [(1, .p 0 0), (2, .p 1 0), (3, .p 2 0), (10, .v (.agg #[.int .i64 n1, .slice A6 s2.length c7, .bool b3, .slice A8 l4.length c9, .slice ah u5.length ai]))] bB eK fun l3 eL => ?_
 clear eK
 refine of_op (wpOp_call eL (f := 73) (vs := [.agg #[.int .i64 n1, .slice A6 s2.length c7, .bool b3, .slice A8 l4.length c9, .slice ah u5.length ai], .int .i64 0]) (d := 11) kz Tryz.call73 (iAt _ _ 0 _ _ (ht.move bB.step nilM bB.imm)) ?_)
 rintro e_ l5 ⟨iO, rfl, fT, bD⟩
 have ez := fT.move bD nilM (fun b o h_ hb_ => bB.laid (G := F) bD b o (.inl h_) (Nat.lt_of_lt_of_le hb_ bD.size))
 obtain ⟨iP, iQ, iR, iS, iT, iU, iV, iW, iX, iY, iZ, i6, i7, c5, ja, jb, l6, l7⟩ := ez.open_
 rw [c5] at ez
 have gR := ja.small
 have gS := jb.small
 rw [c5]
 refine ⟨_, rfl, fun l9 eM => ?_⟩
 have eA := bB.next_nil bD
 have jc := bB.frN bD
 clear eL
 refine of_op (wpOp_call eM (f := 140) (vs := [.agg #[.int .i64 iP, .slice iU iQ.length iV, .bool iR, .slice iW iS.length iX, .slice iY iT.length iZ]]) (d := 12) kz Tryz.call140 (eEndpoint _ _ _ _ ez cj0) ?_)
 rintro e_ ma ⟨aa, rfl, fU, eB, eC⟩
 have fV := mvEndpoint _ (Step.refl _ Nil) nilM (eA.laid (G := F) eC) fU
 refine ⟨_, rfl, fun mc eN => ?_⟩
 have eD := eA.next_nil eC
 have jd := eA.frN eC
 clear eM
 refine go_rn [3] [4] [(1, .p 0 0), (2, .p 1 0), (3, .p 2 0), (12, .v (.agg #[.string ((aa.f 0).s), .int .u16 ((aa.f 1).n), .map aa.m])), (13, .p 2 0)] eD eN fun md eO => ?_
 clear eN
 refine of_op (wpOp_store eD eO (oi := 2) (cs := [.string ((aa.f 0).s), .int .u16 ((aa.f 1).n), .map aa.m, .slice none 0 0, .slice none 0 0, .map none]) kz fun me eP bC eQ => ?_)
 clear eO eD
 refine wpOps_nil (then_normal ?_)
 refine wp_seq ?_
 refine go_seq_region [0, 1, 2, 3] kz ?_
 refine go_rn [0] [1, 2, 3] [(1, .p 0 0), (2, .p 1 0), (3, .p 2 0), (14, .v (.agg #[.int .i64 n1, .slice A6 s2.length c7, .bool b3, .slice A8 l4.length c9, .slice ah u5.length ai]))] bC eQ fun mf eR => ?_
 clear eQ
 refine of_op (wpOp_call eR (f := 73) (vs := [.agg #[.int .i64 n1, .slice A6 s2.length c7, .bool b3, .slice A8 l4.length c9, .slice ah u5.length ai], .int .i64 1]) (d := 15) kz Tryz.call73 (iAt _ _ 1 _ _ (ht.move bC.step nilM bC.imm)) ?_)
 rintro e_ mg ⟨je, rfl, fW, bE⟩
 have eS := fW.move bE nilM (fun b o h_ hb_ => bC.laid (G := F) bE b o (.inl h_) (Nat.lt_of_lt_of_le hb_ bE.size))
 obtain ⟨mh, jf, cW, jg, jh, ji, jj, jk, jl, jm, jn, gT, da, bF, fX, fY, jo, jp⟩ := eS.open_
 rw [bF] at eS
 have fZ := fX.small
 have f0 := fY.small
 rw [bF]
 refine ⟨_, rfl, fun jq db => ?_⟩
 have am := bC.next_nil bE
 have dc := bC.frN bE
 clear eR
 refine go_rn [2, 3] [] [(1, .p 0 0), (2, .p 1 0), (3, .p 2 0), (17, .v (.bool (!cW)))] am db fun jr bt => ?_
 clear db
 refine wpOps_nil (then_normal ?_)
 refine wp_join (Mid := fun a_ w_ => ∃ (A_ : Option Addr) (c_ : Nat) (f_ : Nat → DV), A_.isNone = Tree.null (Tree.at_ (Tree.mk n1 s2 b3 l4 u5) 1) ∧ LstR w_ (Imm F w w_ [⟨bA, 0, [.int .i64 n1, .slice A6 s2.length c7, .bool b3, .slice A8 l4.length c9, .slice ah u5.length ai], true⟩, ⟨av, 0, [.string ByteArray.empty, .int .u16 0, .map none, .slice none 0 0, .slice none 0 0, .map none], true⟩, ⟨ap, 0, [.string ((aa.f 0).s), .int .u16 ((aa.f 1).n), .map aa.m, .slice A_ ((lst (Tree.at_ (Tree.mk n1 s2 b3 l4 u5) 1)).length) c_, .slice none 0 0, .map none], true⟩] []) 3 clStreamsGroupHeartbeatResponsePartitionsByUserEndpointActivePartition okStreamsGroupHeartbeatResponsePartitionsByUserEndpointActivePartition relStreamsGroupHeartbeatResponsePartitionsByUserEndpointActivePartition A_ c_ f_ (lst (Tree.at_ (Tree.mk n1 s2 b3 l4 u5) 1)) ∧ LInv am 81 [⟨bA, 0, [.int .i64 n1, .slice A6 s2.length c7, .bool b3, .slice A8 l4.length c9, .slice ah u5.length ai], true⟩, ⟨av, 0, [.string ByteArray.empty, .int .u16 0, .map none, .slice none 0 0, .slice none 0 0, .map none], true⟩, ⟨ap, 0, [.string ((aa.f 0).s), .int .u16 ((aa.f 1).n), .map aa.m, .slice A_ ((lst (Tree.at_ (Tree.mk n1 s2 b3 l4 u5) 1)).length) c_, .slice none 0 0, .map none], true⟩] [] [(1, .p 0 0), (2, .p 1 0), (3, .p 2 0)] a_ w_) ?_ ?_
 ·
  refine cond_of bt (b := !cW) kz (fun bG => ?_) (fun bG => ?_)
  ·
   have hnull_ : Tree.null (Tree.at_ (Tree.mk n1 s2 b3 l4 u5) 1) = false := by rw [da]; show cW = false; simpa using bG
   refine go_seq_region [0, 1, 2, 3, 4, 5, 6] kz ?_
   refine go_rn [0] [1, 2, 3, 4, 5, 6] [(1, .p 0 0), (2, .p 1 0), (3, .p 2 0), (18, .v (.agg #[.int .i64 n1, .slice A6 s2.length c7, .bool b3, .slice A8 l4.length c9, .slice ah u5.length ai]))] am bt fun js de => ?_
   clear bt
   refine of_op (wpOp_call de (f := 73) (vs := [.agg #[.int .i64 n1, .slice A6 s2.length c7, .bool b3, .slice A8 l4.length c9, .slice ah u5.length ai], .int .i64 1]) (d := 19) kz Tryz.call73 (iAt _ _ 1 _ _ (ht.move am.step nilM am.imm)) ?_)
   rintro e_ jt ⟨gU, rfl, eT, aI⟩
   have df := eT.move aI nilM (fun b o h_ hb_ => am.laid (G := F) aI b o (.inl h_) (Nat.lt_of_lt_of_le hb_ aI.size))
   obtain ⟨ju, jv, jw, bn, jx, jy, jz, jA, jB, jC, jD, gV, eU, bH, f5, f8, jE, jF⟩ := df.open_
   rw [bH] at df
   have f9 := f5.small
   have ga := f8.small
   rw [bH]
   refine ⟨_, rfl, fun jG dg => ?_⟩
   have bI := am.next_nil aI
   have eV := am.frN aI
   clear de
   have hl3_ : lst (Tree.at_ (Tree.mk n1 s2 b3 l4 u5) 1) = bn := by rw [lst_of hnull_, eU]; rfl
   have gW : bn.length ≤ 1000000 := by have h_ := cj1; rw [hl3_] at h_; exact h_
   refine go_rn [2, 3] [4, 5, 6] [(1, .p 0 0), (2, .p 1 0), (3, .p 2 0), (21, .v (.int .i64 ((bn.length : Nat) : Int)))] bI dg fun jH dh => ?_
   clear dg
   refine of_op (wpOp_make0 bI dh (d := 22) (j := bn.length) (t := 179) (e := 192) (size := 3) (bytes := 48) kz kz rfl (rfl) (by omega) fun eE jI jJ gX gY eW bJ di => ?_)
   clear dh bI
   refine go_rn [5] [6] [(1, .p 0 0), (2, .p 1 0), (3, .p 2 0), (22, .v (.slice (some ⟨eE, 0, none⟩) 0 bn.length)), (23, .p 2 3)] bJ di fun jK dj => ?_
   clear di
   refine of_op (wpOp_store bJ dj (oi := 2) (cs := [.string ((aa.f 0).s), .int .u16 ((aa.f 1).n), .map aa.m, .slice (some ⟨eE, 0, none⟩) 0 bn.length, .slice none 0 0, .map none]) kz fun jL eX aw dl => ?_)
   clear dj bJ
   refine wpOps_nil (then_normal ?_)
   refine go_seq_region [0, 1, 2, 3, 4] kz ?_
   refine go_rn [0] [1, 2, 3, 4] [(1, .p 0 0), (2, .p 1 0), (3, .p 2 0), (24, .v (.agg #[.int .i64 n1, .slice A6 s2.length c7, .bool b3, .slice A8 l4.length c9, .slice ah u5.length ai]))] aw dl fun jM dp => ?_
   clear dl
   refine of_op (wpOp_call dp (f := 73) (vs := [.agg #[.int .i64 n1, .slice A6 s2.length c7, .bool b3, .slice A8 l4.length c9, .slice ah u5.length ai], .int .i64 1]) (d := 25) kz Tryz.call73 (iAt _ _ 1 _ _ (ht.move aw.step nilM aw.imm)) ?_)
   rintro e_ jN ⟨gZ, rfl, eY, aJ⟩
   have dq := eY.move aJ nilM (fun b o h_ hb_ => aw.laid (G := F) aJ b o (.inl h_) (Nat.lt_of_lt_of_le hb_ aJ.size))
   obtain ⟨jO, jP, jQ, ab, jR, jS, jT, aK, bp, jU, jV, g6, eZ, bK, gb, e5, gc, jW⟩ := dq.open_
   rw [bK] at dq
   have gd := gb.small
   have ge := e5.small
   rw [bK]
   refine ⟨_, rfl, fun jX dr => ?_⟩
   have bL := aw.next_nil aJ
   have e6 := aw.frN aJ
   clear dp
   have hl3_ : lst (Tree.at_ (Tree.mk n1 s2 b3 l4 u5) 1) = ab := by rw [lst_of hnull_, eZ]; rfl
   have g7 : ab.length ≤ 1000000 := by have h_ := cj1; rw [hl3_] at h_; exact h_
   refine go_rn [2, 3, 4] [] [(1, .p 0 0), (2, .p 1 0), (3, .p 2 0), (26, .v (.slice aK ab.length bp)), (27, .v (.int .i64 ((ab.length : Nat) : Int))), (28, .v (.int .i64 0))] bL dr fun jY dt => ?_
   clear dr
   refine wpOps_nil (then_normal ?_)
   refine wp_block ?_
   refine wp_loop_ghost (fun n_ a_ w_ => ∃ (k : Nat) (A_ : Option Addr) (c_ : Nat) (xs_ : List Value) (ds_ : List DV), n_ = ab.length - k ∧ k ≤ ab.length ∧ (A_.isNone = false) ∧ (RowL w_ (Imm F w w_ [⟨bA, 0, [.int .i64 n1, .slice A6 s2.length c7, .bool b3, .slice A8 l4.length c9, .slice ah u5.length ai], true⟩, ⟨av, 0, [.string ByteArray.empty, .int .u16 0, .map none, .slice none 0 0, .slice none 0 0, .map none], true⟩, ⟨ap, 0, [.string ((aa.f 0).s), .int .u16 ((aa.f 1).n), .map aa.m, .slice A_ k c_, .slice none 0 0, .map none], true⟩] [⟨A_, c_, 192, 3, k, xs_⟩]) 3 clStreamsGroupHeartbeatResponsePartitionsByUserEndpointActivePartition okStreamsGroupHeartbeatResponsePartitionsByUserEndpointActivePartition relStreamsGroupHeartbeatResponsePartitionsByUserEndpointActivePartition xs_ ds_ (ab.take k)) ∧ LInv bL 81 [⟨bA, 0, [.int .i64 n1, .slice A6 s2.length c7, .bool b3, .slice A8 l4.length c9, .slice ah u5.length ai], true⟩, ⟨av, 0, [.string ByteArray.empty, .int .u16 0, .map none, .slice none 0 0, .slice none 0 0, .map none], true⟩, ⟨ap, 0, [.string ((aa.f 0).s), .int .u16 ((aa.f 1).n), .map aa.m, .slice A_ k c_, .slice none 0 0, .map none], true⟩] [⟨A_, c_, 192, 3, k, xs_⟩] [(1, .p 0 0), (2, .p 1 0), (3, .p 2 0), (26, .v (.slice aK ab.length bp)), (27, .v (.int .i64 ((ab.length : Nat) : Int))), (28, .v (.int .i64 ((k : Nat) : Int)))] a_ w_) (ab.length) ⟨0, (some ⟨eE, 0, none⟩), bn.length, [], [], by omega, by omega, rfl, RowL.nil mvStreamsGroupHeartbeatResponsePartitionsByUserEndpointActivePartition, dt.pk, bL, Fr.refl _ _ _⟩ ?_
   clear dt
   rintro jZ j0 j1 ⟨k, A_, c_, xs_, ds_, g8, g9, hA, hR, du, aL, ax⟩
   refine go_sp [(1, .p 0 0), (2, .p 1 0), (3, .p 2 0), (26, .v (.slice aK ab.length bp)), (27, .v (.int .i64 ((ab.length : Nat) : Int))), (28, .v (.int .i64 ((k : Nat) : Int))), (29, .v (.bool (decide (((k : Nat) : Int) < ((ab.length : Nat) : Int)))))] aL du fun j2 bu => ?_
   clear du
   refine wp_seq ?_
   refine cond_of bu (b := decide (((k : Nat) : Int) < ((ab.length : Nat) : Int))) kz (fun bM => ?_) (fun bM => ?_)
   ·
    have hC := of_decide_eq_true bM
    refine wp_skip ?_
    refine then_normal ?_
    refine wp_seq ?_
    refine wp_block ?_
    refine go_seq_region [0, 1, 2, 3] kz ?_
    obtain ⟨gf, gg, e7, hJ, bN⟩ := Slots.get e5 (i := k) (by omega)
    obtain ⟨gh, bO⟩ : ∃ x, ab[k]? = some x := ⟨_, List.getElem?_eq_getElem (by omega)⟩
    have bP := gc k gh bO
    obtain ⟨bQ, bR, bS, bT, bU, bV, bW, bX, bY, bZ, b0, hK, rfl, b5, gi, gj, j3, j4⟩ := bP.open_
    rw [b5] at bP
    have gk := gi.small
    have gl := gj.small
    rw [b5] at bN
    refine of_op (wpOp_index bu (t := 36) (A := aK) (m := ab.length) (q := ((k : Nat) : Int)) (d := 30) kz (e := 39) (size := 5) (bytes := 88) kz e7 rfl (by omega) fun j5 dv => ?_)
    clear bu
    refine of_op (wpOp_load dv (t := 39) (b := gf) (o := gg + k * 5) (d := 31) kz (cs := [.int .i64 bQ, .slice bV bR.length bW, .bool bS, .slice bX bT.length bY, .slice bZ bU.length b0]) (v := .agg #[.int .i64 bQ, .slice bV bR.length bW, .bool bS, .slice bX bT.length bY, .slice bZ bU.length b0]) kz (AtF.move bN ax.step immM ax.to').at_ fun j6 dw => ?_)
    clear dv
    refine of_op (wpOp_alloc aL dw (d := 5) (cs := [.int .i64 0, .slice none 0 0, .bool false, .slice none 0 0, .slice none 0 0]) kz fun j7 j8 j9 hP hX aM dx dy => ?_)
    clear dw aL
    refine of_op (wpOp_store dx dy (oi := 3) (cs := [.int .i64 bQ, .slice bV bR.length bW, .bool bS, .slice bX bT.length bY, .slice bZ bU.length b0]) kz fun ka aN dz dA => ?_)
    clear dy dx
    refine wpOps_nil (then_normal ?_)
    refine go_drawK 7 kz dz fun kd aO b6 e9 => ?_
    clear dz
    refine go_rnD [0, 1, 2] [(1, .p 0 0), (2, .p 1 0), (3, .p 2 0), (26, .v (.slice aK ab.length bp)), (27, .v (.int .i64 ((ab.length : Nat) : Int))), (28, .v (.int .i64 ((k : Nat) : Int))), (33, .v (.slice A_ k c_)), (34, .v (.agg #[.int .i64 bQ, .slice bV bR.length bW, .bool bS, .slice bX bT.length bY, .slice bZ bU.length b0]))] 5 (panicFree_block (panicFree_then (panicFree_then (panicFree_block (panicFree_then panicFree_body))))) (fun _ h => h.cells) e9 dA fun ke dB => ?_
    clear dA
    refine anyC_op (i := 3) kz (wpOp_call dB (f := 141) (vs := [.agg #[.int .i64 bQ, .slice bV bR.length bW, .bool bS, .slice bX bT.length bY, .slice bZ bU.length b0]]) (d := 35) kz Tryz.call141 (eStreamsGroupHeartbeatResponsePartitionsByUserEndpointActivePartition _ _ _ _ (bP.move (((ax.trans aM).trans aN).trans aO).step immM (((ax.trans aM).trans aN).trans aO).to') (cj1e _ (by rw [hl3_]; exact List.mem_of_getElem? bO))) ?_)
    rintro e_ kf ⟨ae, rfl, fa, cX, b8⟩
    have fb := mvStreamsGroupHeartbeatResponsePartitionsByUserEndpointActivePartition _ (Step.refl _ Nil) nilM (b6.laid (G := F) b8) fa
    refine ⟨_, rfl, fun kg dC => ?_⟩
    have ca := b6.next_nil b8
    have ay := b6.frN b8
    clear dB
    have fc := TT.ofW ay ca
    refine ⟨fun _ => fc, ?_⟩
    refine anyC_op (i := 4) kz (wpOp_lit ca dC (e := 192) (size := 3) (len := 1) (cs := [.string ((ae.f 0).s), .slice ((ae.f 1).A) ((ae.f 1).l) ((ae.f 1).c), .map ae.m]) (d := 36) kz kz fun gm kh ki hY hZ ar aP dD => ?_)
    clear dC ca
    have fe := TT.ofW (ay.trans ar) aP
    refine ⟨fun _ => fe, ?_⟩
    refine anyC_op (i := 5) kz (wpOp_append aP dD (k := 0) (d := 37) (t := 179) (e := 192) (size := 3) (bytes := 48) (A := A_) (As := (some ⟨gm, 0, none⟩)) (m0 := k) (c := c_) (m := 1) (cs := 1) (xs := xs_) (news := [.string ((ae.f 0).s), .slice ((ae.f 1).A) ((ae.f 1).l) ((ae.f 1).c), .map ae.m]) kz kz rfl (own_src (aP.own 1 _ rfl) (allOne_ok kz)) (own_cap (aP.own 1 _ rfl)) (by omega) fun cb cc kj km aA cd dE => ?_)
    clear dD aP
    have dF := TT.ofW ((ay.trans ar).trans aA) cd
    refine ⟨fun _ => dF, ?_⟩
    refine go_rnD [6] [(1, .p 0 0), (2, .p 1 0), (3, .p 2 0), (26, .v (.slice aK ab.length bp)), (27, .v (.int .i64 ((ab.length : Nat) : Int))), (28, .v (.int .i64 ((k : Nat) : Int))), (37, .v (.slice cb (k + 1) cc)), (38, .p 2 3)] 1 (panicFree_block (panicFree_then (panicFree_then (panicFree_block (panicFree_then panicFree_body))))) (fun _ h => h.cells) dF dE fun kn dG => ?_
    clear dE
    refine anyC_op (i := 7) kz (wpOp_store cd dG (oi := 2) (cs := [.string ((aa.f 0).s), .int .u16 ((aa.f 1).n), .map aa.m, .slice cb (k + 1) cc, .slice none 0 0, .map none]) kz fun ko aQ dH dI => ?_)
    clear dG cd
    refine ⟨fun h => absurd rfl h, ?_⟩
    refine anyC_done kz ?_ _
    refine block_normal ?_
    refine then_normal ?_
    refine go_region [0, 1] kz ?_
    refine go_rn [0, 1] [] [(1, .p 0 0), (2, .p 1 0), (3, .p 2 0), (26, .v (.slice aK ab.length bp)), (27, .v (.int .i64 ((ab.length : Nat) : Int))), (28, .v (.int .i64 (IntKind.i64.wrap (((k : Nat) : Int) + 1))))] dH dI fun kp ff => ?_
    clear dI
    refine wpOps_nil (then_normal ?_)
    obtain ⟨dJ, fg, aR⟩ := dH.cutB ff 3 [⟨bA, 0, [.int .i64 n1, .slice A6 s2.length c7, .bool b3, .slice A8 l4.length c9, .slice ah u5.length ai], true⟩, ⟨av, 0, [.string ByteArray.empty, .int .u16 0, .map none, .slice none 0 0, .slice none 0 0, .map none], true⟩, ⟨ap, 0, [.string ((aa.f 0).s), .int .u16 ((aa.f 1).n), .map aa.m, .slice cb (k + 1) cc, .slice none 0 0, .map none], true⟩] [(1, .p 0 0), (2, .p 1 0), (3, .p 2 0), (26, .v (.slice aK ab.length bp)), (27, .v (.int .i64 ((ab.length : Nat) : Int))), (28, .v (.int .i64 (IntKind.i64.wrap (((k : Nat) : Int) + 1))))]
    obtain ⟨dK, aS⟩ := fg.cutR 1 [⟨cb, cc, 192, 3, k + 1, xs_ ++ [.string ((ae.f 0).s), .slice ((ae.f 1).A) ((ae.f 1).l) ((ae.f 1).c), .map ae.m]⟩]
    have fh : IntKind.i64.wrap (((k : Nat) : Int) + 1) = ((k + 1 : Nat) : Int) := wrap_succ (by omega)
    rw [fh] at dJ
    exact ⟨ab.length - (k + 1), by omega, k + 1, cb, cc, xs_ ++ [Value.string ((ae.f 0).s), .slice ((ae.f 1).A) ((ae.f 1).l) ((ae.f 1).c), .map ae.m], (ds_ ++ [ae]), rfl, by omega, own_some dK (k := 0) rfl (by omega), RowL.snoc (d := ae) (hR.move ((((((((aM.trans aN).trans aO).trans ay).trans ar).trans aA).trans aQ).trans aR).trans aS).step immM ((((((((aM.trans aN).trans aO).trans ay).trans ar).trans aA).trans aQ).trans aR).trans aS).to') bO rfl (mvStreamsGroupHeartbeatResponsePartitionsByUserEndpointActivePartition _ ((((ar.trans aA).trans aQ).trans aR).trans aS).step immM ((((ar.trans aA).trans aQ).trans aR).trans aS).to' fb) cX, dJ.pk, dK, (((((((((ax.trans aM).trans aN).trans aO).trans ay).trans ar).trans aA).trans aQ).trans aR).trans aS)⟩
   ·
    have ia := of_decide_eq_false bM
    refine wp_exit ?_
    refine then_exit ?_
    refine then_exit ?_
    refine block_exit ?_
    refine then_normal ?_
    have hk_ : k = (lst (Tree.at_ (Tree.mk n1 s2 b3 l4 u5) 1)).length := by rw [hl3_]; omega
    subst k
    have hL_ := LstR.of aL (k := 0) (rs' := []) rfl hR (by rw [hl3_]) oneStreamsGroupHeartbeatResponsePartitionsByUserEndpointActivePartition (by omega)
    rw [← hl3_] at hL_
    obtain ⟨fi, fj⟩ := aL.cutR 0 []
    exact ⟨_, _, _, by rw [hnull_]; exact hA, hL_, bu.pk, fi, (((((eV.trans eW).trans eX).trans e6).trans ax).trans fj)⟩
  ·
   refine wp_skip ?_
   refine then_normal ?_
   have hn_ : Tree.null (Tree.at_ (Tree.mk n1 s2 b3 l4 u5) 1) = true := by rw [da]; show cW = true; simpa using bG
   have hl_ := lst_no hn_
   exact ⟨none, 0, fun _ => dv0, by rw [hn_]; rfl, by rw [hl_]; exact LstR.nil mvStreamsGroupHeartbeatResponsePartitionsByUserEndpointActivePartition, by rw [hl_]; exact ⟨bt.pk, am, Fr.refl _ _ _⟩⟩
 rintro kq ku ⟨ak, al, gn, fk, ce, dL, aB, dM⟩
 refine wp_seq ?_
 refine go_seq_region [0, 1, 2, 3] kz ?_
 refine go_rn [0] [1, 2, 3] [(1, .p 0 0), (2, .p 1 0), (3, .p 2 0), (40, .v (.agg #[.int .i64 n1, .slice A6 s2.length c7, .bool b3, .slice A8 l4.length c9, .slice ah u5.length ai]))] aB dL fun kv dN => ?_
 clear dL
 refine of_op (wpOp_call dN (f := 73) (vs := [.agg #[.int .i64 n1, .slice A6 s2.length c7, .bool b3, .slice A8 l4.length c9, .slice ah u5.length ai], .int .i64 2]) (d := 41) kz Tryz.call73 (iAt _ _ 2 _ _ (ht.move aB.step nilM aB.imm)) ?_)
 rintro e_ kw ⟨ib, rfl, fl, aT⟩
 have dO := fl.move aT nilM (fun b o h_ hb_ => aB.laid (G := F) aT b o (.inl h_) (Nat.lt_of_lt_of_le hb_ aT.size))
 obtain ⟨kx, ky, cY, kA, kB, kC, kD, kE, kF, kG, kH, ic, dP, cg, gp, gq, kI, kJ⟩ := dO.open_
 rw [cg] at dO
 have gt := gp.small
 have gu := gq.small
 rw [cg]
 refine ⟨_, rfl, fun kK dQ => ?_⟩
 have ao := aB.next_nil aT
 have aC := aB.frN aT
 clear dN
 refine go_rn [2, 3] [] [(1, .p 0 0), (2, .p 1 0), (3, .p 2 0), (43, .v (.bool (!cY)))] ao dQ fun kL bv => ?_
 clear dQ
 refine wpOps_nil (then_normal ?_)
 refine wp_join (Mid := fun a_ w_ => ∃ (A_ : Option Addr) (c_ : Nat) (f_ : Nat → DV), A_.isNone = Tree.null (Tree.at_ (Tree.mk n1 s2 b3 l4 u5) 2) ∧ LstR w_ (Imm F w w_ [⟨bA, 0, [.int .i64 n1, .slice A6 s2.length c7, .bool b3, .slice A8 l4.length c9, .slice ah u5.length ai], true⟩, ⟨av, 0, [.string ByteArray.empty, .int .u16 0, .map none, .slice none 0 0, .slice none 0 0, .map none], true⟩, ⟨ap, 0, [.string ((aa.f 0).s), .int .u16 ((aa.f 1).n), .map aa.m, .slice ak ((lst (Tree.at_ (Tree.mk n1 s2 b3 l4 u5) 1)).length) al, .slice A_ ((lst (Tree.at_ (Tree.mk n1 s2 b3 l4 u5) 2)).length) c_, .map none], true⟩] []) 3 clStreamsGroupHeartbeatResponsePartitionsByUserEndpointStandbyPartition okStreamsGroupHeartbeatResponsePartitionsByUserEndpointStandbyPartition relStreamsGroupHeartbeatResponsePartitionsByUserEndpointStandbyPartition A_ c_ f_ (lst (Tree.at_ (Tree.mk n1 s2 b3 l4 u5) 2)) ∧ LInv ao 81 [⟨bA, 0, [.int .i64 n1, .slice A6 s2.length c7, .bool b3, .slice A8 l4.length c9, .slice ah u5.length ai], true⟩, ⟨av, 0, [.string ByteArray.empty, .int .u16 0, .map none, .slice none 0 0, .slice none 0 0, .map none], true⟩, ⟨ap, 0, [.string ((aa.f 0).s), .int .u16 ((aa.f 1).n), .map aa.m, .slice ak ((lst (Tree.at_ (Tree.mk n1 s2 b3 l4 u5) 1)).length) al, .slice A_ ((lst (Tree.at_ (Tree.mk n1 s2 b3 l4 u5) 2)).length) c_, .map none], true⟩] [] [(1, .p 0 0), (2, .p 1 0), (3, .p 2 0)] a_ w_) ?_ ?_
 ·
  refine cond_of bv (b := !cY) kz (fun cl => ?_) (fun cl => ?_)
  ·
   have hnull_ : Tree.null (Tree.at_ (Tree.mk n1 s2 b3 l4 u5) 2) = false := by rw [dP]; show cY = false; simpa using cl
   refine go_seq_region [0, 1, 2, 3, 4, 5, 6] kz ?_
   refine go_rn [0] [1, 2, 3, 4, 5, 6] [(1, .p 0 0), (2, .p 1 0), (3, .p 2 0), (44, .v (.agg #[.int .i64 n1, .slice A6 s2.length c7, .bool b3, .slice A8 l4.length c9, .slice ah u5.length ai]))] ao bv fun kM dR => ?_
   clear bv
   refine of_op (wpOp_call dR (f := 73) (vs := [.agg #[.int .i64 n1, .slice A6 s2.length c7, .bool b3, .slice A8 l4.length c9, .slice ah u5.length ai], .int .i64 2]) (d := 45) kz Tryz.call73 (iAt _ _ 2 _ _ (ht.move ao.step nilM ao.imm)) ?_)
   rintro e_ kN ⟨ig, rfl, fm, aU⟩
   have dS := fm.move aU nilM (fun b o h_ hb_ => ao.laid (G := F) aU b o (.inl h_) (Nat.lt_of_lt_of_le hb_ aU.size))
   obtain ⟨kO, kP, kQ, bq, kR, kS, kT, kU, kV, kW, kX, ii, fo, cm, gv, gw, kY, kZ⟩ := dS.open_
   rw [cm] at dS
   have gx := gv.small
   have gy := gw.small
   rw [cm]
   refine ⟨_, rfl, fun k5 dT => ?_⟩
   have cq := ao.next_nil aU
   have fp := ao.frN aU
   clear dR
   have hl3_ : lst (Tree.at_ (Tree.mk n1 s2 b3 l4 u5) 2) = bq := by rw [lst_of hnull_, fo]; rfl
   have ij : bq.length ≤ 1000000 := by have h_ := cj2; rw [hl3_] at h_; exact h_
   refine go_rn [2, 3] [4, 5, 6] [(1, .p 0 0), (2, .p 1 0), (3, .p 2 0), (47, .v (.int .i64 ((bq.length : Nat) : Int)))] cq dT fun k6 dU => ?_
   clear dT
   refine of_op (wpOp_make0 cq dU (d := 48) (j := bq.length) (t := 180) (e := 194) (size := 3) (bytes := 48) kz kz rfl (rfl) (by omega) fun eF k7 k8 ik il fq cr dV => ?_)
   clear dU cq
   refine go_rn [5] [6] [(1, .p 0 0), (2, .p 1 0), (3, .p 2 0), (48, .v (.slice (some ⟨eF, 0, none⟩) 0 bq.length)), (49, .p 2 4)] cr dV fun k9 dW => ?_
   clear dV
   refine of_op (wpOp_store cr dW (oi := 2) (cs := [.string ((aa.f 0).s), .int .u16 ((aa.f 1).n), .map aa.m, .slice ak ((lst (Tree.at_ (Tree.mk n1 s2 b3 l4 u5) 1)).length) al, .slice (some ⟨eF, 0, none⟩) 0 bq.length, .map none]) kz fun la fr aD dX => ?_)
   clear dW cr
   refine wpOps_nil (then_normal ?_)
   refine go_seq_region [0, 1, 2, 3, 4] kz ?_
   refine go_rn [0] [1, 2, 3, 4] [(1, .p 0 0), (2, .p 1 0), (3, .p 2 0), (50, .v (.agg #[.int .i64 n1, .slice A6 s2.length c7, .bool b3, .slice A8 l4.length c9, .slice ah u5.length ai]))] aD dX fun lb dY => ?_
   clear dX
   refine of_op (wpOp_call dY (f := 73) (vs := [.agg #[.int .i64 n1, .slice A6 s2.length c7, .bool b3, .slice A8 l4.length c9, .slice ah u5.length ai], .int .i64 2]) (d := 51) kz Tryz.call73 (iAt _ _ 2 _ _ (ht.move aD.step nilM aD.imm)) ?_)
   rintro e_ lc ⟨im, rfl, ft, aV⟩
   have dZ := ft.move aV nilM (fun b o h_ hb_ => aD.laid (G := F) aV b o (.inl h_) (Nat.lt_of_lt_of_le hb_ aV.size))
   obtain ⟨ld, lf, lg, ac, lh, li, lj, aW, br, lm, ln, io, fu, cu, gz, fv, gA, lp⟩ := dZ.open_
   rw [cu] at dZ
   have gB := gz.small
   have gC := fv.small
   rw [cu]
   refine ⟨_, rfl, fun lq d4 => ?_⟩
   have cv := aD.next_nil aV
   have fw := aD.frN aV
   clear dY
   have hl3_ : lst (Tree.at_ (Tree.mk n1 s2 b3 l4 u5) 2) = ac := by rw [lst_of hnull_, fu]; rfl
   have ip : ac.length ≤ 1000000 := by have h_ := cj2; rw [hl3_] at h_; exact h_
   refine go_rn [2, 3, 4] [] [(1, .p 0 0), (2, .p 1 0), (3, .p 2 0), (52, .v (.slice aW ac.length br)), (53, .v (.int .i64 ((ac.length : Nat) : Int))), (54, .v (.int .i64 0))] cv d4 fun lr d5 => ?_
   clear d4
   refine wpOps_nil (then_normal ?_)
   refine wp_block ?_
   refine wp_loop_ghost (fun n_ a_ w_ => ∃ (k : Nat) (A_ : Option Addr) (c_ : Nat) (xs_ : List Value) (ds_ : List DV), n_ = ac.length - k ∧ k ≤ ac.length ∧ (A_.isNone = false) ∧ (RowL w_ (Imm F w w_ [⟨bA, 0, [.int .i64 n1, .slice A6 s2.length c7, .bool b3, .slice A8 l4.length c9, .slice ah u5.length ai], true⟩, ⟨av, 0, [.string ByteArray.empty, .int .u16 0, .map none, .slice none 0 0, .slice none 0 0, .map none], true⟩, ⟨ap, 0, [.string ((aa.f 0).s), .int .u16 ((aa.f 1).n), .map aa.m, .slice ak ((lst (Tree.at_ (Tree.mk n1 s2 b3 l4 u5) 1)).length) al, .slice A_ k c_, .map none], true⟩] [⟨A_, c_, 194, 3, k, xs_⟩]) 3 clStreamsGroupHeartbeatResponsePartitionsByUserEndpointStandbyPartition okStreamsGroupHeartbeatResponsePartitionsByUserEndpointStandbyPartition relStreamsGroupHeartbeatResponsePartitionsByUserEndpointStandbyPartition xs_ ds_ (ac.take k)) ∧ LInv cv 81 [⟨bA, 0, [.int .i64 n1, .slice A6 s2.length c7, .bool b3, .slice A8 l4.length c9, .slice ah u5.length ai], true⟩, ⟨av, 0, [.string ByteArray.empty, .int .u16 0, .map none, .slice none 0 0, .slice none 0 0, .map none], true⟩, ⟨ap, 0, [.string ((aa.f 0).s), .int .u16 ((aa.f 1).n), .map aa.m, .slice ak ((lst (Tree.at_ (Tree.mk n1 s2 b3 l4 u5) 1)).length) al, .slice A_ k c_, .map none], true⟩] [⟨A_, c_, 194, 3, k, xs_⟩] [(1, .p 0 0), (2, .p 1 0), (3, .p 2 0), (52, .v (.slice aW ac.length br)), (53, .v (.int .i64 ((ac.length : Nat) : Int))), (54, .v (.int .i64 ((k : Nat) : Int)))] a_ w_) (ac.length) ⟨0, (some ⟨eF, 0, none⟩), bq.length, [], [], by omega, by omega, rfl, RowL.nil mvStreamsGroupHeartbeatResponsePartitionsByUserEndpointStandbyPartition, d5.pk, cv, Fr.refl _ _ _⟩ ?_
   clear d5
   rintro ls lu lv ⟨k, A_, c_, xs_, ds_, iq, ir, hA, hR, d6, aX, aE⟩
   refine go_sp [(1, .p 0 0), (2, .p 1 0), (3, .p 2 0), (52, .v (.slice aW ac.length br)), (53, .v (.int .i64 ((ac.length : Nat) : Int))), (54, .v (.int .i64 ((k : Nat) : Int))), (55, .v (.bool (decide (((k : Nat) : Int) < ((ac.length : Nat) : Int)))))] aX d6 fun lw bw => ?_
   clear d6
   refine wp_seq ?_
   refine cond_of bw (b := decide (((k : Nat) : Int) < ((ac.length : Nat) : Int))) kz (fun cw => ?_) (fun cw => ?_)
   ·
    have iu := of_decide_eq_true cw
    refine wp_skip ?_
    refine then_normal ?_
    refine wp_seq ?_
    refine wp_block ?_
    refine go_seq_region [0, 1, 2, 3] kz ?_
    obtain ⟨gD, gE, fx, iv, cy⟩ := Slots.get fv (i := k) (by omega)
    obtain ⟨gF, cz⟩ : ∃ x, ac[k]? = some x := ⟨_, List.getElem?_eq_getElem (by omega)⟩
    have cA := gA k gF cz
    obtain ⟨cB, cC, cD, cE, cG, cH, cI, cJ, cK, cL, cM, iw, rfl, cN, gG, gH, lx, ly⟩ := cA.open_
    rw [cN] at cA
    have gI := gG.small
    have gJ := gH.small
    rw [cN] at cy
    refine of_op (wpOp_index bw (t := 36) (A := aW) (m := ac.length) (q := ((k : Nat) : Int)) (d := 56) kz (e := 39) (size := 5) (bytes := 88) kz fx rfl (by omega) fun lz d7 => ?_)
    clear bw
    refine of_op (wpOp_load d7 (t := 39) (b := gD) (o := gE + k * 5) (d := 57) kz (cs := [.int .i64 cB, .slice cH cC.length cI, .bool cD, .slice cJ cE.length cK, .slice cL cG.length cM]) (v := .agg #[.int .i64 cB, .slice cH cC.length cI, .bool cD, .slice cJ cE.length cK, .slice cL cG.length cM]) kz (AtF.move cy aE.step immM aE.to').at_ fun lA d8 => ?_)
    clear d7
    refine of_op (wpOp_alloc aX d8 (d := 7) (cs := [.int .i64 0, .slice none 0 0, .bool false, .slice none 0 0, .slice none 0 0]) kz fun lB lC lD ix iy aY d9 ea => ?_)
    clear d8 aX
    refine of_op (wpOp_store d9 ea (oi := 3) (cs := [.int .i64 cB, .slice cH cC.length cI, .bool cD, .slice cJ cE.length cK, .slice cL cG.length cM]) kz fun lE aZ eb ec => ?_)
    clear ea d9
    refine wpOps_nil (then_normal ?_)
    refine go_drawK 7 kz eb fun lF ba cO fy => ?_
    clear eb
    refine go_rnD [0, 1, 2] [(1, .p 0 0), (2, .p 1 0), (3, .p 2 0), (52, .v (.slice aW ac.length br)), (53, .v (.int .i64 ((ac.length : Nat) : Int))), (54, .v (.int .i64 ((k : Nat) : Int))), (59, .v (.slice A_ k c_)), (60, .v (.agg #[.int .i64 cB, .slice cH cC.length cI, .bool cD, .slice cJ cE.length cK, .slice cL cG.length cM]))] 5 (panicFree_block (panicFree_then (panicFree_then (panicFree_block (panicFree_then panicFree_body))))) (fun _ h => h.cells) fy ec fun lG ee => ?_
    clear ec
    refine anyC_op (i := 3) kz (wpOp_call ee (f := 142) (vs := [.agg #[.int .i64 cB, .slice cH cC.length cI, .bool cD, .slice cJ cE.length cK, .slice cL cG.length cM]]) (d := 61) kz Tryz.call142 (eStreamsGroupHeartbeatResponsePartitionsByUserEndpointStandbyPartition _ _ _ _ (cA.move (((aE.trans aY).trans aZ).trans ba).step immM (((aE.trans aY).trans aZ).trans ba).to') (cj2e _ (by rw [hl3_]; exact List.mem_of_getElem? cz))) ?_)
    rintro e_ lH ⟨af, rfl, fz, cZ, cP⟩
    have fA := mvStreamsGroupHeartbeatResponsePartitionsByUserEndpointStandbyPartition _ (Step.refl _ Nil) nilM (cO.laid (G := F) cP) fz
    refine ⟨_, rfl, fun lI ef => ?_⟩
    have cQ := cO.next_nil cP
    have aF := cO.frN cP
    clear ee
    have fB := TT.ofW aF cQ
    refine ⟨fun _ => fB, ?_⟩
    refine anyC_op (i := 4) kz (wpOp_lit cQ ef (e := 194) (size := 3) (len := 1) (cs := [.string ((af.f 0).s), .slice ((af.f 1).A) ((af.f 1).l) ((af.f 1).c), .map af.m]) (d := 62) kz kz fun gK lJ lK iz iA au bd eg => ?_)
    clear ef cQ
    have fC := TT.ofW (aF.trans au) bd
    refine ⟨fun _ => fC, ?_⟩
    refine anyC_op (i := 5) kz (wpOp_append bd eg (k := 0) (d := 63) (t := 180) (e := 194) (size := 3) (bytes := 48) (A := A_) (As := (some ⟨gK, 0, none⟩)) (m0 := k) (c := c_) (m := 1) (cs := 1) (xs := xs_) (news := [.string ((af.f 0).s), .slice ((af.f 1).A) ((af.f 1).l) ((af.f 1).c), .map af.m]) kz kz rfl (own_src (bd.own 1 _ rfl) (allOne_ok kz)) (own_cap (bd.own 1 _ rfl)) (by omega) fun cR cS lL lM aG cT eh => ?_)
    clear eg bd
    have ei := TT.ofW ((aF.trans au).trans aG) cT
    refine ⟨fun _ => ei, ?_⟩
    refine go_rnD [6] [(1, .p 0 0), (2, .p 1 0), (3, .p 2 0), (52, .v (.slice aW ac.length br)), (53, .v (.int .i64 ((ac.length : Nat) : Int))), (54, .v (.int .i64 ((k : Nat) : Int))), (63, .v (.slice cR (k + 1) cS)), (64, .p 2 4)] 1 (panicFree_block (panicFree_then (panicFree_then (panicFree_block (panicFree_then panicFree_body))))) (fun _ h => h.cells) ei eh fun lN ej => ?_
    clear eh
    refine anyC_op (i := 7) kz (wpOp_store cT ej (oi := 2) (cs := [.string ((aa.f 0).s), .int .u16 ((aa.f 1).n), .map aa.m, .slice ak ((lst (Tree.at_ (Tree.mk n1 s2 b3 l4 u5) 1)).length) al, .slice cR (k + 1) cS, .map none]) kz fun lO bf ek em => ?_)
    clear ej cT
    refine ⟨fun h => absurd rfl h, ?_⟩
    refine anyC_done kz ?_ _
    refine block_normal ?_
    refine then_normal ?_
    refine go_region [0, 1] kz ?_
    refine go_rn [0, 1] [] [(1, .p 0 0), (2, .p 1 0), (3, .p 2 0), (52, .v (.slice aW ac.length br)), (53, .v (.int .i64 ((ac.length : Nat) : Int))), (54, .v (.int .i64 (IntKind.i64.wrap (((k : Nat) : Int) + 1))))] ek em fun lP fD => ?_
    clear em
    refine wpOps_nil (then_normal ?_)
    obtain ⟨eo, fE, bg⟩ := ek.cutB fD 3 [⟨bA, 0, [.int .i64 n1, .slice A6 s2.length c7, .bool b3, .slice A8 l4.length c9, .slice ah u5.length ai], true⟩, ⟨av, 0, [.string ByteArray.empty, .int .u16 0, .map none, .slice none 0 0, .slice none 0 0, .map none], true⟩, ⟨ap, 0, [.string ((aa.f 0).s), .int .u16 ((aa.f 1).n), .map aa.m, .slice ak ((lst (Tree.at_ (Tree.mk n1 s2 b3 l4 u5) 1)).length) al, .slice cR (k + 1) cS, .map none], true⟩] [(1, .p 0 0), (2, .p 1 0), (3, .p 2 0), (52, .v (.slice aW ac.length br)), (53, .v (.int .i64 ((ac.length : Nat) : Int))), (54, .v (.int .i64 (IntKind.i64.wrap (((k : Nat) : Int) + 1))))]
    obtain ⟨ep, bh⟩ := fE.cutR 1 [⟨cR, cS, 194, 3, k + 1, xs_ ++ [.string ((af.f 0).s), .slice ((af.f 1).A) ((af.f 1).l) ((af.f 1).c), .map af.m]⟩]
    have fF : IntKind.i64.wrap (((k : Nat) : Int) + 1) = ((k + 1 : Nat) : Int) := wrap_succ (by omega)
    rw [fF] at eo
    exact ⟨ac.length - (k + 1), by omega, k + 1, cR, cS, xs_ ++ [Value.string ((af.f 0).s), .slice ((af.f 1).A) ((af.f 1).l) ((af.f 1).c), .map af.m], (ds_ ++ [af]), rfl, by omega, own_some ep (k := 0) rfl (by omega), RowL.snoc (d := af) (hR.move ((((((((aY.trans aZ).trans ba).trans aF).trans au).trans aG).trans bf).trans bg).trans bh).step immM ((((((((aY.trans aZ).trans ba).trans aF).trans au).trans aG).trans bf).trans bg).trans bh).to') cz rfl (mvStreamsGroupHeartbeatResponsePartitionsByUserEndpointStandbyPartition _ ((((au.trans aG).trans bf).trans bg).trans bh).step immM ((((au.trans aG).trans bf).trans bg).trans bh).to' fA) cZ, eo.pk, ep, (((((((((aE.trans aY).trans aZ).trans ba).trans aF).trans au).trans aG).trans bf).trans bg).trans bh)⟩
   ·
    have iB := of_decide_eq_false cw
    refine wp_exit ?_
    refine then_exit ?_
    refine then_exit ?_
    refine block_exit ?_
    refine then_normal ?_
    have hk_ : k = (lst (Tree.at_ (Tree.mk n1 s2 b3 l4 u5) 2)).length := by rw [hl3_]; omega
    subst k
    have hL_ := LstR.of aX (k := 0) (rs' := []) rfl hR (by rw [hl3_]) oneStreamsGroupHeartbeatResponsePartitionsByUserEndpointStandbyPartition (by omega)
    rw [← hl3_] at hL_
    obtain ⟨fG, fH⟩ := aX.cutR 0 []
    exact ⟨_, _, _, by rw [hnull_]; exact hA, hL_, bw.pk, fG, (((((fp.trans fq).trans fr).trans fw).trans aE).trans fH)⟩
  ·
   refine wp_skip ?_
   refine then_normal ?_
   have hn_ : Tree.null (Tree.at_ (Tree.mk n1 s2 b3 l4 u5) 2) = true := by rw [dP]; show cY = true; simpa using cl
   have hl_ := lst_no hn_
   exact ⟨none, 0, fun _ => dv0, by rw [hn_]; rfl, by rw [hl_]; exact LstR.nil mvStreamsGroupHeartbeatResponsePartitionsByUserEndpointStandbyPartition, by rw [hl_]; exact ⟨bv.pk, ao, Fr.refl _ _ _⟩⟩
 rintro lQ gL ⟨bi, bj, gM, fI, cV, eu, bk, aH⟩
 refine wp_seq ?_
 refine go_sp [(2, .p 1 0), (3, .p 2 0), (67, .v (.slice ah u5.length ai)), (68, .v (.int .i64 ((u5.length : Nat) : Int))), (69, .v (.int .i64 0))] bk eu fun lR fJ => ?_
 clear eu
 refine wp_block ?_
 have fK := new_of bk 2 rfl kz
 have fL := fJ.recast 2 (.p 1 0) (.v (.pointer (some ⟨av, 0, none⟩))) rfl rfl trivial
 have fM := fL.recast 3 (.p 2 0) (.v (.pointer (some ⟨ap, 0, none⟩))) rfl rfl trivial
 have fN := (fM.pick (ks := [2, 3, 67, 68, 69]) (env' := [(2, .v (.pointer (some ⟨av, 0, none⟩))), (3, .v (.pointer (some ⟨ap, 0, none⟩))), (67, .v (.slice ah u5.length ai)), (68, .v (.int .i64 ((u5.length : Nat) : Int))), (69, .v (.int .i64 0))]) kz).cutTb 0 kz
 refine wp_loop_ghost (fun q a_ w_ => ∃ (j : Nat) (m_ : Option Nat), q = u5.length - j ∧ j ≤ u5.length ∧ EnvOk 81 [] [(2, .v (.pointer (some ⟨av, 0, none⟩))), (3, .v (.pointer (some ⟨ap, 0, none⟩))), (67, .v (.slice ah u5.length ai)), (68, .v (.int .i64 ((u5.length : Nat) : Int))), (69, .v (.int .i64 ((j : Nat) : Int)))] a_ ∧ TL w gL w_ F ap 5 [.string ((aa.f 0).s), .int .u16 ((aa.f 1).n), .map aa.m, .slice ak ((lst (Tree.at_ (Tree.mk n1 s2 b3 l4 u5) 1)).length) al, .slice bi ((lst (Tree.at_ (Tree.mk n1 s2 b3 l4 u5) 2)).length) bj, .map none] m_ (u5.take j)) u5.length
  ⟨0, none, by omega, by omega, fN, TL.start bk 2 rfl rfl⟩ ?_
 rintro q aq wq ⟨j, m_, rfl, hj, hE2, hT⟩
 have hWq := WOk.start wq Nil
 refine go_sp [(2, .v (.pointer (some ⟨av, 0, none⟩))), (3, .v (.pointer (some ⟨ap, 0, none⟩))), (67, .v (.slice ah u5.length ai)), (68, .v (.int .i64 ((u5.length : Nat) : Int))), (69, .v (.int .i64 ((j : Nat) : Int))), (70, .v (.bool (decide (((j : Nat) : Int) < ((u5.length : Nat) : Int)))))] hWq hE2 fun aq2 hE3 => wp_seq ?_
 refine cond_of hE3 (b := decide (((j : Nat) : Int) < ((u5.length : Nat) : Int))) kz (fun hc => ?_) (fun hc => ?_)
 ·have hlt : j < u5.length := by have := of_decide_eq_true hc; omega
  refine wp_skip (then_normal (wp_seq (wp_block ?_)))
  obtain ⟨⟨k, x⟩, hu⟩ : ∃ y, u5[j]? = some y := ⟨_, List.getElem?_eq_getElem hlt⟩
  obtain ⟨bb, bo, xA, xc, hA, hat, hxo, hk⟩ := tag_at gO hu
  refine go_seq_region [0, 1, 2, 3] kz ?_
  refine of_op (wpOp_index hE3 (t := 37) (e := 64) (size := 2) (bytes := 32) (d := 71) (b := bb) (o := bo) (m := u5.length) (j := j) kz kz hA rfl hlt fun aq3 hE4 => ?_)
  refine of_op (wpOp_load hE4 (t := 64) (d := 72) (cs := [.int .u32 k, .slice xA x.length xc]) (v := .agg #[.int .u32 k, .slice xA x.length xc]) kz kz (hat.step_nil hT.step) fun aq4 hE5 => ?_)
  refine of_op (wpOp_alloc hWq hE5 (d := 9) (cs := [.int .u32 0, .slice none 0 0]) kz fun bx aq5 wq2 hbx hbx0 hFq2 hWq2 hE6 => ?_)
  refine of_op (wpOp_store hWq2 hE6 (oi := 0) (cs := [.int .u32 k, .slice xA x.length xc]) kz fun wq3 hFq3 hWq3 hE7 => wpOps_nil (then_normal ?_))
  refine go_region [0, 1, 2, 3, 4, 5] kz (go_rn [0, 1, 2, 3, 4] [5] [(2, .v (.pointer (some ⟨av, 0, none⟩))), (3, .v (.pointer (some ⟨ap, 0, none⟩))), (67, .v (.slice ah u5.length ai)), (68, .v (.int .i64 ((u5.length : Nat) : Int))), (69, .v (.int .i64 ((j : Nat) : Int))), (73, .v (.pointer (some ⟨ap, 5, none⟩))), (75, .v (.int .u32 k)), (77, .v (.slice xA x.length xc))] hWq3 hE7 fun aq6 hE8 => ?_)
  refine of_op (wpOp_call hE8 (f := 75) (vs := [.pointer (some ⟨ap, 5, none⟩), .int .u32 k, .slice xA x.length xc]) (d := 78) kz Tryz.call75 ((hT.move hWq3.step).set fK kz hsort hu hxo hk) ?_)
  rintro e_ wq5 ⟨rfl, hS5, r, hT5⟩
  refine ⟨_, rfl, fun aq7 hE9 => wpOps_nil (block_normal (then_normal ?_))⟩
  have gN := (hE9.pick (ks := [2, 3, 67, 68, 69]) (env' := [(2, .v (.pointer (some ⟨av, 0, none⟩))), (3, .v (.pointer (some ⟨ap, 0, none⟩))), (67, .v (.slice ah u5.length ai)), (68, .v (.int .i64 ((u5.length : Nat) : Int))), (69, .v (.int .i64 ((j : Nat) : Int)))]) kz).cutTb 0 kz
  refine go_region [0, 1] kz (go_rn [0, 1] [] [(2, .v (.pointer (some ⟨av, 0, none⟩))), (3, .v (.pointer (some ⟨ap, 0, none⟩))), (67, .v (.slice ah u5.length ai)), (68, .v (.int .i64 ((u5.length : Nat) : Int))), (69, .v (.int .i64 (IntKind.i64.wrap (((j : Nat) : Int) + 1))))] (WOk.start wq5 Nil) gN fun aq8 fO => wpOps_nil (then_normal ?_))
  rw [wrap_succ (by omega)] at fO
  exact ⟨u5.length - (j + 1), by omega, j + 1, some r, rfl, by omega, fO, hT5⟩
 ·obtain rfl : j = u5.length := by have := of_decide_eq_false hc; omega
  refine wp_exit (then_exit (then_exit (block_exit ?_)))
  rw [List.take_length] at hT
  obtain ⟨bz, aj⟩ := hT.tab bk 2 [⟨bA, 0, [.int .i64 n1, .slice A6 s2.length c7, .bool b3, .slice A8 l4.length c9, .slice ah u5.length ai], true⟩, ⟨av, 0, [.string ByteArray.empty, .int .u16 0, .map none, .slice none 0 0, .slice none 0 0, .map none], true⟩, ⟨ap, 0, [.string ((aa.f 0).s), .int .u16 ((aa.f 1).n), .map aa.m, .slice ak ((lst (Tree.at_ (Tree.mk n1 s2 b3 l4 u5) 1)).length) al, .slice bi ((lst (Tree.at_ (Tree.mk n1 s2 b3 l4 u5) 2)).length) bj, .map m_], true⟩] rfl
  have fP := hT.mapImm bk bz aj hsort (tags_range gO)
  have fQ := (hE3.retable [⟨bA, 0, [.int .i64 n1, .slice A6 s2.length c7, .bool b3, .slice A8 l4.length c9, .slice ah u5.length ai], true⟩, ⟨av, 0, [.string ByteArray.empty, .int .u16 0, .map none, .slice none 0 0, .slice none 0 0, .map none], true⟩, ⟨ap, 0, [.string ((aa.f 0).s), .int .u16 ((aa.f 1).n), .map aa.m, .slice ak ((lst (Tree.at_ (Tree.mk n1 s2 b3 l4 u5) 1)).length) al, .slice bi ((lst (Tree.at_ (Tree.mk n1 s2 b3 l4 u5) 2)).length) bj, .map m_], true⟩]).recast 2 (.v (.pointer (some ⟨av, 0, none⟩))) (.p 1 0) rfl rfl (Nat.le_of_ble_eq_true (n := 2) rfl)
  have fR := fQ.recast 3 (.v (.pointer (some ⟨ap, 0, none⟩))) (.p 2 0) rfl rfl (Nat.le_of_ble_eq_true (n := 3) rfl)
  have ev : EnvOk 81 [⟨bA, 0, [.int .i64 n1, .slice A6 s2.length c7, .bool b3, .slice A8 l4.length c9, .slice ah u5.length ai], true⟩, ⟨av, 0, [.string ByteArray.empty, .int .u16 0, .map none, .slice none 0 0, .slice none 0 0, .map none], true⟩, ⟨ap, 0, [.string ((aa.f 0).s), .int .u16 ((aa.f 1).n), .map aa.m, .slice ak ((lst (Tree.at_ (Tree.mk n1 s2 b3 l4 u5) 1)).length) al, .slice bi ((lst (Tree.at_ (Tree.mk n1 s2 b3 l4 u5) 2)).length) bj, .map m_], true⟩] [(2, .p 1 0), (3, .p 2 0)] _ := fR.pk
  refine then_normal ?_
  refine go_seq_region [0, 1] kz ?_
  refine go_rn [0] [1] [(2, .p 1 0), (80, .v (.agg #[.string ((aa.f 0).s), .int .u16 ((aa.f 1).n), .map aa.m, .slice ak ((lst (Tree.at_ (Tree.mk n1 s2 b3 l4 u5) 1)).length) al, .slice bi ((lst (Tree.at_ (Tree.mk n1 s2 b3 l4 u5) 2)).length) bj, .map m_]))] bz ev fun lS ew => ?_
  clear ev
  refine of_op (wpOp_store bz ew (oi := 1) (cs := [.string ((aa.f 0).s), .int .u16 ((aa.f 1).n), .map aa.m, .slice ak ((lst (Tree.at_ (Tree.mk n1 s2 b3 l4 u5) 1)).length) al, .slice bi ((lst (Tree.at_ (Tree.mk n1 s2 b3 l4 u5) 2)).length) bj, .map m_]) kz fun lT ag ey fS => ?_)
  clear ew bz
  refine wpOps_nil (then_normal ?_)
  refine wp_ret ?_
  refine leave fS ey.cells (v := .agg #[.string ((aa.f 0).s), .int .u16 ((aa.f 1).n), .map aa.m, .slice ak ((lst (Tree.at_ (Tree.mk n1 s2 b3 l4 u5) 1)).length) al, .slice bi ((lst (Tree.at_ (Tree.mk n1 s2 b3 l4 u5) 2)).length) bj, .map m_]) kz ?_
  refine ⟨dvP m_ u5 [aa, dvL ak (lst (Tree.at_ (Tree.mk n1 s2 b3 l4 u5) 1)).length al gn, dvL bi (lst (Tree.at_ (Tree.mk n1 s2 b3 l4 u5) 2)).length bj gM], rfl, ?_, ?_, ey.step⟩
  ·unfold okStreamsGroupHeartbeatResponsePartitionsByUserEndpoint
   exact ⟨mvEndpoint _ (Step.refl _ Nil) nilM immOut (mvEndpoint _ ((((((eP.trans dc).trans dM).trans aC).trans aH).trans aj).trans ag).step immM ((((((eP.trans dc).trans dM).trans aC).trans aH).trans aj).trans ag).to' fV), ⟨((ce.move (((aC.trans aH).trans aj).trans ag).step immM (((aC.trans aH).trans aj).trans ag).to').move (Step.refl _ Nil) nilM immOut).slots, cj1, ((ce.move (((aC.trans aH).trans aj).trans ag).step immM (((aC.trans aH).trans aj).trans ag).to').move (Step.refl _ Nil) nilM immOut).each⟩, ⟨((cV.move (aj.trans ag).step immM (aj.trans ag).to').move (Step.refl _ Nil) nilM immOut).slots, cj2, ((cV.move (aj.trans ag).step immM (aj.trans ag).to').move (Step.refl _ Nil) nilM immOut).each⟩, ((fP.move ag.step immM ag.to').move (Step.refl _ Nil) nilM immOut), cU.2.1, cU.2.2, trivial⟩
  ·unfold relStreamsGroupHeartbeatResponsePartitionsByUserEndpoint
   exact ⟨eB, ⟨fk, rfl, ce.rel_⟩, ⟨fI, rfl, cV.rel_⟩, rfl, trivial⟩
def makeStreamsGroupHeartbeatResponse (v : Int) (T : Tree) : Bs := tStreamsGroupHeartbeatResponse (IntKind.i16.wrap v) T
set_option maxHeartbeats 4000000 in
theorem mStreamsGroupHeartbeatResponse (v : Int) (ct : List Value) (t : Tree) (w : World) (F : Nat → Nat → Prop) (ht : TreeR w F ct t) (hc : canStreamsGroupHeartbeatResponse t) (hroom : (makeStreamsGroupHeartbeatResponse v t).length + 16 ≤ 1099511627776) :
  Calls Tryz.prog 28 #[.int .i64 v, .agg ct.toArray] w (FreshB w 5 (makeStreamsGroupHeartbeatResponse v t)) := by
 obtain ⟨n1, s2, b3, l4, u5, A6, c7, A8, c9, ab, ac, z8, rfl, rfl, Aa, Ab, F5, uz⟩ := ht.open_
 have uA := Aa.small
 have uB := Ab.small
 unfold canStreamsGroupHeartbeatResponse at hc
 obtain ⟨cj0, cj1, cj2, cj3, cj4, cj5, cj6, cj7, cj8, ⟨cj9, cj9e⟩, ⟨nv, cj10e⟩, ⟨nw, cj11e⟩, ⟨nx, cj12e⟩, Ac, Ad, ⟨ny, cj15e⟩, cU, _⟩ := hc
 have hsort := cU.1
 replace hsort : Sorted u5 := hsort
 have hul : u5.length ≤ 1000000 := cU.2.1
 refine enter (n := 17) Tryz.func28 rfl Tryz.ntmps28 kz fun a hE => ?_
 have hW := WOk.start w Nil
 refine go_seq_region [0, 1] kz ?_
 refine of_op (wpOp_box hW hE (d := 3) (cs := [.int .i64 n1, .slice A6 s2.length c7, .bool b3, .slice A8 l4.length c9, .slice ab u5.length ac]) kz fun bp F6 F7 Ae Ag Ah kB o6 => ?_)
 clear hE hW
 refine go_rn [1] [] [(0, .v (.int .i64 v)), (3, .p 0 0)] kB o6 fun F8 o7 => ?_
 clear o6
 refine wpOps_nil (then_normal ?_)
 refine go_seq_region [0, 1, 2] kz ?_
 refine go_rn [0] [1, 2] [(0, .v (.int .i64 v)), (3, .p 0 0), (6, .v (.agg #[.int .i16 0, .int .i32 0, .int .i16 0, .pointer none, .string ByteArray.empty, .int .i32 0, .int .i32 0, .int .i32 0, .int .i32 0, .int .i64 0, .slice none 0 0, .slice none 0 0, .slice none 0 0, .slice none 0 0, .bool false, .int .i32 0, .slice none 0 0, .map none]))] kB o7 fun F9 o8 => ?_
 clear o7
 refine of_op (wpOp_box kB o8 (d := 7) (cs := [.int .i16 0, .int .i32 0, .int .i16 0, .pointer none, .string ByteArray.empty, .int .i32 0, .int .i32 0, .int .i32 0, .int .i32 0, .int .i64 0, .slice none 0 0, .slice none 0 0, .slice none 0 0, .slice none 0 0, .bool false, .int .i32 0, .slice none 0 0, .map none]) kz fun aS Ga Gb Ai Aj Ak gd o9 => ?_)
 clear o8 kB
 refine go_rn [2] [] [(0, .v (.int .i64 v)), (3, .p 0 0), (5, .p 1 0)] gd o9 fun Gc pa => ?_
 clear o9
 refine wpOps_nil (then_normal ?_)
 refine go_seq_region [0, 1, 2, 3] kz ?_
 refine go_rn [0, 1, 2] [3] [(3, .p 0 0), (5, .p 1 0), (8, .p 1 0), (10, .v (.int .i16 (IntKind.i16.wrap v)))] gd pa fun Gd rB => ?_
 clear pa
 refine of_op (wpOp_inline rB (f := 66) (vs := [.pointer (some ⟨aS, 0, none⟩), .int .i16 (IntKind.i16.wrap v)]) (d := 11) (n' := 8) kz Tryz.call66 Tryz.func66 rfl Tryz.ntmps66 kz fun Ge rC => ?_)
 have pb := rC.recast 0 (.v (.pointer (some ⟨aS, 0, none⟩))) (.p 1 0) rfl rfl (Nat.le_of_ble_eq_true (n := 2) rfl)
 refine go_region [0, 1, 2, 3, 4] kz ?_
 refine go_rn [0, 1, 2, 3] [4] [(5, .v (.int .i16 (IntKind.i16.wrap v))), (7, .p 1 0)] gd pb fun Gf pc => ?_
 clear pb
 refine of_op (wpOp_store gd pc (oi := 1) (cs := [.int .i16 (IntKind.i16.wrap v), .int .i32 0, .int .i16 0, .pointer none, .string ByteArray.empty, .int .i32 0, .int .i32 0, .int .i32 0, .int .i32 0, .int .i64 0, .slice none 0 0, .slice none 0 0, .slice none 0 0, .slice none 0 0, .bool false, .int .i32 0, .slice none 0 0, .map none]) kz fun Gg Al kC rD => ?_)
 clear pc gd
 refine wpOps_nil ?_
 refine leave_end rD kC.cells (v := .tuple #[]) kz ?_
 refine ⟨_, rfl, fun Gh rE => ?_⟩
 have pd : EnvOk 17 [⟨bp, 0, [.int .i64 n1, .slice A6 s2.length c7, .bool b3, .slice A8 l4.length c9, .slice ab u5.length ac], true⟩, ⟨aS, 0, [.int .i16 (IntKind.i16.wrap v), .int .i32 0, .int .i16 0, .pointer none, .string ByteArray.empty, .int .i32 0, .int .i32 0, .int .i32 0, .int .i32 0, .int .i64 0, .slice none 0 0, .slice none 0 0, .slice none 0 0, .slice none 0 0, .bool false, .int .i32 0, .slice none 0 0, .map none], true⟩] [(11, .v (.tuple #[])), (3, .p 0 0), (5, .p 1 0), (8, .p 1 0), (10, .v (.int .i16 (IntKind.i16.wrap v)))] _ := rE.places (⟨rfl, rfl, ⟨rfl, rfl, trivial⟩⟩)
 refine wpOps_nil (then_normal ?_)
 refine go_seq_region [0, 1, 2] kz ?_
 refine go_rn [0, 1] [2] [(5, .p 1 0), (12, .p 1 0), (13, .v (.agg #[.int .i64 n1, .slice A6 s2.length c7, .bool b3, .slice A8 l4.length c9, .slice ab u5.length ac]))] kC pd fun Gi rF => ?_
 clear pd
 refine of_op (wpOp_inline rF (f := 67) (vs := [.pointer (some ⟨aS, 0, none⟩), .agg #[.int .i64 n1, .slice A6 s2.length c7, .bool b3, .slice A8 l4.length c9, .slice ab u5.length ac]]) (d := 14) (n' := 268) kz Tryz.call67 Tryz.func67 rfl Tryz.ntmps67 kz fun Gj rG => ?_)
 have pe := rG.recast 0 (.v (.pointer (some ⟨aS, 0, none⟩))) (.p 1 0) rfl rfl (Nat.le_of_ble_eq_true (n := 2) rfl)
 refine go_seq_region [0] kz ?_
 refine of_op (wpOp_box kC pe (d := 3) (cs := [.int .i64 n1, .slice A6 s2.length c7, .bool b3, .slice A8 l4.length c9, .slice ab u5.length ac]) kz fun bq Gk Gl Am An Aq f8 pf => ?_)
 clear pe kC
 refine wpOps_nil (then_normal ?_)
 refine go_seq_region [0, 1, 2, 3, 4, 5, 6, 7] kz ?_
 refine go_rn [0, 1] [2, 3, 4, 5, 6, 7] [(0, .p 1 0), (3, .p 2 0), (16, .p 1 0), (17, .v (.agg #[.int .i64 n1, .slice A6 s2.length c7, .bool b3, .slice A8 l4.length c9, .slice ab u5.length ac]))] f8 pf fun Gm pg => ?_
 clear pf
 refine of_op (wpOp_call pg (f := 73) (vs := [.agg #[.int .i64 n1, .slice A6 s2.length c7, .bool b3, .slice A8 l4.length c9, .slice ab u5.length ac], .int .i64 0]) (d := 18) kz Tryz.call73 (iAt _ _ 0 _ _ (ht.move f8.step nilM f8.imm)) ?_)
 rintro e_ Gn ⟨Ar, rfl, rH, ge⟩
 have ph := rH.move ge nilM (fun b o h_ hb_ => f8.laid (G := F) ge b o (.inl h_) (Nat.lt_of_lt_of_le hb_ ge.size))
 obtain ⟨aM, Gp, Gq, Gr, Gs, Gt, Gu, Gv, Gw, Gx, Gy, Au, rI, kI, Aw, Ay, Gz, GA⟩ := ph.open_
 rw [kI] at ph
 have uC := Aw.small
 have uD := Ay.small
 rw [kI]
 refine ⟨_, rfl, fun GB pi => ?_⟩
 have nz := f8.next_nil ge
 have uE := f8.frN ge
 clear pg
 refine go_rn [3, 4, 5, 6] [7] [(0, .p 1 0), (3, .p 2 0), (20, .v (.int .i32 (IntKind.i32.wrap aM))), (22, .p 1 1)] nz pi fun Az kJ => ?_
 clear pi
 refine of_op (wpOp_store nz kJ (oi := 1) (cs := [.int .i16 (IntKind.i16.wrap v), .int .i32 (IntKind.i32.wrap aM), .int .i16 0, .pointer none, .string ByteArray.empty, .int .i32 0, .int .i32 0, .int .i32 0, .int .i32 0, .int .i64 0, .slice none 0 0, .slice none 0 0, .slice none 0 0, .slice none 0 0, .bool false, .int .i32 0, .slice none 0 0, .map none]) kz fun AA uF cP kK => ?_)
 clear kJ nz
 refine wpOps_nil (then_normal ?_)
 refine go_seq_region [0, 1, 2, 3, 4, 5, 6, 7] kz ?_
 refine go_rn [0, 1] [2, 3, 4, 5, 6, 7] [(0, .p 1 0), (3, .p 2 0), (23, .p 1 0), (24, .v (.agg #[.int .i64 n1, .slice A6 s2.length c7, .bool b3, .slice A8 l4.length c9, .slice ab u5.length ac]))] cP kK fun AB kL => ?_
 clear kK
 refine of_op (wpOp_call kL (f := 73) (vs := [.agg #[.int .i64 n1, .slice A6 s2.length c7, .bool b3, .slice A8 l4.length c9, .slice ab u5.length ac], .int .i64 1]) (d := 25) kz Tryz.call73 (iAt _ _ 1 _ _ (ht.move cP.step nilM cP.imm)) ?_)
 rintro e_ AC ⟨uG, rfl, pj, dB⟩
 have kM := pj.move dB nilM (fun b o h_ hb_ => cP.laid (G := F) dB b o (.inl h_) (Nat.lt_of_lt_of_le hb_ dB.size))
 obtain ⟨ae, AD, AE, AG, AH, AI, AJ, AK, AL, AM, AN, uH, pl, gf, rJ, rK, AO, AP⟩ := kM.open_
 rw [gf] at kM
 have rL := rJ.small
 have rM := rK.small
 rw [gf]
 refine ⟨_, rfl, fun AQ kN => ?_⟩
 have gg := cP.next_nil dB
 have uI := cP.frN dB
 clear kL
 refine go_rn [3, 4, 5, 6] [7] [(0, .p 1 0), (3, .p 2 0), (27, .v (.int .i16 (IntKind.i16.wrap ae))), (29, .p 1 2)] gg kN fun AR kO => ?_
 clear kN
 refine of_op (wpOp_store gg kO (oi := 1) (cs := [.int .i16 (IntKind.i16.wrap v), .int .i32 (IntKind.i32.wrap aM), .int .i16 (IntKind.i16.wrap ae), .pointer none, .string ByteArray.empty, .int .i32 0, .int .i32 0, .int .i32 0, .int .i32 0, .int .i64 0, .slice none 0 0, .slice none 0 0, .slice none 0 0, .slice none 0 0, .bool false, .int .i32 0, .slice none 0 0, .map none]) kz fun AS uJ cQ kP => ?_)
 clear kO gg
 refine wpOps_nil (then_normal ?_)
 refine go_seq_region [0, 1, 2, 3, 4, 5, 6] kz ?_
 refine go_rn [0, 1] [2, 3, 4, 5, 6] [(0, .p 1 0), (3, .p 2 0), (30, .p 1 0), (31, .v (.agg #[.int .i64 n1, .slice A6 s2.length c7, .bool b3, .slice A8 l4.length c9, .slice ab u5.length ac]))] cQ kP fun AT kQ => ?_
 clear kP
 refine of_op (wpOp_call kQ (f := 73) (vs := [.agg #[.int .i64 n1, .slice A6 s2.length c7, .bool b3, .slice A8 l4.length c9, .slice ab u5.length ac], .int .i64 2]) (d := 32) kz Tryz.call73 (iAt _ _ 2 _ _ (ht.move cQ.step nilM cQ.imm)) ?_)
 rintro e_ AU ⟨uK, rfl, pm, dC⟩
 have gh := pm.move dC nilM (fun b o h_ hb_ => cQ.laid (G := F) dC b o (.inl h_) (Nat.lt_of_lt_of_le hb_ dC.size))
 obtain ⟨rN, rO, rP, rQ, rR, rS, rT, rU, rV, rW, rX, uL, uM, gi, rY, rZ, AV, AW⟩ := gh.open_
 rw [gi] at gh
 have r0 := rY.small
 have r2 := rZ.small
 rw [gi]
 refine ⟨_, rfl, fun AX kR => ?_⟩
 have gj := cQ.next_nil dC
 have uN := cQ.frN dC
 clear kQ
 refine of_op (wpOp_call kR (f := 97) (vs := [.agg #[.int .i64 rN, .slice rS rO.length rT, .bool rP, .slice rU rQ.length rV, .slice rW rR.length rX]]) (d := 33) kz Tryz.call97 (kTextOf _ (Tree.at_ (Tree.mk n1 s2 b3 l4 u5) 2) _ _ gh) ?_)
 rintro e_ AY ⟨af, rfl, pn, po, gk⟩
 have pp : ∀ ad, af = some ad → ∃ b o, ad = ⟨b, o, none⟩ ∧ AtF _ _ b o [.string (bs (octOf (Tree.at_ (Tree.mk n1 s2 b3 l4 u5) 2)))] := fun ad h => by
   obtain ⟨b, o, g1, g2⟩ := pn ad h
   exact ⟨b, o, g1, g2.move (Step.refl _ Nil) nilM (gj.laid (G := F) gk)⟩
 refine ⟨_, rfl, fun AZ kS => ?_⟩
 have gl := gj.next_nil gk
 have uO := gj.frN gk
 clear kR
 refine go_rn [4, 5] [6] [(0, .p 1 0), (3, .p 2 0), (33, .v (.pointer af)), (35, .p 1 3)] gl kS fun A4 kT => ?_
 clear kS
 refine of_op (wpOp_store gl kT (oi := 1) (cs := [.int .i16 (IntKind.i16.wrap v), .int .i32 (IntKind.i32.wrap aM), .int .i16 (IntKind.i16.wrap ae), .pointer af, .string ByteArray.empty, .int .i32 0, .int .i32 0, .int .i32 0, .int .i32 0, .int .i64 0, .slice none 0 0, .slice none 0 0, .slice none 0 0, .slice none 0 0, .bool false, .int .i32 0, .slice none 0 0, .map none]) kz fun Ba kU cR kV => ?_)
 clear kT gl
 refine wpOps_nil (then_normal ?_)
 refine go_seq_region [0, 1, 2, 3, 4, 5, 6, 7] kz ?_
 refine go_rn [0, 1] [2, 3, 4, 5, 6, 7] [(0, .p 1 0), (3, .p 2 0), (36, .p 1 0), (37, .v (.agg #[.int .i64 n1, .slice A6 s2.length c7, .bool b3, .slice A8 l4.length c9, .slice ab u5.length ac]))] cR kV fun Bb kW => ?_
 clear kV
 refine of_op (wpOp_call kW (f := 73) (vs := [.agg #[.int .i64 n1, .slice A6 s2.length c7, .bool b3, .slice A8 l4.length c9, .slice ab u5.length ac], .int .i64 3]) (d := 38) kz Tryz.call73 (iAt _ _ 3 _ _ (ht.move cR.step nilM cR.imm)) ?_)
 rintro e_ Bc ⟨uP, rfl, pq, dD⟩
 have kX := pq.move dD nilM (fun b o h_ hb_ => cR.laid (G := F) dD b o (.inl h_) (Nat.lt_of_lt_of_le hb_ dD.size))
 obtain ⟨Bd, ag, Be, Bf, Bg, r3, r4, Bh, Bi, Bj, Bk, uQ, kY, gm, pr, r5, Bl, Bm⟩ := kX.open_
 rw [gm] at kX
 have r6 := pr.small
 have r7 := r5.small
 rw [gm]
 refine ⟨_, rfl, fun Bn kZ => ?_⟩
 have fG := cR.next_nil dD
 have k5 := cR.frN dD
 clear kW
 refine go_rn [3] [4, 5, 6, 7] [(0, .p 1 0), (3, .p 2 0), (36, .p 1 0), (39, .v (.slice r3 ag.length r4))] fG kZ fun Bo k6 => ?_
 clear kZ
 refine of_op (wpOp_conv k6 (src := 22) (dst := 9) (e := 5) (d := 40) kz kz kz kz pr fun Bp k7 => ?_)
 clear k6
 refine go_rn [5, 6] [7] [(0, .p 1 0), (3, .p 2 0), (40, .v (.string (bs ag))), (42, .p 1 4)] fG k7 fun Bq k8 => ?_
 clear k7
 refine of_op (wpOp_store fG k8 (oi := 1) (cs := [.int .i16 (IntKind.i16.wrap v), .int .i32 (IntKind.i32.wrap aM), .int .i16 (IntKind.i16.wrap ae), .pointer af, .string (bs ag), .int .i32 0, .int .i32 0, .int .i32 0, .int .i32 0, .int .i64 0, .slice none 0 0, .slice none 0 0, .slice none 0 0, .slice none 0 0, .bool false, .int .i32 0, .slice none 0 0, .map none]) kz fun Br k9 cS la => ?_)
 clear k8 fG
 refine wpOps_nil (then_normal ?_)
 refine go_seq_region [0, 1, 2, 3, 4, 5, 6, 7] kz ?_
 refine go_rn [0, 1] [2, 3, 4, 5, 6, 7] [(0, .p 1 0), (3, .p 2 0), (43, .p 1 0), (44, .v (.agg #[.int .i64 n1, .slice A6 s2.length c7, .bool b3, .slice A8 l4.length c9, .slice ab u5.length ac]))] cS la fun Bt lb => ?_
 clear la
 refine of_op (wpOp_call lb (f := 73) (vs := [.agg #[.int .i64 n1, .slice A6 s2.length c7, .bool b3, .slice A8 l4.length c9, .slice ab u5.length ac], .int .i64 4]) (d := 45) kz Tryz.call73 (iAt _ _ 4 _ _ (ht.move cS.step nilM cS.imm)) ?_)
 rintro e_ Bu ⟨uR, rfl, pt, dE⟩
 have lc := pt.move dE nilM (fun b o h_ hb_ => cS.laid (G := F) dE b o (.inl h_) (Nat.lt_of_lt_of_le hb_ dE.size))
 obtain ⟨ah, Bv, Bw, Bx, By, Bz, BA, BB, BC, BD, BE, uS, pu, gn, r8, r9, BF, BG⟩ := lc.open_
 rw [gn] at lc
 have sa := r8.small
 have sc := r9.small
 rw [gn]
 refine ⟨_, rfl, fun BH ld => ?_⟩
 have gp := cS.next_nil dE
 have lf := cS.frN dE
 clear lb
 refine go_rn [3, 4, 5, 6] [7] [(0, .p 1 0), (3, .p 2 0), (47, .v (.int .i32 (IntKind.i32.wrap ah))), (49, .p 1 5)] gp ld fun BI lg => ?_
 clear ld
 refine of_op (wpOp_store gp lg (oi := 1) (cs := [.int .i16 (IntKind.i16.wrap v), .int .i32 (IntKind.i32.wrap aM), .int .i16 (IntKind.i16.wrap ae), .pointer af, .string (bs ag), .int .i32 (IntKind.i32.wrap ah), .int .i32 0, .int .i32 0, .int .i32 0, .int .i64 0, .slice none 0 0, .slice none 0 0, .slice none 0 0, .slice none 0 0, .bool false, .int .i32 0, .slice none 0 0, .map none]) kz fun BJ lh cT li => ?_)
 clear lg gp
 refine wpOps_nil (then_normal ?_)
 refine go_seq_region [0, 1, 2, 3, 4, 5, 6, 7] kz ?_
 refine go_rn [0, 1] [2, 3, 4, 5, 6, 7] [(0, .p 1 0), (3, .p 2 0), (50, .p 1 0), (51, .v (.agg #[.int .i64 n1, .slice A6 s2.length c7, .bool b3, .slice A8 l4.length c9, .slice ab u5.length ac]))] cT li fun BK lj => ?_
 clear li
 refine of_op (wpOp_call lj (f := 73) (vs := [.agg #[.int .i64 n1, .slice A6 s2.length c7, .bool b3, .slice A8 l4.length c9, .slice ab u5.length ac], .int .i64 5]) (d := 52) kz Tryz.call73 (iAt _ _ 5 _ _ (ht.move cT.step nilM cT.imm)) ?_)
 rintro e_ BL ⟨uT, rfl, pv, dF⟩
 have lm := pv.move dF nilM (fun b o h_ hb_ => cT.laid (G := F) dF b o (.inl h_) (Nat.lt_of_lt_of_le hb_ dF.size))
 obtain ⟨ai, BN, BO, BP, BQ, BR, BS, BT, BU, BV, BW, uU, pw, gq, sd, se, BX, BY⟩ := lm.open_
 rw [gq] at lm
 have sf := sd.small
 have sg := se.small
 rw [gq]
 refine ⟨_, rfl, fun BZ ln => ?_⟩
 have gt := cT.next_nil dF
 have lp := cT.frN dF
 clear lj
 refine go_rn [3, 4, 5, 6] [7] [(0, .p 1 0), (3, .p 2 0), (54, .v (.int .i32 (IntKind.i32.wrap ai))), (56, .p 1 6)] gt ln fun B0 lq => ?_
 clear ln
 refine of_op (wpOp_store gt lq (oi := 1) (cs := [.int .i16 (IntKind.i16.wrap v), .int .i32 (IntKind.i32.wrap aM), .int .i16 (IntKind.i16.wrap ae), .pointer af, .string (bs ag), .int .i32 (IntKind.i32.wrap ah), .int .i32 (IntKind.i32.wrap ai), .int .i32 0, .int .i32 0, .int .i64 0, .slice none 0 0, .slice none 0 0, .slice none 0 0, .slice none 0 0, .bool false, .int .i32 0, .slice none 0 0, .map none]) kz fun B1 lr cV ls => ?_)
 clear lq gt
 refine wpOps_nil (then_normal ?_)
 refine go_seq_region [0, 1, 2, 3, 4, 5, 6, 7] kz ?_
 refine go_rn [0, 1] [2, 3, 4, 5, 6, 7] [(0, .p 1 0), (3, .p 2 0), (57, .p 1 0), (58, .v (.agg #[.int .i64 n1, .slice A6 s2.length c7, .bool b3, .slice A8 l4.length c9, .slice ab u5.length ac]))] cV ls fun B2 lu => ?_
 clear ls
 refine of_op (wpOp_call lu (f := 73) (vs := [.agg #[.int .i64 n1, .slice A6 s2.length c7, .bool b3, .slice A8 l4.length c9, .slice ab u5.length ac], .int .i64 6]) (d := 59) kz Tryz.call73 (iAt _ _ 6 _ _ (ht.move cV.step nilM cV.imm)) ?_)
 rintro e_ B3 ⟨uV, rfl, px, dG⟩
 have lv := px.move dG nilM (fun b o h_ hb_ => cV.laid (G := F) dG b o (.inl h_) (Nat.lt_of_lt_of_le hb_ dG.size))
 obtain ⟨aj, B4, B5, B6, B7, B8, B9, Ca, Cb, Cc, Cd, uW, pz, gu, sh, si, Ce, Cf⟩ := lv.open_
 rw [gu] at lv
 have sj := sh.small
 have sk := si.small
 rw [gu]
 refine ⟨_, rfl, fun Cg lw => ?_⟩
 have gv := cV.next_nil dG
 have lx := cV.frN dG
 clear lu
 refine go_rn [3, 4, 5, 6] [7] [(0, .p 1 0), (3, .p 2 0), (61, .v (.int .i32 (IntKind.i32.wrap aj))), (63, .p 1 7)] gv lw fun Ci ly => ?_
 clear lw
 refine of_op (wpOp_store gv ly (oi := 1) (cs := [.int .i16 (IntKind.i16.wrap v), .int .i32 (IntKind.i32.wrap aM), .int .i16 (IntKind.i16.wrap ae), .pointer af, .string (bs ag), .int .i32 (IntKind.i32.wrap ah), .int .i32 (IntKind.i32.wrap ai), .int .i32 (IntKind.i32.wrap aj), .int .i32 0, .int .i64 0, .slice none 0 0, .slice none 0 0, .slice none 0 0, .slice none 0 0, .bool false, .int .i32 0, .slice none 0 0, .map none]) kz fun Cj lz cW lA => ?_)
 clear ly gv
 refine wpOps_nil (then_normal ?_)
 refine go_seq_region [0, 1, 2, 3, 4, 5, 6, 7] kz ?_
 refine go_rn [0, 1] [2, 3, 4, 5, 6, 7] [(0, .p 1 0), (3, .p 2 0), (64, .p 1 0), (65, .v (.agg #[.int .i64 n1, .slice A6 s2.length c7, .bool b3, .slice A8 l4.length c9, .slice ab u5.length ac]))] cW lA fun Ck lB => ?_
 clear lA
 refine of_op (wpOp_call lB (f := 73) (vs := [.agg #[.int .i64 n1, .slice A6 s2.length c7, .bool b3, .slice A8 l4.length c9, .slice ab u5.length ac], .int .i64 7]) (d := 66) kz Tryz.call73 (iAt _ _ 7 _ _ (ht.move cW.step nilM cW.imm)) ?_)
 rintro e_ Cl ⟨uX, rfl, pA, dH⟩
 have lC := pA.move dH nilM (fun b o h_ hb_ => cW.laid (G := F) dH b o (.inl h_) (Nat.lt_of_lt_of_le hb_ dH.size))
 obtain ⟨ak, Cm, Cn, Co, Cp, Cq, Cr, Cs, Ct, Cu, Cv, uY, pB, gw, sl, sm, Cw, Cx⟩ := lC.open_
 rw [gw] at lC
 have sn := sl.small
 have sq := sm.small
 rw [gw]
 refine ⟨_, rfl, fun Cy lD => ?_⟩
 have gx := cW.next_nil dH
 have lE := cW.frN dH
 clear lB
 refine go_rn [3, 4, 5, 6] [7] [(0, .p 1 0), (3, .p 2 0), (68, .v (.int .i32 (IntKind.i32.wrap ak))), (70, .p 1 8)] gx lD fun Cz lF => ?_
 clear lD
 refine of_op (wpOp_store gx lF (oi := 1) (cs := [.int .i16 (IntKind.i16.wrap v), .int .i32 (IntKind.i32.wrap aM), .int .i16 (IntKind.i16.wrap ae), .pointer af, .string (bs ag), .int .i32 (IntKind.i32.wrap ah), .int .i32 (IntKind.i32.wrap ai), .int .i32 (IntKind.i32.wrap aj), .int .i32 (IntKind.i32.wrap ak), .int .i64 0, .slice none 0 0, .slice none 0 0, .slice none 0 0, .slice none 0 0, .bool false, .int .i32 0, .slice none 0 0, .map none]) kz fun CA lG cX lH => ?_)
 clear lF gx
 refine wpOps_nil (then_normal ?_)
 refine go_seq_region [0, 1, 2, 3, 4, 5, 6] kz ?_
 refine go_rn [0, 1] [2, 3, 4, 5, 6] [(0, .p 1 0), (3, .p 2 0), (71, .p 1 0), (72, .v (.agg #[.int .i64 n1, .slice A6 s2.length c7, .bool b3, .slice A8 l4.length c9, .slice ab u5.length ac]))] cX lH fun CB lI => ?_
 clear lH
 refine of_op (wpOp_call lI (f := 73) (vs := [.agg #[.int .i64 n1, .slice A6 s2.length c7, .bool b3, .slice A8 l4.length c9, .slice ab u5.length ac], .int .i64 8]) (d := 73) kz Tryz.call73 (iAt _ _ 8 _ _ (ht.move cX.step nilM cX.imm)) ?_)
 rintro e_ CC ⟨uZ, rfl, pC, dI⟩
 have lJ := pC.move dI nilM (fun b o h_ hb_ => cX.laid (G := F) dI b o (.inl h_) (Nat.lt_of_lt_of_le hb_ dI.size))
 obtain ⟨al, CD, CE, CF, CG, CH, CI, CJ, CK, CL, CM, u0, pD, gy, sr, ss, CN, CO⟩ := lJ.open_
 rw [gy] at lJ
 have su := sr.small
 have sv := ss.small
 rw [gy]
 refine ⟨_, rfl, fun CP lK => ?_⟩
 have gz := cX.next_nil dI
 have lL := cX.frN dI
 clear lI
 refine go_rn [3, 4, 5] [6] [(0, .p 1 0), (3, .p 2 0), (74, .v (.int .i64 al)), (76, .p 1 9)] gz lK fun CQ lM => ?_
 clear lK
 refine of_op (wpOp_store gz lM (oi := 1) (cs := [.int .i16 (IntKind.i16.wrap v), .int .i32 (IntKind.i32.wrap aM), .int .i16 (IntKind.i16.wrap ae), .pointer af, .string (bs ag), .int .i32 (IntKind.i32.wrap ah), .int .i32 (IntKind.i32.wrap ai), .int .i32 (IntKind.i32.wrap aj), .int .i32 (IntKind.i32.wrap ak), .int .i64 al, .slice none 0 0, .slice none 0 0, .slice none 0 0, .slice none 0 0, .bool false, .int .i32 0, .slice none 0 0, .map none]) kz fun CR lN cY lO => ?_)
 clear lM gz
 refine wpOps_nil (then_normal ?_)
 refine wp_seq ?_
 refine go_seq_region [0, 1, 2, 3] kz ?_
 refine go_rn [0] [1, 2, 3] [(0, .p 1 0), (3, .p 2 0), (77, .v (.agg #[.int .i64 n1, .slice A6 s2.length c7, .bool b3, .slice A8 l4.length c9, .slice ab u5.length ac]))] cY lO fun CS lP => ?_
 clear lO
 refine of_op (wpOp_call lP (f := 73) (vs := [.agg #[.int .i64 n1, .slice A6 s2.length c7, .bool b3, .slice A8 l4.length c9, .slice ab u5.length ac], .int .i64 9]) (d := 78) kz Tryz.call73 (iAt _ _ 9 _ _ (ht.move cY.step nilM cY.imm)) ?_)
 rintro e_ CT ⟨u1, rfl, pE, dJ⟩
 have lQ := pE.move dJ nilM (fun b o h_ hb_ => cY.laid (G := F) dJ b o (.inl h_) (Nat.lt_of_lt_of_le hb_ dJ.size))
 obtain ⟨CU, CV, kD, CW, CX, CY, CZ, C0, C1, C2, C3, u2, lR, gA, sw, sy, C4, C5⟩ := lQ.open_
 rw [gA] at lQ
 have sA := sw.small
 have sB := sy.small
 rw [gA]
 refine ⟨_, rfl, fun C6 lS => ?_⟩
 have br := cY.next_nil dJ
 have lT := cY.frN dJ
 clear lP
 refine go_rn [2, 3] [] [(0, .p 1 0), (3, .p 2 0), (80, .v (.bool (!kD)))] br lS fun C7 fH => ?_
 clear lS
 refine wpOps_nil (then_normal ?_)
 refine wp_join (Mid := fun a_ w_ => ∃ (A_ : Option Addr) (c_ : Nat) (f_ : Nat → DV), A_.isNone = Tree.null (Tree.at_ (Tree.mk n1 s2 b3 l4 u5) 9) ∧ LstR w_ (Imm F w w_ [⟨bp, 0, [.int .i64 n1, .slice A6 s2.length c7, .bool b3, .slice A8 l4.length c9, .slice ab u5.length ac], true⟩, ⟨aS, 0, [.int .i16 (IntKind.i16.wrap v), .int .i32 (IntKind.i32.wrap aM), .int .i16 (IntKind.i16.wrap ae), .pointer af, .string (bs ag), .int .i32 (IntKind.i32.wrap ah), .int .i32 (IntKind.i32.wrap ai), .int .i32 (IntKind.i32.wrap aj), .int .i32 (IntKind.i32.wrap ak), .int .i64 al, .slice A_ ((lst (Tree.at_ (Tree.mk n1 s2 b3 l4 u5) 9)).length) c_, .slice none 0 0, .slice none 0 0, .slice none 0 0, .bool false, .int .i32 0, .slice none 0 0, .map none], true⟩, ⟨bq, 0, [.int .i64 n1, .slice A6 s2.length c7, .bool b3, .slice A8 l4.length c9, .slice ab u5.length ac], true⟩] []) 3 clStreamsGroupHeartbeatResponseStatus okStreamsGroupHeartbeatResponseStatus relStreamsGroupHeartbeatResponseStatus A_ c_ f_ (lst (Tree.at_ (Tree.mk n1 s2 b3 l4 u5) 9)) ∧ LInv br 268 [⟨bp, 0, [.int .i64 n1, .slice A6 s2.length c7, .bool b3, .slice A8 l4.length c9, .slice ab u5.length ac], true⟩, ⟨aS, 0, [.int .i16 (IntKind.i16.wrap v), .int .i32 (IntKind.i32.wrap aM), .int .i16 (IntKind.i16.wrap ae), .pointer af, .string (bs ag), .int .i32 (IntKind.i32.wrap ah), .int .i32 (IntKind.i32.wrap ai), .int .i32 (IntKind.i32.wrap aj), .int .i32 (IntKind.i32.wrap ak), .int .i64 al, .slice A_ ((lst (Tree.at_ (Tree.mk n1 s2 b3 l4 u5) 9)).length) c_, .slice none 0 0, .slice none 0 0, .slice none 0 0, .bool false, .int .i32 0, .slice none 0 0, .map none], true⟩, ⟨bq, 0, [.int .i64 n1, .slice A6 s2.length c7, .bool b3, .slice A8 l4.length c9, .slice ab u5.length ac], true⟩] [] [(0, .p 1 0), (3, .p 2 0)] a_ w_) ?_ ?_
 ·
  refine cond_of fH (b := !kD) kz (fun gB => ?_) (fun gB => ?_)
  ·
   have hnull_ : Tree.null (Tree.at_ (Tree.mk n1 s2 b3 l4 u5) 9) = false := by rw [lR]; show kD = false; simpa using gB
   refine go_seq_region [0, 1, 2, 3, 4, 5, 6, 7, 8] kz ?_
   refine go_rn [0, 1] [2, 3, 4, 5, 6, 7, 8] [(0, .p 1 0), (3, .p 2 0), (81, .p 1 0), (82, .v (.agg #[.int .i64 n1, .slice A6 s2.length c7, .bool b3, .slice A8 l4.length c9, .slice ab u5.length ac]))] br fH fun C8 lU => ?_
   clear fH
   refine of_op (wpOp_call lU (f := 73) (vs := [.agg #[.int .i64 n1, .slice A6 s2.length c7, .bool b3, .slice A8 l4.length c9, .slice ab u5.length ac], .int .i64 9]) (d := 83) kz Tryz.call73 (iAt _ _ 9 _ _ (ht.move br.step nilM br.imm)) ?_)
   rintro e_ C9 ⟨u3, rfl, pF, dK⟩
   have lV := pF.move dK nilM (fun b o h_ hb_ => br.laid (G := F) dK b o (.inl h_) (Nat.lt_of_lt_of_le hb_ dK.size))
   obtain ⟨Da, Db, Dc, eW, Dd, De, Df, Dg, Dh, Di, Dj, u4, pG, gC, sC, sD, Dk, Dl⟩ := lV.open_
   rw [gC] at lV
   have sE := sC.small
   have sF := sD.small
   rw [gC]
   refine ⟨_, rfl, fun Dm lW => ?_⟩
   have gD := br.next_nil dK
   have pH := br.frN dK
   clear lU
   have hl3_ : lst (Tree.at_ (Tree.mk n1 s2 b3 l4 u5) 9) = eW := by rw [lst_of hnull_, pG]; rfl
   have u6 : eW.length ≤ 1000000 := by have h_ := cj9; rw [hl3_] at h_; exact h_
   refine go_rn [3, 4] [5, 6, 7, 8] [(0, .p 1 0), (3, .p 2 0), (81, .p 1 0), (85, .v (.int .i64 ((eW.length : Nat) : Int)))] gD lW fun Dn lX => ?_
   clear lW
   refine of_op (wpOp_make0 gD lX (d := 86) (j := eW.length) (t := 92) (e := 171) (size := 3) (bytes := 32) kz kz rfl (rfl) (by omega) fun nA Do Dp u7 u9 pI gE lY => ?_)
   clear lX gD
   refine go_rn [6, 7] [8] [(0, .p 1 0), (3, .p 2 0), (86, .v (.slice (some ⟨nA, 0, none⟩) 0 eW.length)), (88, .p 1 10)] gE lY fun Dq lZ => ?_
   clear lY
   refine of_op (wpOp_store gE lZ (oi := 1) (cs := [.int .i16 (IntKind.i16.wrap v), .int .i32 (IntKind.i32.wrap aM), .int .i16 (IntKind.i16.wrap ae), .pointer af, .string (bs ag), .int .i32 (IntKind.i32.wrap ah), .int .i32 (IntKind.i32.wrap ai), .int .i32 (IntKind.i32.wrap aj), .int .i32 (IntKind.i32.wrap ak), .int .i64 al, .slice (some ⟨nA, 0, none⟩) 0 eW.length, .slice none 0 0, .slice none 0 0, .slice none 0 0, .bool false, .int .i32 0, .slice none 0 0, .map none]) kz fun Dr pJ cZ l0 => ?_)
   clear lZ gE
   refine wpOps_nil (then_normal ?_)
   refine go_seq_region [0, 1, 2, 3, 4] kz ?_
   refine go_rn [0] [1, 2, 3, 4] [(0, .p 1 0), (3, .p 2 0), (89, .v (.agg #[.int .i64 n1, .slice A6 s2.length c7, .bool b3, .slice A8 l4.length c9, .slice ab u5.length ac]))] cZ l0 fun Ds l3 => ?_
   clear l0
   refine of_op (wpOp_call l3 (f := 73) (vs := [.agg #[.int .i64 n1, .slice A6 s2.length c7, .bool b3, .slice A8 l4.length c9, .slice ab u5.length ac], .int .i64 9]) (d := 90) kz Tryz.call73 (iAt _ _ 9 _ _ (ht.move cZ.step nilM cZ.imm)) ?_)
   rintro e_ Dt ⟨va, rfl, pK, dL⟩
   have l5 := pK.move dL nilM (fun b o h_ hb_ => cZ.laid (G := F) dL b o (.inl h_) (Nat.lt_of_lt_of_le hb_ dL.size))
   obtain ⟨Du, Dv, Dw, aP, Dx, Dy, Dz, dt, dM, DA, DB, vb, pL, gF, sG, pM, sH, DC⟩ := l5.open_
   rw [gF] at l5
   have sI := sG.small
   have sJ := pM.small
   rw [gF]
   refine ⟨_, rfl, fun DD l6 => ?_⟩
   have gG := cZ.next_nil dL
   have pN := cZ.frN dL
   clear l3
   have hl3_ : lst (Tree.at_ (Tree.mk n1 s2 b3 l4 u5) 9) = aP := by rw [lst_of hnull_, pL]; rfl
   have vc : aP.length ≤ 1000000 := by have h_ := cj9; rw [hl3_] at h_; exact h_
   refine go_rn [2, 3, 4] [] [(0, .p 1 0), (3, .p 2 0), (91, .v (.slice dt aP.length dM)), (92, .v (.int .i64 ((aP.length : Nat) : Int))), (93, .v (.int .i64 0))] gG l6 fun DE l7 => ?_
   clear l6
   refine wpOps_nil (then_normal ?_)
   refine wp_block ?_
   refine wp_loop_ghost (fun n_ a_ w_ => ∃ (k : Nat) (A_ : Option Addr) (c_ : Nat) (xs_ : List Value) (ds_ : List DV), n_ = aP.length - k ∧ k ≤ aP.length ∧ (A_.isNone = false) ∧ (RowL w_ (Imm F w w_ [⟨bp, 0, [.int .i64 n1, .slice A6 s2.length c7, .bool b3, .slice A8 l4.length c9, .slice ab u5.length ac], true⟩, ⟨aS, 0, [.int .i16 (IntKind.i16.wrap v), .int .i32 (IntKind.i32.wrap aM), .int .i16 (IntKind.i16.wrap ae), .pointer af, .string (bs ag), .int .i32 (IntKind.i32.wrap ah), .int .i32 (IntKind.i32.wrap ai), .int .i32 (IntKind.i32.wrap aj), .int .i32 (IntKind.i32.wrap ak), .int .i64 al, .slice A_ k c_, .slice none 0 0, .slice none 0 0, .slice none 0 0, .bool false, .int .i32 0, .slice none 0 0, .map none], true⟩, ⟨bq, 0, [.int .i64 n1, .slice A6 s2.length c7, .bool b3, .slice A8 l4.length c9, .slice ab u5.length ac], true⟩] [⟨A_, c_, 171, 3, k, xs_⟩]) 3 clStreamsGroupHeartbeatResponseStatus okStreamsGroupHeartbeatResponseStatus relStreamsGroupHeartbeatResponseStatus xs_ ds_ (aP.take k)) ∧ LInv gG 268 [⟨bp, 0, [.int .i64 n1, .slice A6 s2.length c7, .bool b3, .slice A8 l4.length c9, .slice ab u5.length ac], true⟩, ⟨aS, 0, [.int .i16 (IntKind.i16.wrap v), .int .i32 (IntKind.i32.wrap aM), .int .i16 (IntKind.i16.wrap ae), .pointer af, .string (bs ag), .int .i32 (IntKind.i32.wrap ah), .int .i32 (IntKind.i32.wrap ai), .int .i32 (IntKind.i32.wrap aj), .int .i32 (IntKind.i32.wrap ak), .int .i64 al, .slice A_ k c_, .slice none 0 0, .slice none 0 0, .slice none 0 0, .bool false, .int .i32 0, .slice none 0 0, .map none], true⟩, ⟨bq, 0, [.int .i64 n1, .slice A6 s2.length c7, .bool b3, .slice A8 l4.length c9, .slice ab u5.length ac], true⟩] [⟨A_, c_, 171, 3, k, xs_⟩] [(0, .p 1 0), (3, .p 2 0), (91, .v (.slice dt aP.length dM)), (92, .v (.int .i64 ((aP.length : Nat) : Int))), (93, .v (.int .i64 ((k : Nat) : Int)))] a_ w_) (aP.length) ⟨0, (some ⟨nA, 0, none⟩), eW.length, [], [], by omega, by omega, rfl, RowL.nil mvStreamsGroupHeartbeatResponseStatus, l7.pk, gG, Fr.refl _ _ _⟩ ?_
   clear l7
   rintro DF DG DH ⟨k, A_, c_, xs_, ds_, vd, ve, hA, hR, l9, dN, c5⟩
   refine go_sp [(0, .p 1 0), (3, .p 2 0), (91, .v (.slice dt aP.length dM)), (92, .v (.int .i64 ((aP.length : Nat) : Int))), (93, .v (.int .i64 ((k : Nat) : Int))), (94, .v (.bool (decide (((k : Nat) : Int) < ((aP.length : Nat) : Int)))))] dN l9 fun DI fI => ?_
   clear l9
   refine wp_seq ?_
   refine cond_of fI (b := decide (((k : Nat) : Int) < ((aP.length : Nat) : Int))) kz (fun gH => ?_) (fun gH => ?_)
   ·
    have vf := of_decide_eq_true gH
    refine wp_skip ?_
    refine then_normal ?_
    refine wp_seq ?_
    refine wp_block ?_
    refine go_seq_region [0, 1, 2, 3] kz ?_
    obtain ⟨sK, sL, pO, vg, gI⟩ := Slots.get pM (i := k) (by omega)
    obtain ⟨sM, gJ⟩ : ∃ x, aP[k]? = some x := ⟨_, List.getElem?_eq_getElem (by omega)⟩
    have gK := sH k sM gJ
    obtain ⟨gL, gM, gN, gO, gP, gQ, gR, gS, gT, gU, gV, vh, rfl, gW, sN, sO, DJ, DK⟩ := gK.open_
    rw [gW] at gK
    have sP := sN.small
    have sQ := sO.small
    rw [gW] at gI
    refine of_op (wpOp_index fI (t := 36) (A := dt) (m := aP.length) (q := ((k : Nat) : Int)) (d := 95) kz (e := 39) (size := 5) (bytes := 88) kz pO rfl (by omega) fun DL ma => ?_)
    clear fI
    refine of_op (wpOp_load ma (t := 39) (b := sK) (o := sL + k * 5) (d := 96) kz (cs := [.int .i64 gL, .slice gQ gM.length gR, .bool gN, .slice gS gO.length gT, .slice gU gP.length gV]) (v := .agg #[.int .i64 gL, .slice gQ gM.length gR, .bool gN, .slice gS gO.length gT, .slice gU gP.length gV]) kz (AtF.move gI c5.step immM c5.to').at_ fun DM mc => ?_)
    clear ma
    refine of_op (wpOp_alloc dN mc (d := 5) (cs := [.int .i64 0, .slice none 0 0, .bool false, .slice none 0 0, .slice none 0 0]) kz fun DN DO DP vj vk dO md me => ?_)
    clear mc dN
    refine of_op (wpOp_store md me (oi := 3) (cs := [.int .i64 gL, .slice gQ gM.length gR, .bool gN, .slice gS gO.length gT, .slice gU gP.length gV]) kz fun DQ dP mf mg => ?_)
    clear me md
    refine wpOps_nil (then_normal ?_)
    refine go_drawK 11 kz mf fun DR dQ gX pP => ?_
    clear mf
    refine go_rnD [0, 1, 2, 3, 4, 5] [(0, .p 1 0), (3, .p 2 0), (91, .v (.slice dt aP.length dM)), (92, .v (.int .i64 ((aP.length : Nat) : Int))), (93, .v (.int .i64 ((k : Nat) : Int))), (97, .p 1 0), (101, .v (.slice A_ k c_)), (102, .v (.agg #[.int .i64 gL, .slice gQ gM.length gR, .bool gN, .slice gS gO.length gT, .slice gU gP.length gV]))] 6 (panicFree_block (panicFree_then (panicFree_then (panicFree_block (panicFree_then panicFree_body))))) (fun _ h => h.cells) pP mg fun DS mh => ?_
    clear mg
    refine anyC_op (i := 6) kz (wpOp_call mh (f := 116) (vs := [.agg #[.int .i64 gL, .slice gQ gM.length gR, .bool gN, .slice gS gO.length gT, .slice gU gP.length gV]]) (d := 103) kz Tryz.call116 (eStreamsGroupHeartbeatResponseStatus _ _ _ _ (gK.move (((c5.trans dO).trans dP).trans dQ).step immM (((c5.trans dO).trans dP).trans dQ).to') (cj9e _ (by rw [hl3_]; exact List.mem_of_getElem? gJ))) ?_)
    rintro e_ DT ⟨bt, rfl, pQ, kE, gY⟩
    have pR := mvStreamsGroupHeartbeatResponseStatus _ (Step.refl _ Nil) nilM (gX.laid (G := F) gY) pQ
    refine ⟨_, rfl, fun DU mi => ?_⟩
    have gZ := gX.next_nil gY
    have bN := gX.frN gY
    clear mh
    have pS := TT.ofW bN gZ
    refine ⟨fun _ => pS, ?_⟩
    refine anyC_op (i := 7) kz (wpOp_lit gZ mi (e := 171) (size := 3) (len := 1) (cs := [.int .i8 ((bt.f 0).n), .string ((bt.f 1).s), .map bt.m]) (d := 104) kz kz fun sR DW DX vl vm bJ dR mj => ?_)
    clear mi gZ
    have pT := TT.ofW (bN.trans bJ) dR
    refine ⟨fun _ => pT, ?_⟩
    refine anyC_op (i := 8) kz (wpOp_append dR mj (k := 0) (d := 105) (t := 92) (e := 171) (size := 3) (bytes := 32) (A := A_) (As := (some ⟨sR, 0, none⟩)) (m0 := k) (c := c_) (m := 1) (cs := 1) (xs := xs_) (news := [.int .i8 ((bt.f 0).n), .string ((bt.f 1).s), .map bt.m]) kz kz rfl (own_src (dR.own 1 _ rfl) (allOne_ok kz)) (own_cap (dR.own 1 _ rfl)) (by omega) fun f9 ga DY DZ bO dS ml => ?_)
    clear mj dR
    have pU := TT.ofW ((bN.trans bJ).trans bO) dS
    refine ⟨fun _ => pU, ?_⟩
    refine anyC_op (i := 9) kz (wpOp_pure [0, 3, 91, 92, 93, 105, 106] dS.cells ml (env' := [(0, .p 1 0), (3, .p 2 0), (91, .v (.slice dt aP.length dM)), (92, .v (.int .i64 ((aP.length : Nat) : Int))), (93, .v (.int .i64 ((k : Nat) : Int))), (105, .v (.slice f9 (k + 1) ga)), (106, .p 1 0)]) kz fun D0 mm => ?_)
    clear ml
    have mn := TT.ofW ((bN.trans bJ).trans bO) dS
    refine ⟨fun _ => mn, ?_⟩
    refine go_rnD [10] [(0, .p 1 0), (3, .p 2 0), (91, .v (.slice dt aP.length dM)), (92, .v (.int .i64 ((aP.length : Nat) : Int))), (93, .v (.int .i64 ((k : Nat) : Int))), (105, .v (.slice f9 (k + 1) ga)), (107, .p 1 10)] 1 (panicFree_block (panicFree_then (panicFree_then (panicFree_block (panicFree_then panicFree_body))))) (fun _ h => h.cells) mn mm fun D1 mo => ?_
    clear mm
    refine anyC_op (i := 11) kz (wpOp_store dS mo (oi := 1) (cs := [.int .i16 (IntKind.i16.wrap v), .int .i32 (IntKind.i32.wrap aM), .int .i16 (IntKind.i16.wrap ae), .pointer af, .string (bs ag), .int .i32 (IntKind.i32.wrap ah), .int .i32 (IntKind.i32.wrap ai), .int .i32 (IntKind.i32.wrap aj), .int .i32 (IntKind.i32.wrap ak), .int .i64 al, .slice f9 (k + 1) ga, .slice none 0 0, .slice none 0 0, .slice none 0 0, .bool false, .int .i32 0, .slice none 0 0, .map none]) kz fun D2 dT mp mq => ?_)
    clear mo dS
    refine ⟨fun h => absurd rfl h, ?_⟩
    refine anyC_done kz ?_ _
    refine block_normal ?_
    refine then_normal ?_
    refine go_region [0, 1] kz ?_
    refine go_rn [0, 1] [] [(0, .p 1 0), (3, .p 2 0), (91, .v (.slice dt aP.length dM)), (92, .v (.int .i64 ((aP.length : Nat) : Int))), (93, .v (.int .i64 (IntKind.i64.wrap (((k : Nat) : Int) + 1))))] mp mq fun D3 pV => ?_
    clear mq
    refine wpOps_nil (then_normal ?_)
    obtain ⟨mr, pW, dU⟩ := mp.cutB pV 3 [⟨bp, 0, [.int .i64 n1, .slice A6 s2.length c7, .bool b3, .slice A8 l4.length c9, .slice ab u5.length ac], true⟩, ⟨aS, 0, [.int .i16 (IntKind.i16.wrap v), .int .i32 (IntKind.i32.wrap aM), .int .i16 (IntKind.i16.wrap ae), .pointer af, .string (bs ag), .int .i32 (IntKind.i32.wrap ah), .int .i32 (IntKind.i32.wrap ai), .int .i32 (IntKind.i32.wrap aj), .int .i32 (IntKind.i32.wrap ak), .int .i64 al, .slice f9 (k + 1) ga, .slice none 0 0, .slice none 0 0, .slice none 0 0, .bool false, .int .i32 0, .slice none 0 0, .map none], true⟩, ⟨bq, 0, [.int .i64 n1, .slice A6 s2.length c7, .bool b3, .slice A8 l4.length c9, .slice ab u5.length ac], true⟩] [(0, .p 1 0), (3, .p 2 0), (91, .v (.slice dt aP.length dM)), (92, .v (.int .i64 ((aP.length : Nat) : Int))), (93, .v (.int .i64 (IntKind.i64.wrap (((k : Nat) : Int) + 1))))]
    obtain ⟨mt, dV⟩ := pW.cutR 1 [⟨f9, ga, 171, 3, k + 1, xs_ ++ [.int .i8 ((bt.f 0).n), .string ((bt.f 1).s), .map bt.m]⟩]
    have pX : IntKind.i64.wrap (((k : Nat) : Int) + 1) = ((k + 1 : Nat) : Int) := wrap_succ (by omega)
    rw [pX] at mr
    exact ⟨aP.length - (k + 1), by omega, k + 1, f9, ga, xs_ ++ [Value.int .i8 ((bt.f 0).n), .string ((bt.f 1).s), .map bt.m], (ds_ ++ [bt]), rfl, by omega, own_some mt (k := 0) rfl (by omega), RowL.snoc (d := bt) (hR.move ((((((((dO.trans dP).trans dQ).trans bN).trans bJ).trans bO).trans dT).trans dU).trans dV).step immM ((((((((dO.trans dP).trans dQ).trans bN).trans bJ).trans bO).trans dT).trans dU).trans dV).to') gJ rfl (mvStreamsGroupHeartbeatResponseStatus _ ((((bJ.trans bO).trans dT).trans dU).trans dV).step immM ((((bJ.trans bO).trans dT).trans dU).trans dV).to' pR) kE, mr.pk, mt, (((((((((c5.trans dO).trans dP).trans dQ).trans bN).trans bJ).trans bO).trans dT).trans dU).trans dV)⟩
   ·
    have vn := of_decide_eq_false gH
    refine wp_exit ?_
    refine then_exit ?_
    refine then_exit ?_
    refine block_exit ?_
    refine then_normal ?_
    have hk_ : k = (lst (Tree.at_ (Tree.mk n1 s2 b3 l4 u5) 9)).length := by rw [hl3_]; omega
    subst k
    have hL_ := LstR.of dN (k := 0) (rs' := []) rfl hR (by rw [hl3_]) oneStreamsGroupHeartbeatResponseStatus (by omega)
    rw [← hl3_] at hL_
    obtain ⟨pY, pZ⟩ := dN.cutR 0 []
    exact ⟨_, _, _, by rw [hnull_]; exact hA, hL_, fI.pk, pY, (((((pH.trans pI).trans pJ).trans pN).trans c5).trans pZ)⟩
  ·
   refine wp_skip ?_
   refine then_normal ?_
   have hn_ : Tree.null (Tree.at_ (Tree.mk n1 s2 b3 l4 u5) 9) = true := by rw [lR]; show kD = true; simpa using gB
   have hl_ := lst_no hn_
   exact ⟨none, 0, fun _ => dv0, by rw [hn_]; rfl, by rw [hl_]; exact LstR.nil mvStreamsGroupHeartbeatResponseStatus, by rw [hl_]; exact ⟨fH.pk, br, Fr.refl _ _ _⟩⟩
 rintro D4 D5 ⟨ar, au, eX, p2, g6, mu, da, mw⟩
 refine wp_seq ?_
 refine go_seq_region [0, 1, 2, 3] kz ?_
 refine go_rn [0] [1, 2, 3] [(0, .p 1 0), (3, .p 2 0), (109, .v (.agg #[.int .i64 n1, .slice A6 s2.length c7, .bool b3, .slice A8 l4.length c9, .slice ab u5.length ac]))] da mu fun D6 mx => ?_
 clear mu
 refine of_op (wpOp_call mx (f := 73) (vs := [.agg #[.int .i64 n1, .slice A6 s2.length c7, .bool b3, .slice A8 l4.length c9, .slice ab u5.length ac], .int .i64 10]) (d := 110) kz Tryz.call73 (iAt _ _ 10 _ _ (ht.move da.step nilM da.imm)) ?_)
 rintro e_ D7 ⟨vo, rfl, p3, dW⟩
 have my := p3.move dW nilM (fun b o h_ hb_ => da.laid (G := F) dW b o (.inl h_) (Nat.lt_of_lt_of_le hb_ dW.size))
 obtain ⟨D8, D9, kF, Ea, Eb, Ec, Ed, Ee, Ef, Eg, Eh, vp, mz, g7, sS, sT, Ei, Ej⟩ := my.open_
 rw [g7] at my
 have sU := sS.small
 have sV := sT.small
 rw [g7]
 refine ⟨_, rfl, fun Ek mA => ?_⟩
 have bu := da.next_nil dW
 have db := da.frN dW
 clear mx
 refine go_rn [2, 3] [] [(0, .p 1 0), (3, .p 2 0), (112, .v (.bool (!kF)))] bu mA fun El fJ => ?_
 clear mA
 refine wpOps_nil (then_normal ?_)
 refine wp_join (Mid := fun a_ w_ => ∃ (A_ : Option Addr) (c_ : Nat) (f_ : Nat → DV), A_.isNone = Tree.null (Tree.at_ (Tree.mk n1 s2 b3 l4 u5) 10) ∧ LstR w_ (Imm F w w_ [⟨bp, 0, [.int .i64 n1, .slice A6 s2.length c7, .bool b3, .slice A8 l4.length c9, .slice ab u5.length ac], true⟩, ⟨aS, 0, [.int .i16 (IntKind.i16.wrap v), .int .i32 (IntKind.i32.wrap aM), .int .i16 (IntKind.i16.wrap ae), .pointer af, .string (bs ag), .int .i32 (IntKind.i32.wrap ah), .int .i32 (IntKind.i32.wrap ai), .int .i32 (IntKind.i32.wrap aj), .int .i32 (IntKind.i32.wrap ak), .int .i64 al, .slice ar ((lst (Tree.at_ (Tree.mk n1 s2 b3 l4 u5) 9)).length) au, .slice A_ ((lst (Tree.at_ (Tree.mk n1 s2 b3 l4 u5) 10)).length) c_, .slice none 0 0, .slice none 0 0, .bool false, .int .i32 0, .slice none 0 0, .map none], true⟩, ⟨bq, 0, [.int .i64 n1, .slice A6 s2.length c7, .bool b3, .slice A8 l4.length c9, .slice ab u5.length ac], true⟩] []) 3 clTaskIDs okTaskIDs relTaskIDs A_ c_ f_ (lst (Tree.at_ (Tree.mk n1 s2 b3 l4 u5) 10)) ∧ LInv bu 268 [⟨bp, 0, [.int .i64 n1, .slice A6 s2.length c7, .bool b3, .slice A8 l4.length c9, .slice ab u5.length ac], true⟩, ⟨aS, 0, [.int .i16 (IntKind.i16.wrap v), .int .i32 (IntKind.i32.wrap aM), .int .i16 (IntKind.i16.wrap ae), .pointer af, .string (bs ag), .int .i32 (IntKind.i32.wrap ah), .int .i32 (IntKind.i32.wrap ai), .int .i32 (IntKind.i32.wrap aj), .int .i32 (IntKind.i32.wrap ak), .int .i64 al, .slice ar ((lst (Tree.at_ (Tree.mk n1 s2 b3 l4 u5) 9)).length) au, .slice A_ ((lst (Tree.at_ (Tree.mk n1 s2 b3 l4 u5) 10)).length) c_, .slice none 0 0, .slice none 0 0, .bool false, .int .i32 0, .slice none 0 0, .map none], true⟩, ⟨bq, 0, [.int .i64 n1, .slice A6 s2.length c7, .bool b3, .slice A8 l4.length c9, .slice ab u5.length ac], true⟩] [] [(0, .p 1 0), (3, .p 2 0)] a_ w_) ?_ ?_
 ·
  refine cond_of fJ (b := !kF) kz (fun g8 => ?_) (fun g8 => ?_)
  ·
   have hnull_ : Tree.null (Tree.at_ (Tree.mk n1 s2 b3 l4 u5) 10) = false := by rw [mz]; show kF = false; simpa using g8
   refine go_seq_region [0, 1, 2, 3, 4, 5, 6, 7, 8] kz ?_
   refine go_rn [0, 1] [2, 3, 4, 5, 6, 7, 8] [(0, .p 1 0), (3, .p 2 0), (113, .p 1 0), (114, .v (.agg #[.int .i64 n1, .slice A6 s2.length c7, .bool b3, .slice A8 l4.length c9, .slice ab u5.length ac]))] bu fJ fun Em mB => ?_
   clear fJ
   refine of_op (wpOp_call mB (f := 73) (vs := [.agg #[.int .i64 n1, .slice A6 s2.length c7, .bool b3, .slice A8 l4.length c9, .slice ab u5.length ac], .int .i64 10]) (d := 115) kz Tryz.call73 (iAt _ _ 10 _ _ (ht.move bu.step nilM bu.imm)) ?_)
   rintro e_ En ⟨vq, rfl, p4, dX⟩
   have mC := p4.move dX nilM (fun b o h_ hb_ => bu.laid (G := F) dX b o (.inl h_) (Nat.lt_of_lt_of_le hb_ dX.size))
   obtain ⟨Eo, Ep, Eq, eY, Er, Es, Et, Eu, Ev, Ew, Ex, vr, p5, g9, sW, sX, Ey, Ez⟩ := mC.open_
   rw [g9] at mC
   have sY := sW.small
   have sZ := sX.small
   rw [g9]
   refine ⟨_, rfl, fun EA mD => ?_⟩
   have hC := bu.next_nil dX
   have p6 := bu.frN dX
   clear mB
   have hl3_ : lst (Tree.at_ (Tree.mk n1 s2 b3 l4 u5) 10) = eY := by rw [lst_of hnull_, p5]; rfl
   have vt : eY.length ≤ 1000000 := by have h_ := nv; rw [hl3_] at h_; exact h_
   refine go_rn [3, 4] [5, 6, 7, 8] [(0, .p 1 0), (3, .p 2 0), (113, .p 1 0), (117, .v (.int .i64 ((eY.length : Nat) : Int)))] hC mD fun EB mE => ?_
   clear mD
   refine of_op (wpOp_make0 hC mE (d := 118) (j := eY.length) (t := 93) (e := 174) (size := 3) (bytes := 48) kz kz rfl (rfl) (by omega) fun nB EC ED vu vv p7 hJ mF => ?_)
   clear mE hC
   refine go_rn [6, 7] [8] [(0, .p 1 0), (3, .p 2 0), (118, .v (.slice (some ⟨nB, 0, none⟩) 0 eY.length)), (120, .p 1 11)] hJ mF fun EE mG => ?_
   clear mF
   refine of_op (wpOp_store hJ mG (oi := 1) (cs := [.int .i16 (IntKind.i16.wrap v), .int .i32 (IntKind.i32.wrap aM), .int .i16 (IntKind.i16.wrap ae), .pointer af, .string (bs ag), .int .i32 (IntKind.i32.wrap ah), .int .i32 (IntKind.i32.wrap ai), .int .i32 (IntKind.i32.wrap aj), .int .i32 (IntKind.i32.wrap ak), .int .i64 al, .slice ar ((lst (Tree.at_ (Tree.mk n1 s2 b3 l4 u5) 9)).length) au, .slice (some ⟨nB, 0, none⟩) 0 eY.length, .slice none 0 0, .slice none 0 0, .bool false, .int .i32 0, .slice none 0 0, .map none]) kz fun EF p8 dc mH => ?_)
   clear mG hJ
   refine wpOps_nil (then_normal ?_)
   refine go_seq_region [0, 1, 2, 3, 4] kz ?_
   refine go_rn [0] [1, 2, 3, 4] [(0, .p 1 0), (3, .p 2 0), (121, .v (.agg #[.int .i64 n1, .slice A6 s2.length c7, .bool b3, .slice A8 l4.length c9, .slice ab u5.length ac]))] dc mH fun EG mI => ?_
   clear mH
   refine of_op (wpOp_call mI (f := 73) (vs := [.agg #[.int .i64 n1, .slice A6 s2.length c7, .bool b3, .slice A8 l4.length c9, .slice ab u5.length ac], .int .i64 10]) (d := 122) kz Tryz.call73 (iAt _ _ 10 _ _ (ht.move dc.step nilM dc.imm)) ?_)
   rintro e_ EH ⟨vw, rfl, p9, dY⟩
   have mJ := p9.move dY nilM (fun b o h_ hb_ => dc.laid (G := F) dY b o (.inl h_) (Nat.lt_of_lt_of_le hb_ dY.size))
   obtain ⟨EI, EJ, EK, aQ, EL, EM, EN, du, dZ, EO, EP, vx, qa, hK, s0, qb, s3, EQ⟩ := mJ.open_
   rw [hK] at mJ
   have s4 := s0.small
   have s5 := qb.small
   rw [hK]
   refine ⟨_, rfl, fun ER mK => ?_⟩
   have hP := dc.next_nil dY
   have qc := dc.frN dY
   clear mI
   have hl3_ : lst (Tree.at_ (Tree.mk n1 s2 b3 l4 u5) 10) = aQ := by rw [lst_of hnull_, qa]; rfl
   have vy : aQ.length ≤ 1000000 := by have h_ := nv; rw [hl3_] at h_; exact h_
   refine go_rn [2, 3, 4] [] [(0, .p 1 0), (3, .p 2 0), (123, .v (.slice du aQ.length dZ)), (124, .v (.int .i64 ((aQ.length : Nat) : Int))), (125, .v (.int .i64 0))] hP mK fun ES mL => ?_
   clear mK
   refine wpOps_nil (then_normal ?_)
   refine wp_block ?_
   refine wp_loop_ghost (fun n_ a_ w_ => ∃ (k : Nat) (A_ : Option Addr) (c_ : Nat) (xs_ : List Value) (ds_ : List DV), n_ = aQ.length - k ∧ k ≤ aQ.length ∧ (A_.isNone = false) ∧ (RowL w_ (Imm F w w_ [⟨bp, 0, [.int .i64 n1, .slice A6 s2.length c7, .bool b3, .slice A8 l4.length c9, .slice ab u5.length ac], true⟩, ⟨aS, 0, [.int .i16 (IntKind.i16.wrap v), .int .i32 (IntKind.i32.wrap aM), .int .i16 (IntKind.i16.wrap ae), .pointer af, .string (bs ag), .int .i32 (IntKind.i32.wrap ah), .int .i32 (IntKind.i32.wrap ai), .int .i32 (IntKind.i32.wrap aj), .int .i32 (IntKind.i32.wrap ak), .int .i64 al, .slice ar ((lst (Tree.at_ (Tree.mk n1 s2 b3 l4 u5) 9)).length) au, .slice A_ k c_, .slice none 0 0, .slice none 0 0, .bool false, .int .i32 0, .slice none 0 0, .map none], true⟩, ⟨bq, 0, [.int .i64 n1, .slice A6 s2.length c7, .bool b3, .slice A8 l4.length c9, .slice ab u5.length ac], true⟩] [⟨A_, c_, 174, 3, k, xs_⟩]) 3 clTaskIDs okTaskIDs relTaskIDs xs_ ds_ (aQ.take k)) ∧ LInv hP 268 [⟨bp, 0, [.int .i64 n1, .slice A6 s2.length c7, .bool b3, .slice A8 l4.length c9, .slice ab u5.length ac], true⟩, ⟨aS, 0, [.int .i16 (IntKind.i16.wrap v), .int .i32 (IntKind.i32.wrap aM), .int .i16 (IntKind.i16.wrap ae), .pointer af, .string (bs ag), .int .i32 (IntKind.i32.wrap ah), .int .i32 (IntKind.i32.wrap ai), .int .i32 (IntKind.i32.wrap aj), .int .i32 (IntKind.i32.wrap ak), .int .i64 al, .slice ar ((lst (Tree.at_ (Tree.mk n1 s2 b3 l4 u5) 9)).length) au, .slice A_ k c_, .slice none 0 0, .slice none 0 0, .bool false, .int .i32 0, .slice none 0 0, .map none], true⟩, ⟨bq, 0, [.int .i64 n1, .slice A6 s2.length c7, .bool b3, .slice A8 l4.length c9, .slice ab u5.length ac], true⟩] [⟨A_, c_, 174, 3, k, xs_⟩] [(0, .p 1 0), (3, .p 2 0), (123, .v (.slice du aQ.length dZ)), (124, .v (.int .i64 ((aQ.length : Nat) : Int))), (125, .v (.int .i64 ((k : Nat) : Int)))] a_ w_) (aQ.length) ⟨0, (some ⟨nB, 0, none⟩), eY.length, [], [], by omega, by omega, rfl, RowL.nil mvTaskIDs, mL.pk, hP, Fr.refl _ _ _⟩ ?_
   clear mL
   rintro ET EU EV ⟨k, A_, c_, xs_, ds_, vz, vA, hA, hR, mM, d4, de⟩
   refine go_sp [(0, .p 1 0), (3, .p 2 0), (123, .v (.slice du aQ.length dZ)), (124, .v (.int .i64 ((aQ.length : Nat) : Int))), (125, .v (.int .i64 ((k : Nat) : Int))), (126, .v (.bool (decide (((k : Nat) : Int) < ((aQ.length : Nat) : Int)))))] d4 mM fun EW fK => ?_
   clear mM
   refine wp_seq ?_
   refine cond_of fK (b := decide (((k : Nat) : Int) < ((aQ.length : Nat) : Int))) kz (fun hX => ?_) (fun hX => ?_)
   ·
    have vB := of_decide_eq_true hX
    refine wp_skip ?_
    refine then_normal ?_
    refine wp_seq ?_
    refine wp_block ?_
    refine go_seq_region [0, 1, 2, 3] kz ?_
    obtain ⟨s6, s7, qd, vC, hY⟩ := Slots.get qb (i := k) (by omega)
    obtain ⟨s8, hZ⟩ : ∃ x, aQ[k]? = some x := ⟨_, List.getElem?_eq_getElem (by omega)⟩
    have ia := s3 k s8 hZ
    obtain ⟨ib, ic, ig, ii, ij, ik, il, im, io, ip, iq, vD, rfl, ir, s9, ta, EX, EY⟩ := ia.open_
    rw [ir] at ia
    have td := s9.small
    have te := ta.small
    rw [ir] at hY
    refine of_op (wpOp_index fK (t := 36) (A := du) (m := aQ.length) (q := ((k : Nat) : Int)) (d := 127) kz (e := 39) (size := 5) (bytes := 88) kz qd rfl (by omega) fun EZ mN => ?_)
    clear fK
    refine of_op (wpOp_load mN (t := 39) (b := s6) (o := s7 + k * 5) (d := 128) kz (cs := [.int .i64 ib, .slice ik ic.length il, .bool ig, .slice im ii.length io, .slice ip ij.length iq]) (v := .agg #[.int .i64 ib, .slice ik ic.length il, .bool ig, .slice im ii.length io, .slice ip ij.length iq]) kz (AtF.move hY de.step immM de.to').at_ fun E0 mO => ?_)
    clear mN
    refine of_op (wpOp_alloc d4 mO (d := 7) (cs := [.int .i64 0, .slice none 0 0, .bool false, .slice none 0 0, .slice none 0 0]) kz fun E1 E2 E3 vE vF d5 mP mQ => ?_)
    clear mO d4
    refine of_op (wpOp_store mP mQ (oi := 3) (cs := [.int .i64 ib, .slice ik ic.length il, .bool ig, .slice im ii.length io, .slice ip ij.length iq]) kz fun E4 d6 mR mS => ?_)
    clear mQ mP
    refine wpOps_nil (then_normal ?_)
    refine go_drawK 11 kz mR fun E5 d7 iu qe => ?_
    clear mR
    refine go_rnD [0, 1, 2, 3, 4, 5] [(0, .p 1 0), (3, .p 2 0), (123, .v (.slice du aQ.length dZ)), (124, .v (.int .i64 ((aQ.length : Nat) : Int))), (125, .v (.int .i64 ((k : Nat) : Int))), (129, .p 1 0), (133, .v (.slice A_ k c_)), (134, .v (.agg #[.int .i64 ib, .slice ik ic.length il, .bool ig, .slice im ii.length io, .slice ip ij.length iq]))] 6 (panicFree_block (panicFree_then (panicFree_then (panicFree_block (panicFree_then panicFree_body))))) (fun _ h => h.cells) qe mS fun E6 mT => ?_
    clear mS
    refine anyC_op (i := 6) kz (wpOp_call mT (f := 117) (vs := [.agg #[.int .i64 ib, .slice ik ic.length il, .bool ig, .slice im ii.length io, .slice ip ij.length iq]]) (d := 135) kz Tryz.call117 (eTaskIDs _ _ _ _ (ia.move (((de.trans d5).trans d6).trans d7).step immM (((de.trans d5).trans d6).trans d7).to') (cj10e _ (by rw [hl3_]; exact List.mem_of_getElem? hZ))) ?_)
    rintro e_ E7 ⟨aT, rfl, qf, kG, iv⟩
    have qg := mvTaskIDs _ (Step.refl _ Nil) nilM (iu.laid (G := F) iv) qf
    refine ⟨_, rfl, fun E8 mU => ?_⟩
    have iw := iu.next_nil iv
    have bP := iu.frN iv
    clear mT
    have qh := TT.ofW bP iw
    refine ⟨fun _ => qh, ?_⟩
    refine anyC_op (i := 7) kz (wpOp_lit iw mU (e := 174) (size := 3) (len := 1) (cs := [.string ((aT.f 0).s), .slice ((aT.f 1).A) ((aT.f 1).l) ((aT.f 1).c), .map aT.m]) (d := 136) kz kz fun tf E9 Fa vG vH bK d8 mV => ?_)
    clear mU iw
    have qi := TT.ofW (bP.trans bK) d8
    refine ⟨fun _ => qi, ?_⟩
    refine anyC_op (i := 8) kz (wpOp_append d8 mV (k := 0) (d := 137) (t := 93) (e := 174) (size := 3) (bytes := 48) (A := A_) (As := (some ⟨tf, 0, none⟩)) (m0 := k) (c := c_) (m := 1) (cs := 1) (xs := xs_) (news := [.string ((aT.f 0).s), .slice ((aT.f 1).A) ((aT.f 1).l) ((aT.f 1).c), .map aT.m]) kz kz rfl (own_src (d8.own 1 _ rfl) (allOne_ok kz)) (own_cap (d8.own 1 _ rfl)) (by omega) fun gb gc Fb Fc bQ d9 mW => ?_)
    clear mV d8
    have qj := TT.ofW ((bP.trans bK).trans bQ) d9
    refine ⟨fun _ => qj, ?_⟩
    refine anyC_op (i := 9) kz (wpOp_pure [0, 3, 123, 124, 125, 137, 138] d9.cells mW (env' := [(0, .p 1 0), (3, .p 2 0), (123, .v (.slice du aQ.length dZ)), (124, .v (.int .i64 ((aQ.length : Nat) : Int))), (125, .v (.int .i64 ((k : Nat) : Int))), (137, .v (.slice gb (k + 1) gc)), (138, .p 1 0)]) kz fun Fd mX => ?_)
    clear mW
    have mY := TT.ofW ((bP.trans bK).trans bQ) d9
    refine ⟨fun _ => mY, ?_⟩
    refine go_rnD [10] [(0, .p 1 0), (3, .p 2 0), (123, .v (.slice du aQ.length dZ)), (124, .v (.int .i64 ((aQ.length : Nat) : Int))), (125, .v (.int .i64 ((k : Nat) : Int))), (137, .v (.slice gb (k + 1) gc)), (139, .p 1 11)] 1 (panicFree_block (panicFree_then (panicFree_then (panicFree_block (panicFree_then panicFree_body))))) (fun _ h => h.cells) mY mX fun Fe mZ => ?_
    clear mX
    refine anyC_op (i := 11) kz (wpOp_store d9 mZ (oi := 1) (cs := [.int .i16 (IntKind.i16.wrap v), .int .i32 (IntKind.i32.wrap aM), .int .i16 (IntKind.i16.wrap ae), .pointer af, .string (bs ag), .int .i32 (IntKind.i32.wrap ah), .int .i32 (IntKind.i32.wrap ai), .int .i32 (IntKind.i32.wrap aj), .int .i32 (IntKind.i32.wrap ak), .int .i64 al, .slice ar ((lst (Tree.at_ (Tree.mk n1 s2 b3 l4 u5) 9)).length) au, .slice gb (k + 1) gc, .slice none 0 0, .slice none 0 0, .bool false, .int .i32 0, .slice none 0 0, .map none]) kz fun Ff ea m6 m7 => ?_)
    clear mZ d9
    refine ⟨fun h => absurd rfl h, ?_⟩
    refine anyC_done kz ?_ _
    refine block_normal ?_
    refine then_normal ?_
    refine go_region [0, 1] kz ?_
    refine go_rn [0, 1] [] [(0, .p 1 0), (3, .p 2 0), (123, .v (.slice du aQ.length dZ)), (124, .v (.int .i64 ((aQ.length : Nat) : Int))), (125, .v (.int .i64 (IntKind.i64.wrap (((k : Nat) : Int) + 1))))] m6 m7 fun Fg qk => ?_
    clear m7
    refine wpOps_nil (then_normal ?_)
    obtain ⟨m8, ql, eb⟩ := m6.cutB qk 3 [⟨bp, 0, [.int .i64 n1, .slice A6 s2.length c7, .bool b3, .slice A8 l4.length c9, .slice ab u5.length ac], true⟩, ⟨aS, 0, [.int .i16 (IntKind.i16.wrap v), .int .i32 (IntKind.i32.wrap aM), .int .i16 (IntKind.i16.wrap ae), .pointer af, .string (bs ag), .int .i32 (IntKind.i32.wrap ah), .int .i32 (IntKind.i32.wrap ai), .int .i32 (IntKind.i32.wrap aj), .int .i32 (IntKind.i32.wrap ak), .int .i64 al, .slice ar ((lst (Tree.at_ (Tree.mk n1 s2 b3 l4 u5) 9)).length) au, .slice gb (k + 1) gc, .slice none 0 0, .slice none 0 0, .bool false, .int .i32 0, .slice none 0 0, .map none], true⟩, ⟨bq, 0, [.int .i64 n1, .slice A6 s2.length c7, .bool b3, .slice A8 l4.length c9, .slice ab u5.length ac], true⟩] [(0, .p 1 0), (3, .p 2 0), (123, .v (.slice du aQ.length dZ)), (124, .v (.int .i64 ((aQ.length : Nat) : Int))), (125, .v (.int .i64 (IntKind.i64.wrap (((k : Nat) : Int) + 1))))]
    obtain ⟨m9, ec⟩ := ql.cutR 1 [⟨gb, gc, 174, 3, k + 1, xs_ ++ [.string ((aT.f 0).s), .slice ((aT.f 1).A) ((aT.f 1).l) ((aT.f 1).c), .map aT.m]⟩]
    have qm : IntKind.i64.wrap (((k : Nat) : Int) + 1) = ((k + 1 : Nat) : Int) := wrap_succ (by omega)
    rw [qm] at m8
    exact ⟨aQ.length - (k + 1), by omega, k + 1, gb, gc, xs_ ++ [Value.string ((aT.f 0).s), .slice ((aT.f 1).A) ((aT.f 1).l) ((aT.f 1).c), .map aT.m], (ds_ ++ [aT]), rfl, by omega, own_some m9 (k := 0) rfl (by omega), RowL.snoc (d := aT) (hR.move ((((((((d5.trans d6).trans d7).trans bP).trans bK).trans bQ).trans ea).trans eb).trans ec).step immM ((((((((d5.trans d6).trans d7).trans bP).trans bK).trans bQ).trans ea).trans eb).trans ec).to') hZ rfl (mvTaskIDs _ ((((bK.trans bQ).trans ea).trans eb).trans ec).step immM ((((bK.trans bQ).trans ea).trans eb).trans ec).to' qg) kG, m8.pk, m9, (((((((((de.trans d5).trans d6).trans d7).trans bP).trans bK).trans bQ).trans ea).trans eb).trans ec)⟩
   ·
    have vI := of_decide_eq_false hX
    refine wp_exit ?_
    refine then_exit ?_
    refine then_exit ?_
    refine block_exit ?_
    refine then_normal ?_
    have hk_ : k = (lst (Tree.at_ (Tree.mk n1 s2 b3 l4 u5) 10)).length := by rw [hl3_]; omega
    subst k
    have hL_ := LstR.of d4 (k := 0) (rs' := []) rfl hR (by rw [hl3_]) oneTaskIDs (by omega)
    rw [← hl3_] at hL_
    obtain ⟨qn, qo⟩ := d4.cutR 0 []
    exact ⟨_, _, _, by rw [hnull_]; exact hA, hL_, fK.pk, qn, (((((p6.trans p7).trans p8).trans qc).trans de).trans qo)⟩
  ·
   refine wp_skip ?_
   refine then_normal ?_
   have hn_ : Tree.null (Tree.at_ (Tree.mk n1 s2 b3 l4 u5) 10) = true := by rw [mz]; show kF = true; simpa using g8
   have hl_ := lst_no hn_
   exact ⟨none, 0, fun _ => dv0, by rw [hn_]; rfl, by rw [hl_]; exact LstR.nil mvTaskIDs, by rw [hl_]; exact ⟨fJ.pk, bu, Fr.refl _ _ _⟩⟩
 rintro Fh Fi ⟨aE, aF, eZ, qp, ix, na, df, dg⟩
 refine wp_seq ?_
 refine go_seq_region [0, 1, 2, 3] kz ?_
 refine go_rn [0] [1, 2, 3] [(0, .p 1 0), (3, .p 2 0), (141, .v (.agg #[.int .i64 n1, .slice A6 s2.length c7, .bool b3, .slice A8 l4.length c9, .slice ab u5.length ac]))] df na fun Fj nb => ?_
 clear na
 refine of_op (wpOp_call nb (f := 73) (vs := [.agg #[.int .i64 n1, .slice A6 s2.length c7, .bool b3, .slice A8 l4.length c9, .slice ab u5.length ac], .int .i64 11]) (d := 142) kz Tryz.call73 (iAt _ _ 11 _ _ (ht.move df.step nilM df.imm)) ?_)
 rintro e_ Fk ⟨vJ, rfl, qq, ee⟩
 have nc := qq.move ee nilM (fun b o h_ hb_ => df.laid (G := F) ee b o (.inl h_) (Nat.lt_of_lt_of_le hb_ ee.size))
 obtain ⟨Fl, Fm, kH, Fn, Fo, Fq, Fs, Ft, Fu, Fv, Fw, vK, nf, iy, tg, th, Fx, Fy⟩ := nc.open_
 rw [iy] at nc
 have tj := tg.small
 have tk := th.small
 rw [iy]
 refine ⟨_, rfl, fun Fz ng => ?_⟩
 have bv := df.next_nil ee
 have bf := df.frN ee
 clear nb
 refine go_rn [2, 3] [] [(0, .p 1 0), (3, .p 2 0), (144, .v (.bool (!kH)))] bv ng fun FA fL => ?_
 clear ng
 refine wpOps_nil (then_normal ?_)
 refine wp_join (Mid := fun a_ w_ => ∃ (A_ : Option Addr) (c_ : Nat) (f_ : Nat → DV), A_.isNone = Tree.null (Tree.at_ (Tree.mk n1 s2 b3 l4 u5) 11) ∧ LstR w_ (Imm F w w_ [⟨bp, 0, [.int .i64 n1, .slice A6 s2.length c7, .bool b3, .slice A8 l4.length c9, .slice ab u5.length ac], true⟩, ⟨aS, 0, [.int .i16 (IntKind.i16.wrap v), .int .i32 (IntKind.i32.wrap aM), .int .i16 (IntKind.i16.wrap ae), .pointer af, .string (bs ag), .int .i32 (IntKind.i32.wrap ah), .int .i32 (IntKind.i32.wrap ai), .int .i32 (IntKind.i32.wrap aj), .int .i32 (IntKind.i32.wrap ak), .int .i64 al, .slice ar ((lst (Tree.at_ (Tree.mk n1 s2 b3 l4 u5) 9)).length) au, .slice aE ((lst (Tree.at_ (Tree.mk n1 s2 b3 l4 u5) 10)).length) aF, .slice A_ ((lst (Tree.at_ (Tree.mk n1 s2 b3 l4 u5) 11)).length) c_, .slice none 0 0, .bool false, .int .i32 0, .slice none 0 0, .map none], true⟩, ⟨bq, 0, [.int .i64 n1, .slice A6 s2.length c7, .bool b3, .slice A8 l4.length c9, .slice ab u5.length ac], true⟩] []) 3 clTaskIDs okTaskIDs relTaskIDs A_ c_ f_ (lst (Tree.at_ (Tree.mk n1 s2 b3 l4 u5) 11)) ∧ LInv bv 268 [⟨bp, 0, [.int .i64 n1, .slice A6 s2.length c7, .bool b3, .slice A8 l4.length c9, .slice ab u5.length ac], true⟩, ⟨aS, 0, [.int .i16 (IntKind.i16.wrap v), .int .i32 (IntKind.i32.wrap aM), .int .i16 (IntKind.i16.wrap ae), .pointer af, .string (bs ag), .int .i32 (IntKind.i32.wrap ah), .int .i32 (IntKind.i32.wrap ai), .int .i32 (IntKind.i32.wrap aj), .int .i32 (IntKind.i32.wrap ak), .int .i64 al, .slice ar ((lst (Tree.at_ (Tree.mk n1 s2 b3 l4 u5) 9)).length) au, .slice aE ((lst (Tree.at_ (Tree.mk n1 s2 b3 l4 u5) 10)).length) aF, .slice A_ ((lst (Tree.at_ (Tree.mk n1 s2 b3 l4 u5) 11)).length) c_, .slice none 0 0, .bool false, .int .i32 0, .slice none 0 0, .map none], true⟩, ⟨bq, 0, [.int .i64 n1, .slice A6 s2.length c7, .bool b3, .slice A8 l4.length c9, .slice ab u5.length ac], true⟩] [] [(0, .p 1 0), (3, .p 2 0)] a_ w_) ?_ ?_
 ·
  refine cond_of fL (b := !kH) kz (fun iz => ?_) (fun iz => ?_)
  ·
   have hnull_ : Tree.null (Tree.at_ (Tree.mk n1 s2 b3 l4 u5) 11) = false := by rw [nf]; show kH = false; simpa using iz
   refine go_seq_region [0, 1, 2, 3, 4, 5, 6, 7, 8] kz ?_
   refine go_rn [0, 1] [2, 3, 4, 5, 6, 7, 8] [(0, .p 1 0), (3, .p 2 0), (145, .p 1 0), (146, .v (.agg #[.int .i64 n1, .slice A6 s2.length c7, .bool b3, .slice A8 l4.length c9, .slice ab u5.length ac]))] bv fL fun FB nh => ?_
   clear fL
   refine of_op (wpOp_call nh (f := 73) (vs := [.agg #[.int .i64 n1, .slice A6 s2.length c7, .bool b3, .slice A8 l4.length c9, .slice ab u5.length ac], .int .i64 11]) (d := 147) kz Tryz.call73 (iAt _ _ 11 _ _ (ht.move bv.step nilM bv.imm)) ?_)
   rintro e_ FC ⟨vL, rfl, qr, ef⟩
   have ni := qr.move ef nilM (fun b o h_ hb_ => bv.laid (G := F) ef b o (.inl h_) (Nat.lt_of_lt_of_le hb_ ef.size))
   obtain ⟨FD, FE, FF, e5, FG, FH, FI, FJ, FK, FL, FM, vM, qs, iA, tl, tm, FN, FO⟩ := ni.open_
   rw [iA] at ni
   have tn := tl.small
   have tp := tm.small
   rw [iA]
   refine ⟨_, rfl, fun FP nj => ?_⟩
   have iB := bv.next_nil ef
   have qt := bv.frN ef
   clear nh
   have hl3_ : lst (Tree.at_ (Tree.mk n1 s2 b3 l4 u5) 11) = e5 := by rw [lst_of hnull_, qs]; rfl
   have vN : e5.length ≤ 1000000 := by have h_ := nw; rw [hl3_] at h_; exact h_
   refine go_rn [3, 4] [5, 6, 7, 8] [(0, .p 1 0), (3, .p 2 0), (145, .p 1 0), (149, .v (.int .i64 ((e5.length : Nat) : Int)))] iB nj fun FQ nk => ?_
   clear nj
   refine of_op (wpOp_make0 iB nk (d := 150) (j := e5.length) (t := 93) (e := 174) (size := 3) (bytes := 48) kz kz rfl (rfl) (by omega) fun nC FR FS vO vP qu iC nl => ?_)
   clear nk iB
   refine go_rn [6, 7] [8] [(0, .p 1 0), (3, .p 2 0), (150, .v (.slice (some ⟨nC, 0, none⟩) 0 e5.length)), (152, .p 1 12)] iC nl fun FT nm => ?_
   clear nl
   refine of_op (wpOp_store iC nm (oi := 1) (cs := [.int .i16 (IntKind.i16.wrap v), .int .i32 (IntKind.i32.wrap aM), .int .i16 (IntKind.i16.wrap ae), .pointer af, .string (bs ag), .int .i32 (IntKind.i32.wrap ah), .int .i32 (IntKind.i32.wrap ai), .int .i32 (IntKind.i32.wrap aj), .int .i32 (IntKind.i32.wrap ak), .int .i64 al, .slice ar ((lst (Tree.at_ (Tree.mk n1 s2 b3 l4 u5) 9)).length) au, .slice aE ((lst (Tree.at_ (Tree.mk n1 s2 b3 l4 u5) 10)).length) aF, .slice (some ⟨nC, 0, none⟩) 0 e5.length, .slice none 0 0, .bool false, .int .i32 0, .slice none 0 0, .map none]) kz fun FU qv dh np => ?_)
   clear nm iC
   refine wpOps_nil (then_normal ?_)
   refine go_seq_region [0, 1, 2, 3, 4] kz ?_
   refine go_rn [0] [1, 2, 3, 4] [(0, .p 1 0), (3, .p 2 0), (153, .v (.agg #[.int .i64 n1, .slice A6 s2.length c7, .bool b3, .slice A8 l4.length c9, .slice ab u5.length ac]))] dh np fun FV nr => ?_
   clear np
   refine of_op (wpOp_call nr (f := 73) (vs := [.agg #[.int .i64 n1, .slice A6 s2.length c7, .bool b3, .slice A8 l4.length c9, .slice ab u5.length ac], .int .i64 11]) (d := 154) kz Tryz.call73 (iAt _ _ 11 _ _ (ht.move dh.step nilM dh.imm)) ?_)
   rintro e_ FW ⟨vQ, rfl, qw, eg⟩
   have ns := qw.move eg nilM (fun b o h_ hb_ => dh.laid (G := F) eg b o (.inl h_) (Nat.lt_of_lt_of_le hb_ eg.size))
   obtain ⟨FX, FY, FZ, aR, F0, F1, F2, dv, eh, F3, F4, vR, nD, iD, tq, qx, tt, vS⟩ := ns.open_
   rw [iD] at ns
   have ra := tq.small
   have rb := qx.small
   rw [iD]
   refine ⟨_, rfl, fun vT iE => ?_⟩
   have e6 := dh.next_nil eg
   have nE := dh.frN eg
   clear nr
   have hl3_ : lst (Tree.at_ (Tree.mk n1 s2 b3 l4 u5) 11) = aR := by rw [lst_of hnull_, nD]; rfl
   have tu : aR.length ≤ 1000000 := by have h_ := nw; rw [hl3_] at h_; exact h_
   refine go_rn [2, 3, 4] [] [(0, .p 1 0), (3, .p 2 0), (155, .v (.slice dv aR.length eh)), (156, .v (.int .i64 ((aR.length : Nat) : Int))), (157, .v (.int .i64 0))] e6 iE fun vU iF => ?_
   clear iE
   refine wpOps_nil (then_normal ?_)
   refine wp_block ?_
   refine wp_loop_ghost (fun n_ a_ w_ => ∃ (k : Nat) (A_ : Option Addr) (c_ : Nat) (xs_ : List Value) (ds_ : List DV), n_ = aR.length - k ∧ k ≤ aR.length ∧ (A_.isNone = false) ∧ (RowL w_ (Imm F w w_ [⟨bp, 0, [.int .i64 n1, .slice A6 s2.length c7, .bool b3, .slice A8 l4.length c9, .slice ab u5.length ac], true⟩, ⟨aS, 0, [.int .i16 (IntKind.i16.wrap v), .int .i32 (IntKind.i32.wrap aM), .int .i16 (IntKind.i16.wrap ae), .pointer af, .string (bs ag), .int .i32 (IntKind.i32.wrap ah), .int .i32 (IntKind.i32.wrap ai), .int .i32 (IntKind.i32.wrap aj), .int .i32 (IntKind.i32.wrap ak), .int .i64 al, .slice ar ((lst (Tree.at_ (Tree.mk n1 s2 b3 l4 u5) 9)).length) au, .slice aE ((lst (Tree.at_ (Tree.mk n1 s2 b3 l4 u5) 10)).length) aF, .slice A_ k c_, .slice none 0 0, .bool false, .int .i32 0, .slice none 0 0, .map none], true⟩, ⟨bq, 0, [.int .i64 n1, .slice A6 s2.length c7, .bool b3, .slice A8 l4.length c9, .slice ab u5.length ac], true⟩] [⟨A_, c_, 174, 3, k, xs_⟩]) 3 clTaskIDs okTaskIDs relTaskIDs xs_ ds_ (aR.take k)) ∧ LInv e6 268 [⟨bp, 0, [.int .i64 n1, .slice A6 s2.length c7, .bool b3, .slice A8 l4.length c9, .slice ab u5.length ac], true⟩, ⟨aS, 0, [.int .i16 (IntKind.i16.wrap v), .int .i32 (IntKind.i32.wrap aM), .int .i16 (IntKind.i16.wrap ae), .pointer af, .string (bs ag), .int .i32 (IntKind.i32.wrap ah), .int .i32 (IntKind.i32.wrap ai), .int .i32 (IntKind.i32.wrap aj), .int .i32 (IntKind.i32.wrap ak), .int .i64 al, .slice ar ((lst (Tree.at_ (Tree.mk n1 s2 b3 l4 u5) 9)).length) au, .slice aE ((lst (Tree.at_ (Tree.mk n1 s2 b3 l4 u5) 10)).length) aF, .slice A_ k c_, .slice none 0 0, .bool false, .int .i32 0, .slice none 0 0, .map none], true⟩, ⟨bq, 0, [.int .i64 n1, .slice A6 s2.length c7, .bool b3, .slice A8 l4.length c9, .slice ab u5.length ac], true⟩] [⟨A_, c_, 174, 3, k, xs_⟩] [(0, .p 1 0), (3, .p 2 0), (155, .v (.slice dv aR.length eh)), (156, .v (.int .i64 ((aR.length : Nat) : Int))), (157, .v (.int .i64 ((k : Nat) : Int)))] a_ w_) (aR.length) ⟨0, (some ⟨nC, 0, none⟩), e5.length, [], [], by omega, by omega, rfl, RowL.nil mvTaskIDs, iF.pk, e6, Fr.refl _ _ _⟩ ?_
   clear iF
   rintro vV vW vX ⟨k, A_, c_, xs_, ds_, tv, tw, hA, hR, iG, bR, bA⟩
   refine go_sp [(0, .p 1 0), (3, .p 2 0), (155, .v (.slice dv aR.length eh)), (156, .v (.int .i64 ((aR.length : Nat) : Int))), (157, .v (.int .i64 ((k : Nat) : Int))), (158, .v (.bool (decide (((k : Nat) : Int) < ((aR.length : Nat) : Int)))))] bR iG fun vY dw => ?_
   clear iG
   refine wp_seq ?_
   refine cond_of dw (b := decide (((k : Nat) : Int) < ((aR.length : Nat) : Int))) kz (fun e7 => ?_) (fun e7 => ?_)
   ·
    have tx := of_decide_eq_true e7
    refine wp_skip ?_
    refine then_normal ?_
    refine wp_seq ?_
    refine wp_block ?_
    refine go_seq_region [0, 1, 2, 3] kz ?_
    obtain ⟨qy, qz, nF, tz, fM⟩ := Slots.get qx (i := k) (by omega)
    obtain ⟨qA, e9⟩ : ∃ x, aR[k]? = some x := ⟨_, List.getElem?_eq_getElem (by omega)⟩
    have fa := tt k qA e9
    obtain ⟨ei, ej, ek, em, eo, ep, eu, ev, ew, ey, ez, tA, rfl, fN, qB, qC, vZ, v2⟩ := fa.open_
    rw [fN] at fa
    have rc := qB.small
    have rd := qC.small
    rw [fN] at fM
    refine of_op (wpOp_index dw (t := 36) (A := dv) (m := aR.length) (q := ((k : Nat) : Int)) (d := 159) kz (e := 39) (size := 5) (bytes := 88) kz nF rfl (by omega) fun v6 iH => ?_)
    clear dw
    refine of_op (wpOp_load iH (t := 39) (b := qy) (o := qz + k * 5) (d := 160) kz (cs := [.int .i64 ei, .slice ep ej.length eu, .bool ek, .slice ev em.length ew, .slice ey eo.length ez]) (v := .agg #[.int .i64 ei, .slice ep ej.length eu, .bool ek, .slice ev em.length ew, .slice ey eo.length ez]) kz (AtF.move fM bA.step immM bA.to').at_ fun v7 iI => ?_)
    clear iH
    refine of_op (wpOp_alloc bR iI (d := 9) (cs := [.int .i64 0, .slice none 0 0, .bool false, .slice none 0 0, .slice none 0 0]) kz fun v8 wa wb tB tC bS iJ iK => ?_)
    clear iI bR
    refine of_op (wpOp_store iJ iK (oi := 3) (cs := [.int .i64 ei, .slice ep ej.length eu, .bool ek, .slice ev em.length ew, .slice ey eo.length ez]) kz fun wc bT iL iM => ?_)
    clear iK iJ
    refine wpOps_nil (then_normal ?_)
    refine go_drawK 11 kz iL fun wd bU fb nG => ?_
    clear iL
    refine go_rnD [0, 1, 2, 3, 4, 5] [(0, .p 1 0), (3, .p 2 0), (155, .v (.slice dv aR.length eh)), (156, .v (.int .i64 ((aR.length : Nat) : Int))), (157, .v (.int .i64 ((k : Nat) : Int))), (161, .p 1 0), (165, .v (.slice A_ k c_)), (166, .v (.agg #[.int .i64 ei, .slice ep ej.length eu, .bool ek, .slice ev em.length ew, .slice ey eo.length ez]))] 6 (panicFree_block (panicFree_then (panicFree_then (panicFree_block (panicFree_then panicFree_body))))) (fun _ h => h.cells) nG iM fun we iN => ?_
    clear iM
    refine anyC_op (i := 6) kz (wpOp_call iN (f := 117) (vs := [.agg #[.int .i64 ei, .slice ep ej.length eu, .bool ek, .slice ev em.length ew, .slice ey eo.length ez]]) (d := 167) kz Tryz.call117 (eTaskIDs _ _ _ _ (fa.move (((bA.trans bS).trans bT).trans bU).step immM (((bA.trans bS).trans bT).trans bU).to') (cj11e _ (by rw [hl3_]; exact List.mem_of_getElem? e9))) ?_)
    rintro e_ wg ⟨aG, rfl, nH, iO, fc⟩
    have nI := mvTaskIDs _ (Step.refl _ Nil) nilM (fb.laid (G := F) fc) nH
    refine ⟨_, rfl, fun wh iP => ?_⟩
    have fe := fb.next_nil fc
    have bg := fb.frN fc
    clear iN
    have nJ := TT.ofW bg fe
    refine ⟨fun _ => nJ, ?_⟩
    refine anyC_op (i := 7) kz (wpOp_lit fe iP (e := 174) (size := 3) (len := 1) (cs := [.string ((aG.f 0).s), .slice ((aG.f 1).A) ((aG.f 1).l) ((aG.f 1).c), .map aG.m]) (d := 168) kz kz fun qD wi wj tD tE aZ bV iQ => ?_)
    clear iP fe
    have nK := TT.ofW (bg.trans aZ) bV
    refine ⟨fun _ => nK, ?_⟩
    refine anyC_op (i := 8) kz (wpOp_append bV iQ (k := 0) (d := 169) (t := 93) (e := 174) (size := 3) (bytes := 48) (A := A_) (As := (some ⟨qD, 0, none⟩)) (m0 := k) (c := c_) (m := 1) (cs := 1) (xs := xs_) (news := [.string ((aG.f 0).s), .slice ((aG.f 1).A) ((aG.f 1).l) ((aG.f 1).c), .map aG.m]) kz kz rfl (own_src (bV.own 1 _ rfl) (allOne_ok kz)) (own_cap (bV.own 1 _ rfl)) (by omega) fun di dj wk wl bh bW iR => ?_)
    clear iQ bV
    have nL := TT.ofW ((bg.trans aZ).trans bh) bW
    refine ⟨fun _ => nL, ?_⟩
    refine anyC_op (i := 9) kz (wpOp_pure [0, 3, 155, 156, 157, 169, 170] bW.cells iR (env' := [(0, .p 1 0), (3, .p 2 0), (155, .v (.slice dv aR.length eh)), (156, .v (.int .i64 ((aR.length : Nat) : Int))), (157, .v (.int .i64 ((k : Nat) : Int))), (169, .v (.slice di (k + 1) dj)), (170, .p 1 0)]) kz fun wm iS => ?_)
    clear iR
    have iT := TT.ofW ((bg.trans aZ).trans bh) bW
    refine ⟨fun _ => iT, ?_⟩
    refine go_rnD [10] [(0, .p 1 0), (3, .p 2 0), (155, .v (.slice dv aR.length eh)), (156, .v (.int .i64 ((aR.length : Nat) : Int))), (157, .v (.int .i64 ((k : Nat) : Int))), (169, .v (.slice di (k + 1) dj)), (171, .p 1 12)] 1 (panicFree_block (panicFree_then (panicFree_then (panicFree_block (panicFree_then panicFree_body))))) (fun _ h => h.cells) iT iS fun wn iU => ?_
    clear iS
    refine anyC_op (i := 11) kz (wpOp_store bW iU (oi := 1) (cs := [.int .i16 (IntKind.i16.wrap v), .int .i32 (IntKind.i32.wrap aM), .int .i16 (IntKind.i16.wrap ae), .pointer af, .string (bs ag), .int .i32 (IntKind.i32.wrap ah), .int .i32 (IntKind.i32.wrap ai), .int .i32 (IntKind.i32.wrap aj), .int .i32 (IntKind.i32.wrap ak), .int .i64 al, .slice ar ((lst (Tree.at_ (Tree.mk n1 s2 b3 l4 u5) 9)).length) au, .slice aE ((lst (Tree.at_ (Tree.mk n1 s2 b3 l4 u5) 10)).length) aF, .slice di (k + 1) dj, .slice none 0 0, .bool false, .int .i32 0, .slice none 0 0, .map none]) kz fun wo bX iV iW => ?_)
    clear iU bW
    refine ⟨fun h => absurd rfl h, ?_⟩
    refine anyC_done kz ?_ _
    refine block_normal ?_
    refine then_normal ?_
    refine go_region [0, 1] kz ?_
    refine go_rn [0, 1] [] [(0, .p 1 0), (3, .p 2 0), (155, .v (.slice dv aR.length eh)), (156, .v (.int .i64 ((aR.length : Nat) : Int))), (157, .v (.int .i64 (IntKind.i64.wrap (((k : Nat) : Int) + 1))))] iV iW fun wr nM => ?_
    clear iW
    refine wpOps_nil (then_normal ?_)
    obtain ⟨iX, nN, bY⟩ := iV.cutB nM 3 [⟨bp, 0, [.int .i64 n1, .slice A6 s2.length c7, .bool b3, .slice A8 l4.length c9, .slice ab u5.length ac], true⟩, ⟨aS, 0, [.int .i16 (IntKind.i16.wrap v), .int .i32 (IntKind.i32.wrap aM), .int .i16 (IntKind.i16.wrap ae), .pointer af, .string (bs ag), .int .i32 (IntKind.i32.wrap ah), .int .i32 (IntKind.i32.wrap ai), .int .i32 (IntKind.i32.wrap aj), .int .i32 (IntKind.i32.wrap ak), .int .i64 al, .slice ar ((lst (Tree.at_ (Tree.mk n1 s2 b3 l4 u5) 9)).length) au, .slice aE ((lst (Tree.at_ (Tree.mk n1 s2 b3 l4 u5) 10)).length) aF, .slice di (k + 1) dj, .slice none 0 0, .bool false, .int .i32 0, .slice none 0 0, .map none], true⟩, ⟨bq, 0, [.int .i64 n1, .slice A6 s2.length c7, .bool b3, .slice A8 l4.length c9, .slice ab u5.length ac], true⟩] [(0, .p 1 0), (3, .p 2 0), (155, .v (.slice dv aR.length eh)), (156, .v (.int .i64 ((aR.length : Nat) : Int))), (157, .v (.int .i64 (IntKind.i64.wrap (((k : Nat) : Int) + 1))))]
    obtain ⟨iY, bZ⟩ := nN.cutR 1 [⟨di, dj, 174, 3, k + 1, xs_ ++ [.string ((aG.f 0).s), .slice ((aG.f 1).A) ((aG.f 1).l) ((aG.f 1).c), .map aG.m]⟩]
    have nO : IntKind.i64.wrap (((k : Nat) : Int) + 1) = ((k + 1 : Nat) : Int) := wrap_succ (by omega)
    rw [nO] at iX
    exact ⟨aR.length - (k + 1), by omega, k + 1, di, dj, xs_ ++ [Value.string ((aG.f 0).s), .slice ((aG.f 1).A) ((aG.f 1).l) ((aG.f 1).c), .map aG.m], (ds_ ++ [aG]), rfl, by omega, own_some iY (k := 0) rfl (by omega), RowL.snoc (d := aG) (hR.move ((((((((bS.trans bT).trans bU).trans bg).trans aZ).trans bh).trans bX).trans bY).trans bZ).step immM ((((((((bS.trans bT).trans bU).trans bg).trans aZ).trans bh).trans bX).trans bY).trans bZ).to') e9 rfl (mvTaskIDs _ ((((aZ.trans bh).trans bX).trans bY).trans bZ).step immM ((((aZ.trans bh).trans bX).trans bY).trans bZ).to' nI) iO, iX.pk, iY, (((((((((bA.trans bS).trans bT).trans bU).trans bg).trans aZ).trans bh).trans bX).trans bY).trans bZ)⟩
   ·
    have tF := of_decide_eq_false e7
    refine wp_exit ?_
    refine then_exit ?_
    refine then_exit ?_
    refine block_exit ?_
    refine then_normal ?_
    have hk_ : k = (lst (Tree.at_ (Tree.mk n1 s2 b3 l4 u5) 11)).length := by rw [hl3_]; omega
    subst k
    have hL_ := LstR.of bR (k := 0) (rs' := []) rfl hR (by rw [hl3_]) oneTaskIDs (by omega)
    rw [← hl3_] at hL_
    obtain ⟨nP, nQ⟩ := bR.cutR 0 []
    exact ⟨_, _, _, by rw [hnull_]; exact hA, hL_, dw.pk, nP, (((((qt.trans qu).trans qv).trans nE).trans bA).trans nQ)⟩
  ·
   refine wp_skip ?_
   refine then_normal ?_
   have hn_ : Tree.null (Tree.at_ (Tree.mk n1 s2 b3 l4 u5) 11) = true := by rw [nf]; show kH = true; simpa using iz
   have hl_ := lst_no hn_
   exact ⟨none, 0, fun _ => dv0, by rw [hn_]; rfl, by rw [hl_]; exact LstR.nil mvTaskIDs, by rw [hl_]; exact ⟨fL.pk, bv, Fr.refl _ _ _⟩⟩
 rintro ws wt ⟨ao, ap, b0, nR, ff, iZ, bB, aU⟩
 refine wp_seq ?_
 refine go_seq_region [0, 1, 2, 3] kz ?_
 refine go_rn [0] [1, 2, 3] [(0, .p 1 0), (3, .p 2 0), (173, .v (.agg #[.int .i64 n1, .slice A6 s2.length c7, .bool b3, .slice A8 l4.length c9, .slice ab u5.length ac]))] bB iZ fun wv i6 => ?_
 clear iZ
 refine of_op (wpOp_call i6 (f := 73) (vs := [.agg #[.int .i64 n1, .slice A6 s2.length c7, .bool b3, .slice A8 l4.length c9, .slice ab u5.length ac], .int .i64 12]) (d := 174) kz Tryz.call73 (iAt _ _ 12 _ _ (ht.move bB.step nilM bB.imm)) ?_)
 rintro e_ ww ⟨tG, rfl, nS, b5⟩
 have i7 := nS.move b5 nilM (fun b o h_ hb_ => bB.laid (G := F) b5 b o (.inl h_) (Nat.lt_of_lt_of_le hb_ b5.size))
 obtain ⟨wx, wy, fO, wA, wB, wC, wD, wE, wF, wG, wH, tH, ja, fP, qE, qF, wI, wJ⟩ := i7.open_
 rw [fP] at i7
 have re := qE.small
 have rf := qF.small
 rw [fP]
 refine ⟨_, rfl, fun wK jb => ?_⟩
 have aV := bB.next_nil b5
 have aN := bB.frN b5
 clear i6
 refine go_rn [2, 3] [] [(0, .p 1 0), (3, .p 2 0), (176, .v (.bool (!fO)))] aV jb fun wM dx => ?_
 clear jb
 refine wpOps_nil (then_normal ?_)
 refine wp_join (Mid := fun a_ w_ => ∃ (A_ : Option Addr) (c_ : Nat) (f_ : Nat → DV), A_.isNone = Tree.null (Tree.at_ (Tree.mk n1 s2 b3 l4 u5) 12) ∧ LstR w_ (Imm F w w_ [⟨bp, 0, [.int .i64 n1, .slice A6 s2.length c7, .bool b3, .slice A8 l4.length c9, .slice ab u5.length ac], true⟩, ⟨aS, 0, [.int .i16 (IntKind.i16.wrap v), .int .i32 (IntKind.i32.wrap aM), .int .i16 (IntKind.i16.wrap ae), .pointer af, .string (bs ag), .int .i32 (IntKind.i32.wrap ah), .int .i32 (IntKind.i32.wrap ai), .int .i32 (IntKind.i32.wrap aj), .int .i32 (IntKind.i32.wrap ak), .int .i64 al, .slice ar ((lst (Tree.at_ (Tree.mk n1 s2 b3 l4 u5) 9)).length) au, .slice aE ((lst (Tree.at_ (Tree.mk n1 s2 b3 l4 u5) 10)).length) aF, .slice ao ((lst (Tree.at_ (Tree.mk n1 s2 b3 l4 u5) 11)).length) ap, .slice A_ ((lst (Tree.at_ (Tree.mk n1 s2 b3 l4 u5) 12)).length) c_, .bool false, .int .i32 0, .slice none 0 0, .map none], true⟩, ⟨bq, 0, [.int .i64 n1, .slice A6 s2.length c7, .bool b3, .slice A8 l4.length c9, .slice ab u5.length ac], true⟩] []) 3 clTaskIDs okTaskIDs relTaskIDs A_ c_ f_ (lst (Tree.at_ (Tree.mk n1 s2 b3 l4 u5) 12)) ∧ LInv aV 268 [⟨bp, 0, [.int .i64 n1, .slice A6 s2.length c7, .bool b3, .slice A8 l4.length c9, .slice ab u5.length ac], true⟩, ⟨aS, 0, [.int .i16 (IntKind.i16.wrap v), .int .i32 (IntKind.i32.wrap aM), .int .i16 (IntKind.i16.wrap ae), .pointer af, .string (bs ag), .int .i32 (IntKind.i32.wrap ah), .int .i32 (IntKind.i32.wrap ai), .int .i32 (IntKind.i32.wrap aj), .int .i32 (IntKind.i32.wrap ak), .int .i64 al, .slice ar ((lst (Tree.at_ (Tree.mk n1 s2 b3 l4 u5) 9)).length) au, .slice aE ((lst (Tree.at_ (Tree.mk n1 s2 b3 l4 u5) 10)).length) aF, .slice ao ((lst (Tree.at_ (Tree.mk n1 s2 b3 l4 u5) 11)).length) ap, .slice A_ ((lst (Tree.at_ (Tree.mk n1 s2 b3 l4 u5) 12)).length) c_, .bool false, .int .i32 0, .slice none 0 0, .map none], true⟩, ⟨bq, 0, [.int .i64 n1, .slice A6 s2.length c7, .bool b3, .slice A8 l4.length c9, .slice ab u5.length ac], true⟩] [] [(0, .p 1 0), (3, .p 2 0)] a_ w_) ?_ ?_
 ·
  refine cond_of dx (b := !fO) kz (fun fg => ?_) (fun fg => ?_)
  ·
   have hnull_ : Tree.null (Tree.at_ (Tree.mk n1 s2 b3 l4 u5) 12) = false := by rw [ja]; show fO = false; simpa using fg
   refine go_seq_region [0, 1, 2, 3, 4, 5, 6, 7, 8] kz ?_
   refine go_rn [0, 1] [2, 3, 4, 5, 6, 7, 8] [(0, .p 1 0), (3, .p 2 0), (177, .p 1 0), (178, .v (.agg #[.int .i64 n1, .slice A6 s2.length c7, .bool b3, .slice A8 l4.length c9, .slice ab u5.length ac]))] aV dx fun wN jc => ?_
   clear dx
   refine of_op (wpOp_call jc (f := 73) (vs := [.agg #[.int .i64 n1, .slice A6 s2.length c7, .bool b3, .slice A8 l4.length c9, .slice ab u5.length ac], .int .i64 12]) (d := 179) kz Tryz.call73 (iAt _ _ 12 _ _ (ht.move aV.step nilM aV.imm)) ?_)
   rintro e_ wO ⟨tI, rfl, nT, b6⟩
   have jd := nT.move b6 nilM (fun b o h_ hb_ => aV.laid (G := F) b6 b o (.inl h_) (Nat.lt_of_lt_of_le hb_ b6.size))
   obtain ⟨wP, wQ, wR, b8, wS, wT, wU, wV, wW, wX, wY, tJ, nU, fQ, qG, qH, wZ, xa⟩ := jd.open_
   rw [fQ] at jd
   have rg := qG.small
   have rh := qH.small
   rw [fQ]
   refine ⟨_, rfl, fun xb je => ?_⟩
   have fh := aV.next_nil b6
   have nV := aV.frN b6
   clear jc
   have hl3_ : lst (Tree.at_ (Tree.mk n1 s2 b3 l4 u5) 12) = b8 := by rw [lst_of hnull_, nU]; rfl
   have tK : b8.length ≤ 1000000 := by have h_ := nx; rw [hl3_] at h_; exact h_
   refine go_rn [3, 4] [5, 6, 7, 8] [(0, .p 1 0), (3, .p 2 0), (177, .p 1 0), (181, .v (.int .i64 ((b8.length : Nat) : Int)))] fh je fun xd jf => ?_
   clear je
   refine of_op (wpOp_make0 fh jf (d := 182) (j := b8.length) (t := 93) (e := 174) (size := 3) (bytes := 48) kz kz rfl (rfl) (by omega) fun jg xe xg tL tM nW fi jh => ?_)
   clear jf fh
   refine go_rn [6, 7] [8] [(0, .p 1 0), (3, .p 2 0), (182, .v (.slice (some ⟨jg, 0, none⟩) 0 b8.length)), (184, .p 1 13)] fi jh fun xh ji => ?_
   clear jh
   refine of_op (wpOp_store fi ji (oi := 1) (cs := [.int .i16 (IntKind.i16.wrap v), .int .i32 (IntKind.i32.wrap aM), .int .i16 (IntKind.i16.wrap ae), .pointer af, .string (bs ag), .int .i32 (IntKind.i32.wrap ah), .int .i32 (IntKind.i32.wrap ai), .int .i32 (IntKind.i32.wrap aj), .int .i32 (IntKind.i32.wrap ak), .int .i64 al, .slice ar ((lst (Tree.at_ (Tree.mk n1 s2 b3 l4 u5) 9)).length) au, .slice aE ((lst (Tree.at_ (Tree.mk n1 s2 b3 l4 u5) 10)).length) aF, .slice ao ((lst (Tree.at_ (Tree.mk n1 s2 b3 l4 u5) 11)).length) ap, .slice (some ⟨jg, 0, none⟩) 0 b8.length, .bool false, .int .i32 0, .slice none 0 0, .map none]) kz fun xi nX bC jj => ?_)
   clear ji fi
   refine wpOps_nil (then_normal ?_)
   refine go_seq_region [0, 1, 2, 3, 4] kz ?_
   refine go_rn [0] [1, 2, 3, 4] [(0, .p 1 0), (3, .p 2 0), (185, .v (.agg #[.int .i64 n1, .slice A6 s2.length c7, .bool b3, .slice A8 l4.length c9, .slice ab u5.length ac]))] bC jj fun xj jk => ?_
   clear jj
   refine of_op (wpOp_call jk (f := 73) (vs := [.agg #[.int .i64 n1, .slice A6 s2.length c7, .bool b3, .slice A8 l4.length c9, .slice ab u5.length ac], .int .i64 12]) (d := 186) kz Tryz.call73 (iAt _ _ 12 _ _ (ht.move bC.step nilM bC.imm)) ?_)
   rintro e_ xk ⟨tN, rfl, nY, ca⟩
   have jl := nY.move ca nilM (fun b o h_ hb_ => bC.laid (G := F) ca b o (.inl h_) (Nat.lt_of_lt_of_le hb_ ca.size))
   obtain ⟨xl, xm, xn, av, xo, xp, xq, bw, bL, xr, xt, tO, nZ, fR, qI, nt, qJ, xv⟩ := jl.open_
   rw [fR] at jl
   have ri := qI.small
   have rj := nt.small
   rw [fR]
   refine ⟨_, rfl, fun xw jm => ?_⟩
   have fj := bC.next_nil ca
   have n8 := bC.frN ca
   clear jk
   have hl3_ : lst (Tree.at_ (Tree.mk n1 s2 b3 l4 u5) 12) = av := by rw [lst_of hnull_, nZ]; rfl
   have tP : av.length ≤ 1000000 := by have h_ := nx; rw [hl3_] at h_; exact h_
   refine go_rn [2, 3, 4] [] [(0, .p 1 0), (3, .p 2 0), (187, .v (.slice bw av.length bL)), (188, .v (.int .i64 ((av.length : Nat) : Int))), (189, .v (.int .i64 0))] fj jm fun xx jn => ?_
   clear jm
   refine wpOps_nil (then_normal ?_)
   refine wp_block ?_
   refine wp_loop_ghost (fun n_ a_ w_ => ∃ (k : Nat) (A_ : Option Addr) (c_ : Nat) (xs_ : List Value) (ds_ : List DV), n_ = av.length - k ∧ k ≤ av.length ∧ (A_.isNone = false) ∧ (RowL w_ (Imm F w w_ [⟨bp, 0, [.int .i64 n1, .slice A6 s2.length c7, .bool b3, .slice A8 l4.length c9, .slice ab u5.length ac], true⟩, ⟨aS, 0, [.int .i16 (IntKind.i16.wrap v), .int .i32 (IntKind.i32.wrap aM), .int .i16 (IntKind.i16.wrap ae), .pointer af, .string (bs ag), .int .i32 (IntKind.i32.wrap ah), .int .i32 (IntKind.i32.wrap ai), .int .i32 (IntKind.i32.wrap aj), .int .i32 (IntKind.i32.wrap ak), .int .i64 al, .slice ar ((lst (Tree.at_ (Tree.mk n1 s2 b3 l4 u5) 9)).length) au, .slice aE ((lst (Tree.at_ (Tree.mk n1 s2 b3 l4 u5) 10)).length) aF, .slice ao ((lst (Tree.at_ (Tree.mk n1 s2 b3 l4 u5) 11)).length) ap, .slice A_ k c_, .bool false, .int .i32 0, .slice none 0 0, .map none], true⟩, ⟨bq, 0, [.int .i64 n1, .slice A6 s2.length c7, .bool b3, .slice A8 l4.length c9, .slice ab u5.length ac], true⟩] [⟨A_, c_, 174, 3, k, xs_⟩]) 3 clTaskIDs okTaskIDs relTaskIDs xs_ ds_ (av.take k)) ∧ LInv fj 268 [⟨bp, 0, [.int .i64 n1, .slice A6 s2.length c7, .bool b3, .slice A8 l4.length c9, .slice ab u5.length ac], true⟩, ⟨aS, 0, [.int .i16 (IntKind.i16.wrap v), .int .i32 (IntKind.i32.wrap aM), .int .i16 (IntKind.i16.wrap ae), .pointer af, .string (bs ag), .int .i32 (IntKind.i32.wrap ah), .int .i32 (IntKind.i32.wrap ai), .int .i32 (IntKind.i32.wrap aj), .int .i32 (IntKind.i32.wrap ak), .int .i64 al, .slice ar ((lst (Tree.at_ (Tree.mk n1 s2 b3 l4 u5) 9)).length) au, .slice aE ((lst (Tree.at_ (Tree.mk n1 s2 b3 l4 u5) 10)).length) aF, .slice ao ((lst (Tree.at_ (Tree.mk n1 s2 b3 l4 u5) 11)).length) ap, .slice A_ k c_, .bool false, .int .i32 0, .slice none 0 0, .map none], true⟩, ⟨bq, 0, [.int .i64 n1, .slice A6 s2.length c7, .bool b3, .slice A8 l4.length c9, .slice ab u5.length ac], true⟩] [⟨A_, c_, 174, 3, k, xs_⟩] [(0, .p 1 0), (3, .p 2 0), (187, .v (.slice bw av.length bL)), (188, .v (.int .i64 ((av.length : Nat) : Int))), (189, .v (.int .i64 ((k : Nat) : Int)))] a_ w_) (av.length) ⟨0, (some ⟨jg, 0, none⟩), b8.length, [], [], by omega, by omega, rfl, RowL.nil mvTaskIDs, jn.pk, fj, Fr.refl _ _ _⟩ ?_
   clear jn
   rintro xy xz xB ⟨k, A_, c_, xs_, ds_, tQ, tR, hA, hR, jo, cb, bD⟩
   refine go_sp [(0, .p 1 0), (3, .p 2 0), (187, .v (.slice bw av.length bL)), (188, .v (.int .i64 ((av.length : Nat) : Int))), (189, .v (.int .i64 ((k : Nat) : Int))), (190, .v (.bool (decide (((k : Nat) : Int) < ((av.length : Nat) : Int)))))] cb jo fun xC dy => ?_
   clear jo
   refine wp_seq ?_
   refine cond_of dy (b := decide (((k : Nat) : Int) < ((av.length : Nat) : Int))) kz (fun fk => ?_) (fun fk => ?_)
   ·
    have tS := of_decide_eq_true fk
    refine wp_skip ?_
    refine then_normal ?_
    refine wp_seq ?_
    refine wp_block ?_
    refine go_seq_region [0, 1, 2, 3] kz ?_
    obtain ⟨qK, qL, oa, tT, fS⟩ := Slots.get nt (i := k) (by omega)
    obtain ⟨qM, fl⟩ : ∃ x, av[k]? = some x := ⟨_, List.getElem?_eq_getElem (by omega)⟩
    have fm := qJ k qM fl
    obtain ⟨eA, eB, eC, eD, eE, eF, eG, eH, eI, eJ, eK, tU, rfl, fT, qN, qO, xD, xE⟩ := fm.open_
    rw [fT] at fm
    have rk := qN.small
    have rl := qO.small
    rw [fT] at fS
    refine of_op (wpOp_index dy (t := 36) (A := bw) (m := av.length) (q := ((k : Nat) : Int)) (d := 191) kz (e := 39) (size := 5) (bytes := 88) kz oa rfl (by omega) fun xF jp => ?_)
    clear dy
    refine of_op (wpOp_load jp (t := 39) (b := qK) (o := qL + k * 5) (d := 192) kz (cs := [.int .i64 eA, .slice eF eB.length eG, .bool eC, .slice eH eD.length eI, .slice eJ eE.length eK]) (v := .agg #[.int .i64 eA, .slice eF eB.length eG, .bool eC, .slice eH eD.length eI, .slice eJ eE.length eK]) kz (AtF.move fS bD.step immM bD.to').at_ fun xG jq => ?_)
    clear jp
    refine of_op (wpOp_alloc cb jq (d := 11) (cs := [.int .i64 0, .slice none 0 0, .bool false, .slice none 0 0, .slice none 0 0]) kz fun xH xI xJ tV tW cc jr js => ?_)
    clear jq cb
    refine of_op (wpOp_store jr js (oi := 3) (cs := [.int .i64 eA, .slice eF eB.length eG, .bool eC, .slice eH eD.length eI, .slice eJ eE.length eK]) kz fun xK cd jt ju => ?_)
    clear js jr
    refine wpOps_nil (then_normal ?_)
    refine go_drawK 11 kz jt fun xL ce fo oc => ?_
    clear jt
    refine go_rnD [0, 1, 2, 3, 4, 5] [(0, .p 1 0), (3, .p 2 0), (187, .v (.slice bw av.length bL)), (188, .v (.int .i64 ((av.length : Nat) : Int))), (189, .v (.int .i64 ((k : Nat) : Int))), (193, .p 1 0), (197, .v (.slice A_ k c_)), (198, .v (.agg #[.int .i64 eA, .slice eF eB.length eG, .bool eC, .slice eH eD.length eI, .slice eJ eE.length eK]))] 6 (panicFree_block (panicFree_then (panicFree_then (panicFree_block (panicFree_then panicFree_body))))) (fun _ h => h.cells) oc ju fun xM jv => ?_
    clear ju
    refine anyC_op (i := 6) kz (wpOp_call jv (f := 117) (vs := [.agg #[.int .i64 eA, .slice eF eB.length eG, .bool eC, .slice eH eD.length eI, .slice eJ eE.length eK]]) (d := 199) kz Tryz.call117 (eTaskIDs _ _ _ _ (fm.move (((bD.trans cc).trans cd).trans ce).step immM (((bD.trans cc).trans cd).trans ce).to') (cj12e _ (by rw [hl3_]; exact List.mem_of_getElem? fl))) ?_)
    rintro e_ xN ⟨aH, rfl, od, jw, fp⟩
    have oe := mvTaskIDs _ (Step.refl _ Nil) nilM (fo.laid (G := F) fp) od
    refine ⟨_, rfl, fun xO jx => ?_⟩
    have fq := fo.next_nil fp
    have bi := fo.frN fp
    clear jv
    have og := TT.ofW bi fq
    refine ⟨fun _ => og, ?_⟩
    refine anyC_op (i := 7) kz (wpOp_lit fq jx (e := 174) (size := 3) (len := 1) (cs := [.string ((aH.f 0).s), .slice ((aH.f 1).A) ((aH.f 1).l) ((aH.f 1).c), .map aH.m]) (d := 200) kz kz fun qP xP xQ tX tY ba cg jy => ?_)
    clear jx fq
    have oh := TT.ofW (bi.trans ba) cg
    refine ⟨fun _ => oh, ?_⟩
    refine anyC_op (i := 8) kz (wpOp_append cg jy (k := 0) (d := 201) (t := 93) (e := 174) (size := 3) (bytes := 48) (A := A_) (As := (some ⟨qP, 0, none⟩)) (m0 := k) (c := c_) (m := 1) (cs := 1) (xs := xs_) (news := [.string ((aH.f 0).s), .slice ((aH.f 1).A) ((aH.f 1).l) ((aH.f 1).c), .map aH.m]) kz kz rfl (own_src (cg.own 1 _ rfl) (allOne_ok kz)) (own_cap (cg.own 1 _ rfl)) (by omega) fun dl dp xR xS bj cl jz => ?_)
    clear jy cg
    have ol := TT.ofW ((bi.trans ba).trans bj) cl
    refine ⟨fun _ => ol, ?_⟩
    refine anyC_op (i := 9) kz (wpOp_pure [0, 3, 187, 188, 189, 201, 202] cl.cells jz (env' := [(0, .p 1 0), (3, .p 2 0), (187, .v (.slice bw av.length bL)), (188, .v (.int .i64 ((av.length : Nat) : Int))), (189, .v (.int .i64 ((k : Nat) : Int))), (201, .v (.slice dl (k + 1) dp)), (202, .p 1 0)]) kz fun xT jA => ?_)
    clear jz
    have jB := TT.ofW ((bi.trans ba).trans bj) cl
    refine ⟨fun _ => jB, ?_⟩
    refine go_rnD [10] [(0, .p 1 0), (3, .p 2 0), (187, .v (.slice bw av.length bL)), (188, .v (.int .i64 ((av.length : Nat) : Int))), (189, .v (.int .i64 ((k : Nat) : Int))), (201, .v (.slice dl (k + 1) dp)), (203, .p 1 13)] 1 (panicFree_block (panicFree_then (panicFree_then (panicFree_block (panicFree_then panicFree_body))))) (fun _ h => h.cells) jB jA fun xU jC => ?_
    clear jA
    refine anyC_op (i := 11) kz (wpOp_store cl jC (oi := 1) (cs := [.int .i16 (IntKind.i16.wrap v), .int .i32 (IntKind.i32.wrap aM), .int .i16 (IntKind.i16.wrap ae), .pointer af, .string (bs ag), .int .i32 (IntKind.i32.wrap ah), .int .i32 (IntKind.i32.wrap ai), .int .i32 (IntKind.i32.wrap aj), .int .i32 (IntKind.i32.wrap ak), .int .i64 al, .slice ar ((lst (Tree.at_ (Tree.mk n1 s2 b3 l4 u5) 9)).length) au, .slice aE ((lst (Tree.at_ (Tree.mk n1 s2 b3 l4 u5) 10)).length) aF, .slice ao ((lst (Tree.at_ (Tree.mk n1 s2 b3 l4 u5) 11)).length) ap, .slice dl (k + 1) dp, .bool false, .int .i32 0, .slice none 0 0, .map none]) kz fun xV cm jD jE => ?_)
    clear jC cl
    refine ⟨fun h => absurd rfl h, ?_⟩
    refine anyC_done kz ?_ _
    refine block_normal ?_
    refine then_normal ?_
    refine go_region [0, 1] kz ?_
    refine go_rn [0, 1] [] [(0, .p 1 0), (3, .p 2 0), (187, .v (.slice bw av.length bL)), (188, .v (.int .i64 ((av.length : Nat) : Int))), (189, .v (.int .i64 (IntKind.i64.wrap (((k : Nat) : Int) + 1))))] jD jE fun xW om => ?_
    clear jE
    refine wpOps_nil (then_normal ?_)
    obtain ⟨jF, oq, cq⟩ := jD.cutB om 3 [⟨bp, 0, [.int .i64 n1, .slice A6 s2.length c7, .bool b3, .slice A8 l4.length c9, .slice ab u5.length ac], true⟩, ⟨aS, 0, [.int .i16 (IntKind.i16.wrap v), .int .i32 (IntKind.i32.wrap aM), .int .i16 (IntKind.i16.wrap ae), .pointer af, .string (bs ag), .int .i32 (IntKind.i32.wrap ah), .int .i32 (IntKind.i32.wrap ai), .int .i32 (IntKind.i32.wrap aj), .int .i32 (IntKind.i32.wrap ak), .int .i64 al, .slice ar ((lst (Tree.at_ (Tree.mk n1 s2 b3 l4 u5) 9)).length) au, .slice aE ((lst (Tree.at_ (Tree.mk n1 s2 b3 l4 u5) 10)).length) aF, .slice ao ((lst (Tree.at_ (Tree.mk n1 s2 b3 l4 u5) 11)).length) ap, .slice dl (k + 1) dp, .bool false, .int .i32 0, .slice none 0 0, .map none], true⟩, ⟨bq, 0, [.int .i64 n1, .slice A6 s2.length c7, .bool b3, .slice A8 l4.length c9, .slice ab u5.length ac], true⟩] [(0, .p 1 0), (3, .p 2 0), (187, .v (.slice bw av.length bL)), (188, .v (.int .i64 ((av.length : Nat) : Int))), (189, .v (.int .i64 (IntKind.i64.wrap (((k : Nat) : Int) + 1))))]
    obtain ⟨jG, cr⟩ := oq.cutR 1 [⟨dl, dp, 174, 3, k + 1, xs_ ++ [.string ((aH.f 0).s), .slice ((aH.f 1).A) ((aH.f 1).l) ((aH.f 1).c), .map aH.m]⟩]
    have ot : IntKind.i64.wrap (((k : Nat) : Int) + 1) = ((k + 1 : Nat) : Int) := wrap_succ (by omega)
    rw [ot] at jF
    exact ⟨av.length - (k + 1), by omega, k + 1, dl, dp, xs_ ++ [Value.string ((aH.f 0).s), .slice ((aH.f 1).A) ((aH.f 1).l) ((aH.f 1).c), .map aH.m], (ds_ ++ [aH]), rfl, by omega, own_some jG (k := 0) rfl (by omega), RowL.snoc (d := aH) (hR.move ((((((((cc.trans cd).trans ce).trans bi).trans ba).trans bj).trans cm).trans cq).trans cr).step immM ((((((((cc.trans cd).trans ce).trans bi).trans ba).trans bj).trans cm).trans cq).trans cr).to') fl rfl (mvTaskIDs _ ((((ba.trans bj).trans cm).trans cq).trans cr).step immM ((((ba.trans bj).trans cm).trans cq).trans cr).to' oe) jw, jF.pk, jG, (((((((((bD.trans cc).trans cd).trans ce).trans bi).trans ba).trans bj).trans cm).trans cq).trans cr)⟩
   ·
    have tZ := of_decide_eq_false fk
    refine wp_exit ?_
    refine then_exit ?_
    refine then_exit ?_
    refine block_exit ?_
    refine then_normal ?_
    have hk_ : k = (lst (Tree.at_ (Tree.mk n1 s2 b3 l4 u5) 12)).length := by rw [hl3_]; omega
    subst k
    have hL_ := LstR.of cb (k := 0) (rs' := []) rfl hR (by rw [hl3_]) oneTaskIDs (by omega)
    rw [← hl3_] at hL_
    obtain ⟨ou, ov⟩ := cb.cutR 0 []
    exact ⟨_, _, _, by rw [hnull_]; exact hA, hL_, dy.pk, ou, (((((nV.trans nW).trans nX).trans n8).trans bD).trans ov)⟩
  ·
   refine wp_skip ?_
   refine then_normal ?_
   have hn_ : Tree.null (Tree.at_ (Tree.mk n1 s2 b3 l4 u5) 12) = true := by rw [ja]; show fO = true; simpa using fg
   have hl_ := lst_no hn_
   exact ⟨none, 0, fun _ => dv0, by rw [hn_]; rfl, by rw [hl_]; exact LstR.nil mvTaskIDs, by rw [hl_]; exact ⟨dx.pk, aV, Fr.refl _ _ _⟩⟩
 rintro xX xY ⟨aJ, aK, cu, ow, fr, jH, bE, aO⟩
 refine go_seq_region [0, 1, 2, 3, 4, 5, 6, 7, 8] kz ?_
 refine go_rn [0, 1] [2, 3, 4, 5, 6, 7, 8] [(0, .p 1 0), (3, .p 2 0), (205, .p 1 0), (206, .v (.agg #[.int .i64 n1, .slice A6 s2.length c7, .bool b3, .slice A8 l4.length c9, .slice ab u5.length ac]))] bE jH fun xZ jI => ?_
 clear jH
 refine of_op (wpOp_call jI (f := 73) (vs := [.agg #[.int .i64 n1, .slice A6 s2.length c7, .bool b3, .slice A8 l4.length c9, .slice ab u5.length ac], .int .i64 13]) (d := 207) kz Tryz.call73 (iAt _ _ 13 _ _ (ht.move bE.step nilM bE.imm)) ?_)
 rintro e_ x0 ⟨t6, rfl, ox, cv⟩
 have jJ := ox.move cv nilM (fun b o h_ hb_ => bE.laid (G := F) cv b o (.inl h_) (Nat.lt_of_lt_of_le hb_ cv.size))
 obtain ⟨aI, x7, x8, x9, ya, yb, yc, yd, ye, yf, yg, t7, oy, fU, qQ, qR, yh, yi⟩ := jJ.open_
 rw [fU] at jJ
 have rm := qQ.small
 have rn := qR.small
 rw [fU]
 refine ⟨_, rfl, fun yj jK => ?_⟩
 have ft := bE.next_nil cv
 have ax := bE.frN cv
 clear jI
 refine go_rn [3, 4, 5, 6, 7] [8] [(0, .p 1 0), (3, .p 2 0), (210, .v (.bool ((IntKind.i64.wrap (BitVec.ofInt 64 aI &&& BitVec.ofInt 64 1).toNat) == 1))), (212, .p 1 14)] ft jK fun yk jL => ?_
 clear jK
 refine of_op (wpOp_store ft jL (oi := 1) (cs := [.int .i16 (IntKind.i16.wrap v), .int .i32 (IntKind.i32.wrap aM), .int .i16 (IntKind.i16.wrap ae), .pointer af, .string (bs ag), .int .i32 (IntKind.i32.wrap ah), .int .i32 (IntKind.i32.wrap ai), .int .i32 (IntKind.i32.wrap aj), .int .i32 (IntKind.i32.wrap ak), .int .i64 al, .slice ar ((lst (Tree.at_ (Tree.mk n1 s2 b3 l4 u5) 9)).length) au, .slice aE ((lst (Tree.at_ (Tree.mk n1 s2 b3 l4 u5) 10)).length) aF, .slice ao ((lst (Tree.at_ (Tree.mk n1 s2 b3 l4 u5) 11)).length) ap, .slice aJ ((lst (Tree.at_ (Tree.mk n1 s2 b3 l4 u5) 12)).length) aK, .bool ((IntKind.i64.wrap (BitVec.ofInt 64 aI &&& BitVec.ofInt 64 1).toNat) == 1), .int .i32 0, .slice none 0 0, .map none]) kz fun yl ay bF jM => ?_)
 clear jL ft
 refine wpOps_nil (then_normal ?_)
 refine go_seq_region [0, 1, 2, 3, 4, 5, 6, 7] kz ?_
 refine go_rn [0, 1] [2, 3, 4, 5, 6, 7] [(0, .p 1 0), (3, .p 2 0), (213, .p 1 0), (214, .v (.agg #[.int .i64 n1, .slice A6 s2.length c7, .bool b3, .slice A8 l4.length c9, .slice ab u5.length ac]))] bF jM fun ym jN => ?_
 clear jM
 refine of_op (wpOp_call jN (f := 73) (vs := [.agg #[.int .i64 n1, .slice A6 s2.length c7, .bool b3, .slice A8 l4.length c9, .slice ab u5.length ac], .int .i64 14]) (d := 215) kz Tryz.call73 (iAt _ _ 14 _ _ (ht.move bF.step nilM bF.imm)) ?_)
 rintro e_ yn ⟨t8, rfl, oz, cw⟩
 have jO := oz.move cw nilM (fun b o h_ hb_ => bF.laid (G := F) cw b o (.inl h_) (Nat.lt_of_lt_of_le hb_ cw.size))
 obtain ⟨aL, yo, yp, yq, yr, yu, yv, yw, yx, yy, yz, ua, oA, fV, qS, qT, yA, yB⟩ := jO.open_
 rw [fV] at jO
 have ro := qS.small
 have rp := qT.small
 rw [fV]
 refine ⟨_, rfl, fun yC jP => ?_⟩
 have fu := bF.next_nil cw
 have aA := bF.frN cw
 clear jN
 refine go_rn [3, 4, 5, 6] [7] [(0, .p 1 0), (3, .p 2 0), (217, .v (.int .i32 (IntKind.i32.wrap aL))), (219, .p 1 15)] fu jP fun yD jQ => ?_
 clear jP
 refine of_op (wpOp_store fu jQ (oi := 1) (cs := [.int .i16 (IntKind.i16.wrap v), .int .i32 (IntKind.i32.wrap aM), .int .i16 (IntKind.i16.wrap ae), .pointer af, .string (bs ag), .int .i32 (IntKind.i32.wrap ah), .int .i32 (IntKind.i32.wrap ai), .int .i32 (IntKind.i32.wrap aj), .int .i32 (IntKind.i32.wrap ak), .int .i64 al, .slice ar ((lst (Tree.at_ (Tree.mk n1 s2 b3 l4 u5) 9)).length) au, .slice aE ((lst (Tree.at_ (Tree.mk n1 s2 b3 l4 u5) 10)).length) aF, .slice ao ((lst (Tree.at_ (Tree.mk n1 s2 b3 l4 u5) 11)).length) ap, .slice aJ ((lst (Tree.at_ (Tree.mk n1 s2 b3 l4 u5) 12)).length) aK, .bool ((IntKind.i64.wrap (BitVec.ofInt 64 aI &&& BitVec.ofInt 64 1).toNat) == 1), .int .i32 (IntKind.i32.wrap aL), .slice none 0 0, .map none]) kz fun yE aB bG jR => ?_)
 clear jQ fu
 refine wpOps_nil (then_normal ?_)
 refine wp_seq ?_
 refine go_seq_region [0, 1, 2, 3] kz ?_
 refine go_rn [0] [1, 2, 3] [(0, .p 1 0), (3, .p 2 0), (220, .v (.agg #[.int .i64 n1, .slice A6 s2.length c7, .bool b3, .slice A8 l4.length c9, .slice ab u5.length ac]))] bG jR fun yF jS => ?_
 clear jR
 refine of_op (wpOp_call jS (f := 73) (vs := [.agg #[.int .i64 n1, .slice A6 s2.length c7, .bool b3, .slice A8 l4.length c9, .slice ab u5.length ac], .int .i64 15]) (d := 221) kz Tryz.call73 (iAt _ _ 15 _ _ (ht.move bG.step nilM bG.imm)) ?_)
 rintro e_ yG ⟨ub, rfl, oB, cy⟩
 have jT := oB.move cy nilM (fun b o h_ hb_ => bG.laid (G := F) cy b o (.inl h_) (Nat.lt_of_lt_of_le hb_ cy.size))
 obtain ⟨yH, yI, fW, yJ, yK, yL, yM, yN, yO, yP, yQ, uc, jU, fX, qU, qV, yR, yS⟩ := jT.open_
 rw [fX] at jT
 have rq := qU.small
 have rt := qV.small
 rw [fX]
 refine ⟨_, rfl, fun yT jV => ?_⟩
 have aW := bG.next_nil cy
 have aC := bG.frN cy
 clear jS
 refine go_rn [2, 3] [] [(0, .p 1 0), (3, .p 2 0), (223, .v (.bool (!fW)))] aW jV fun yU dz => ?_
 clear jV
 refine wpOps_nil (then_normal ?_)
 refine wp_join (Mid := fun a_ w_ => ∃ (A_ : Option Addr) (c_ : Nat) (f_ : Nat → DV), A_.isNone = Tree.null (Tree.at_ (Tree.mk n1 s2 b3 l4 u5) 15) ∧ LstR w_ (Imm F w w_ [⟨bp, 0, [.int .i64 n1, .slice A6 s2.length c7, .bool b3, .slice A8 l4.length c9, .slice ab u5.length ac], true⟩, ⟨aS, 0, [.int .i16 (IntKind.i16.wrap v), .int .i32 (IntKind.i32.wrap aM), .int .i16 (IntKind.i16.wrap ae), .pointer af, .string (bs ag), .int .i32 (IntKind.i32.wrap ah), .int .i32 (IntKind.i32.wrap ai), .int .i32 (IntKind.i32.wrap aj), .int .i32 (IntKind.i32.wrap ak), .int .i64 al, .slice ar ((lst (Tree.at_ (Tree.mk n1 s2 b3 l4 u5) 9)).length) au, .slice aE ((lst (Tree.at_ (Tree.mk n1 s2 b3 l4 u5) 10)).length) aF, .slice ao ((lst (Tree.at_ (Tree.mk n1 s2 b3 l4 u5) 11)).length) ap, .slice aJ ((lst (Tree.at_ (Tree.mk n1 s2 b3 l4 u5) 12)).length) aK, .bool ((IntKind.i64.wrap (BitVec.ofInt 64 aI &&& BitVec.ofInt 64 1).toNat) == 1), .int .i32 (IntKind.i32.wrap aL), .slice A_ ((lst (Tree.at_ (Tree.mk n1 s2 b3 l4 u5) 15)).length) c_, .map none], true⟩, ⟨bq, 0, [.int .i64 n1, .slice A6 s2.length c7, .bool b3, .slice A8 l4.length c9, .slice ab u5.length ac], true⟩] []) 6 clStreamsGroupHeartbeatResponsePartitionsByUserEndpoint okStreamsGroupHeartbeatResponsePartitionsByUserEndpoint relStreamsGroupHeartbeatResponsePartitionsByUserEndpoint A_ c_ f_ (lst (Tree.at_ (Tree.mk n1 s2 b3 l4 u5) 15)) ∧ LInv aW 268 [⟨bp, 0, [.int .i64 n1, .slice A6 s2.length c7, .bool b3, .slice A8 l4.length c9, .slice ab u5.length ac], true⟩, ⟨aS, 0, [.int .i16 (IntKind.i16.wrap v), .int .i32 (IntKind.i32.wrap aM), .int .i16 (IntKind.i16.wrap ae), .pointer af, .string (bs ag), .int .i32 (IntKind.i32.wrap ah), .int .i32 (IntKind.i32.wrap ai), .int .i32 (IntKind.i32.wrap aj), .int .i32 (IntKind.i32.wrap ak), .int .i64 al, .slice ar ((lst (Tree.at_ (Tree.mk n1 s2 b3 l4 u5) 9)).length) au, .slice aE ((lst (Tree.at_ (Tree.mk n1 s2 b3 l4 u5) 10)).length) aF, .slice ao ((lst (Tree.at_ (Tree.mk n1 s2 b3 l4 u5) 11)).length) ap, .slice aJ ((lst (Tree.at_ (Tree.mk n1 s2 b3 l4 u5) 12)).length) aK, .bool ((IntKind.i64.wrap (BitVec.ofInt 64 aI &&& BitVec.ofInt 64 1).toNat) == 1), .int .i32 (IntKind.i32.wrap aL), .slice A_ ((lst (Tree.at_ (Tree.mk n1 s2 b3 l4 u5) 15)).length) c_, .map none], true⟩, ⟨bq, 0, [.int .i64 n1, .slice A6 s2.length c7, .bool b3, .slice A8 l4.length c9, .slice ab u5.length ac], true⟩] [] [(0, .p 1 0), (3, .p 2 0)] a_ w_) ?_ ?_
 ·
  refine cond_of dz (b := !fW) kz (fun fv => ?_) (fun fv => ?_)
  ·
   have hnull_ : Tree.null (Tree.at_ (Tree.mk n1 s2 b3 l4 u5) 15) = false := by rw [jU]; show fW = false; simpa using fv
   refine go_seq_region [0, 1, 2, 3, 4, 5, 6, 7, 8] kz ?_
   refine go_rn [0, 1] [2, 3, 4, 5, 6, 7, 8] [(0, .p 1 0), (3, .p 2 0), (224, .p 1 0), (225, .v (.agg #[.int .i64 n1, .slice A6 s2.length c7, .bool b3, .slice A8 l4.length c9, .slice ab u5.length ac]))] aW dz fun yV jW => ?_
   clear dz
   refine of_op (wpOp_call jW (f := 73) (vs := [.agg #[.int .i64 n1, .slice A6 s2.length c7, .bool b3, .slice A8 l4.length c9, .slice ab u5.length ac], .int .i64 15]) (d := 226) kz Tryz.call73 (iAt _ _ 15 _ _ (ht.move aW.step nilM aW.imm)) ?_)
   rintro e_ yW ⟨ud, rfl, oC, cz⟩
   have jX := oC.move cz nilM (fun b o h_ hb_ => aW.laid (G := F) cz b o (.inl h_) (Nat.lt_of_lt_of_le hb_ cz.size))
   obtain ⟨yX, yY, yZ, cA, y8, y9, za, zb, zc, zd, ze, ue, oD, fY, qW, qX, zf, zg⟩ := jX.open_
   rw [fY] at jX
   have ru := qW.small
   have rv := qX.small
   rw [fY]
   refine ⟨_, rfl, fun zh jY => ?_⟩
   have fw := aW.next_nil cz
   have oE := aW.frN cz
   clear jW
   have hl3_ : lst (Tree.at_ (Tree.mk n1 s2 b3 l4 u5) 15) = cA := by rw [lst_of hnull_, oD]; rfl
   have uf : cA.length ≤ 1000000 := by have h_ := ny; rw [hl3_] at h_; exact h_
   refine go_rn [3, 4] [5, 6, 7, 8] [(0, .p 1 0), (3, .p 2 0), (224, .p 1 0), (228, .v (.int .i64 ((cA.length : Nat) : Int)))] fw jY fun zi jZ => ?_
   clear jY
   refine of_op (wpOp_make0 fw jZ (d := 229) (j := cA.length) (t := 94) (e := 182) (size := 6) (bytes := 88) kz kz rfl (rfl) (by omega) fun j0 zj zk ug uh oF fx j1 => ?_)
   clear jZ fw
   refine go_rn [6, 7] [8] [(0, .p 1 0), (3, .p 2 0), (229, .v (.slice (some ⟨j0, 0, none⟩) 0 cA.length)), (231, .p 1 16)] fx j1 fun zl j2 => ?_
   clear j1
   refine of_op (wpOp_store fx j2 (oi := 1) (cs := [.int .i16 (IntKind.i16.wrap v), .int .i32 (IntKind.i32.wrap aM), .int .i16 (IntKind.i16.wrap ae), .pointer af, .string (bs ag), .int .i32 (IntKind.i32.wrap ah), .int .i32 (IntKind.i32.wrap ai), .int .i32 (IntKind.i32.wrap aj), .int .i32 (IntKind.i32.wrap ak), .int .i64 al, .slice ar ((lst (Tree.at_ (Tree.mk n1 s2 b3 l4 u5) 9)).length) au, .slice aE ((lst (Tree.at_ (Tree.mk n1 s2 b3 l4 u5) 10)).length) aF, .slice ao ((lst (Tree.at_ (Tree.mk n1 s2 b3 l4 u5) 11)).length) ap, .slice aJ ((lst (Tree.at_ (Tree.mk n1 s2 b3 l4 u5) 12)).length) aK, .bool ((IntKind.i64.wrap (BitVec.ofInt 64 aI &&& BitVec.ofInt 64 1).toNat) == 1), .int .i32 (IntKind.i32.wrap aL), .slice (some ⟨j0, 0, none⟩) 0 cA.length, .map none]) kz fun zm oG bH j3 => ?_)
   clear j2 fx
   refine wpOps_nil (then_normal ?_)
   refine go_seq_region [0, 1, 2, 3, 4] kz ?_
   refine go_rn [0] [1, 2, 3, 4] [(0, .p 1 0), (3, .p 2 0), (232, .v (.agg #[.int .i64 n1, .slice A6 s2.length c7, .bool b3, .slice A8 l4.length c9, .slice ab u5.length ac]))] bH j3 fun zn j4 => ?_
   clear j3
   refine of_op (wpOp_call j4 (f := 73) (vs := [.agg #[.int .i64 n1, .slice A6 s2.length c7, .bool b3, .slice A8 l4.length c9, .slice ab u5.length ac], .int .i64 15]) (d := 233) kz Tryz.call73 (iAt _ _ 15 _ _ (ht.move bH.step nilM bH.imm)) ?_)
   rintro e_ zo ⟨ui, rfl, oH, cB⟩
   have j5 := oH.move cB nilM (fun b o h_ hb_ => bH.laid (G := F) cB b o (.inl h_) (Nat.lt_of_lt_of_le hb_ cB.size))
   obtain ⟨zp, zq, zr, aw, zt, zu, zv, bz, bM, zw, zx, uj, oI, fZ, qY, nu, qZ, zy⟩ := j5.open_
   rw [fZ] at j5
   have rx := qY.small
   have ry := nu.small
   rw [fZ]
   refine ⟨_, rfl, fun zz j6 => ?_⟩
   have fy := bH.next_nil cB
   have oJ := bH.frN cB
   clear j4
   have hl3_ : lst (Tree.at_ (Tree.mk n1 s2 b3 l4 u5) 15) = aw := by rw [lst_of hnull_, oI]; rfl
   have uk : aw.length ≤ 1000000 := by have h_ := ny; rw [hl3_] at h_; exact h_
   refine go_rn [2, 3, 4] [] [(0, .p 1 0), (3, .p 2 0), (234, .v (.slice bz aw.length bM)), (235, .v (.int .i64 ((aw.length : Nat) : Int))), (236, .v (.int .i64 0))] fy j6 fun zA j7 => ?_
   clear j6
   refine wpOps_nil (then_normal ?_)
   refine wp_block ?_
   refine wp_loop_ghost (fun n_ a_ w_ => ∃ (k : Nat) (A_ : Option Addr) (c_ : Nat) (xs_ : List Value) (ds_ : List DV), n_ = aw.length - k ∧ k ≤ aw.length ∧ (A_.isNone = false) ∧ (RowL w_ (Imm F w w_ [⟨bp, 0, [.int .i64 n1, .slice A6 s2.length c7, .bool b3, .slice A8 l4.length c9, .slice ab u5.length ac], true⟩, ⟨aS, 0, [.int .i16 (IntKind.i16.wrap v), .int .i32 (IntKind.i32.wrap aM), .int .i16 (IntKind.i16.wrap ae), .pointer af, .string (bs ag), .int .i32 (IntKind.i32.wrap ah), .int .i32 (IntKind.i32.wrap ai), .int .i32 (IntKind.i32.wrap aj), .int .i32 (IntKind.i32.wrap ak), .int .i64 al, .slice ar ((lst (Tree.at_ (Tree.mk n1 s2 b3 l4 u5) 9)).length) au, .slice aE ((lst (Tree.at_ (Tree.mk n1 s2 b3 l4 u5) 10)).length) aF, .slice ao ((lst (Tree.at_ (Tree.mk n1 s2 b3 l4 u5) 11)).length) ap, .slice aJ ((lst (Tree.at_ (Tree.mk n1 s2 b3 l4 u5) 12)).length) aK, .bool ((IntKind.i64.wrap (BitVec.ofInt 64 aI &&& BitVec.ofInt 64 1).toNat) == 1), .int .i32 (IntKind.i32.wrap aL), .slice A_ k c_, .map none], true⟩, ⟨bq, 0, [.int .i64 n1, .slice A6 s2.length c7, .bool b3, .slice A8 l4.length c9, .slice ab u5.length ac], true⟩] [⟨A_, c_, 182, 6, k, xs_⟩]) 6 clStreamsGroupHeartbeatResponsePartitionsByUserEndpoint okStreamsGroupHeartbeatResponsePartitionsByUserEndpoint relStreamsGroupHeartbeatResponsePartitionsByUserEndpoint xs_ ds_ (aw.take k)) ∧ LInv fy 268 [⟨bp, 0, [.int .i64 n1, .slice A6 s2.length c7, .bool b3, .slice A8 l4.length c9, .slice ab u5.length ac], true⟩, ⟨aS, 0, [.int .i16 (IntKind.i16.wrap v), .int .i32 (IntKind.i32.wrap aM), .int .i16 (IntKind.i16.wrap ae), .pointer af, .string (bs ag), .int .i32 (IntKind.i32.wrap ah), .int .i32 (IntKind.i32.wrap ai), .int .i32 (IntKind.i32.wrap aj), .int .i32 (IntKind.i32.wrap ak), .int .i64 al, .slice ar ((lst (Tree.at_ (Tree.mk n1 s2 b3 l4 u5) 9)).length) au, .slice aE ((lst (Tree.at_ (Tree.mk n1 s2 b3 l4 u5) 10)).length) aF, .slice ao ((lst (Tree.at_ (Tree.mk n1 s2 b3 l4 u5) 11)).length) ap, .slice aJ ((lst (Tree.at_ (Tree.mk n1 s2 b3 l4 u5) 12)).length) aK, .bool ((IntKind.i64.wrap (BitVec.ofInt 64 aI &&& BitVec.ofInt 64 1).toNat) == 1), .int .i32 (IntKind.i32.wrap aL), .slice A_ k c_, .map none], true⟩, ⟨bq, 0, [.int .i64 n1, .slice A6 s2.length c7, .bool b3, .slice A8 l4.length c9, .slice ab u5.length ac], true⟩] [⟨A_, c_, 182, 6, k, xs_⟩] [(0, .p 1 0), (3, .p 2 0), (234, .v (.slice bz aw.length bM)), (235, .v (.int .i64 ((aw.length : Nat) : Int))), (236, .v (.int .i64 ((k : Nat) : Int)))] a_ w_) (aw.length) ⟨0, (some ⟨j0, 0, none⟩), cA.length, [], [], by omega, by omega, rfl, RowL.nil mvStreamsGroupHeartbeatResponsePartitionsByUserEndpoint, j7.pk, fy, Fr.refl _ _ _⟩ ?_
   clear j7
   rintro zB zC zD ⟨k, A_, c_, xs_, ds_, ul, um, hA, hR, j8, cC, bI⟩
   refine go_sp [(0, .p 1 0), (3, .p 2 0), (234, .v (.slice bz aw.length bM)), (235, .v (.int .i64 ((aw.length : Nat) : Int))), (236, .v (.int .i64 ((k : Nat) : Int))), (237, .v (.bool (decide (((k : Nat) : Int) < ((aw.length : Nat) : Int)))))] cC j8 fun zE dA => ?_
   clear j8
   refine wp_seq ?_
   refine cond_of dA (b := decide (((k : Nat) : Int) < ((aw.length : Nat) : Int))) kz (fun fz => ?_) (fun fz => ?_)
   ·
    have un := of_decide_eq_true fz
    refine wp_skip ?_
    refine then_normal ?_
    refine wp_seq ?_
    refine wp_block ?_
    refine go_seq_region [0, 1, 2, 3] kz ?_
    obtain ⟨q0, q3, oK, uo, f0⟩ := Slots.get nu (i := k) (by omega)
    obtain ⟨q4, fA⟩ : ∃ x, aw[k]? = some x := ⟨_, List.getElem?_eq_getElem (by omega)⟩
    have fB := qZ k q4 fA
    obtain ⟨eL, eM, eN, eO, eP, eQ, eR, eS, eT, eU, eV, uq, rfl, f5, q5, q6, zF, zG⟩ := fB.open_
    rw [f5] at fB
    have rz := q5.small
    have rA := q6.small
    rw [f5] at f0
    refine of_op (wpOp_index dA (t := 36) (A := bz) (m := aw.length) (q := ((k : Nat) : Int)) (d := 238) kz (e := 39) (size := 5) (bytes := 88) kz oK rfl (by omega) fun zH j9 => ?_)
    clear dA
    refine of_op (wpOp_load j9 (t := 39) (b := q0) (o := q3 + k * 5) (d := 239) kz (cs := [.int .i64 eL, .slice eQ eM.length eR, .bool eN, .slice eS eO.length eT, .slice eU eP.length eV]) (v := .agg #[.int .i64 eL, .slice eQ eM.length eR, .bool eN, .slice eS eO.length eT, .slice eU eP.length eV]) kz (AtF.move f0 bI.step immM bI.to').at_ fun zI ka => ?_)
    clear j9
    refine of_op (wpOp_alloc cC ka (d := 13) (cs := [.int .i64 0, .slice none 0 0, .bool false, .slice none 0 0, .slice none 0 0]) kz fun zJ zK zL ur ut cD kd ke => ?_)
    clear ka cC
    refine of_op (wpOp_store kd ke (oi := 3) (cs := [.int .i64 eL, .slice eQ eM.length eR, .bool eN, .slice eS eO.length eT, .slice eU eP.length eV]) kz fun zM cE kf kg => ?_)
    clear ke kd
    refine wpOps_nil (then_normal ?_)
    refine go_drawK 11 kz kf fun zN cG fC oL => ?_
    clear kf
    refine go_rnD [0, 1, 2, 3, 4, 5] [(0, .p 1 0), (3, .p 2 0), (234, .v (.slice bz aw.length bM)), (235, .v (.int .i64 ((aw.length : Nat) : Int))), (236, .v (.int .i64 ((k : Nat) : Int))), (240, .p 1 0), (244, .v (.slice A_ k c_)), (245, .v (.agg #[.int .i64 eL, .slice eQ eM.length eR, .bool eN, .slice eS eO.length eT, .slice eU eP.length eV]))] 6 (panicFree_block (panicFree_then (panicFree_then (panicFree_block (panicFree_then panicFree_body))))) (fun _ h => h.cells) oL kg fun zO kh => ?_
    clear kg
    refine anyC_op (i := 6) kz (wpOp_call kh (f := 118) (vs := [.agg #[.int .i64 eL, .slice eQ eM.length eR, .bool eN, .slice eS eO.length eT, .slice eU eP.length eV]]) (d := 246) kz Tryz.call118 (eStreamsGroupHeartbeatResponsePartitionsByUserEndpoint _ _ _ _ (fB.move (((bI.trans cD).trans cE).trans cG).step immM (((bI.trans cD).trans cE).trans cG).to') (cj15e _ (by rw [hl3_]; exact List.mem_of_getElem? fA))) ?_)
    rintro e_ zP ⟨aa, rfl, oM, ki, fD⟩
    have oN := mvStreamsGroupHeartbeatResponsePartitionsByUserEndpoint _ (Step.refl _ Nil) nilM (fC.laid (G := F) fD) oM
    refine ⟨_, rfl, fun zQ kj => ?_⟩
    have fE := fC.next_nil fD
    have bk := fC.frN fD
    clear kh
    have oO := TT.ofW bk fE
    refine ⟨fun _ => oO, ?_⟩
    refine anyC_op (i := 7) kz (wpOp_lit fE kj (e := 182) (size := 6) (len := 1) (cs := [.string (((aa.f 0).f 0).s), .int .u16 (((aa.f 0).f 1).n), .map ((aa.f 0).m), .slice ((aa.f 1).A) ((aa.f 1).l) ((aa.f 1).c), .slice ((aa.f 2).A) ((aa.f 2).l) ((aa.f 2).c), .map aa.m]) (d := 247) kz kz fun q7 zR zS uu uw bd cH km => ?_)
    clear kj fE
    have oP := TT.ofW (bk.trans bd) cH
    refine ⟨fun _ => oP, ?_⟩
    refine anyC_op (i := 8) kz (wpOp_append cH km (k := 0) (d := 248) (t := 94) (e := 182) (size := 6) (bytes := 88) (A := A_) (As := (some ⟨q7, 0, none⟩)) (m0 := k) (c := c_) (m := 1) (cs := 1) (xs := xs_) (news := [.string (((aa.f 0).f 0).s), .int .u16 (((aa.f 0).f 1).n), .map ((aa.f 0).m), .slice ((aa.f 1).A) ((aa.f 1).l) ((aa.f 1).c), .slice ((aa.f 2).A) ((aa.f 2).l) ((aa.f 2).c), .map aa.m]) kz kz rfl (own_src (cH.own 1 _ rfl) (allOne_ok kz)) (own_cap (cH.own 1 _ rfl)) (by omega) fun dq dr zT zU bn cI kn => ?_)
    clear km cH
    have oQ := TT.ofW ((bk.trans bd).trans bn) cI
    refine ⟨fun _ => oQ, ?_⟩
    refine anyC_op (i := 9) kz (wpOp_pure [0, 3, 234, 235, 236, 248, 249] cI.cells kn (env' := [(0, .p 1 0), (3, .p 2 0), (234, .v (.slice bz aw.length bM)), (235, .v (.int .i64 ((aw.length : Nat) : Int))), (236, .v (.int .i64 ((k : Nat) : Int))), (248, .v (.slice dq (k + 1) dr)), (249, .p 1 0)]) kz fun zV ko => ?_)
    clear kn
    have kp := TT.ofW ((bk.trans bd).trans bn) cI
    refine ⟨fun _ => kp, ?_⟩
    refine go_rnD [10] [(0, .p 1 0), (3, .p 2 0), (234, .v (.slice bz aw.length bM)), (235, .v (.int .i64 ((aw.length : Nat) : Int))), (236, .v (.int .i64 ((k : Nat) : Int))), (248, .v (.slice dq (k + 1) dr)), (250, .p 1 16)] 1 (panicFree_block (panicFree_then (panicFree_then (panicFree_block (panicFree_then panicFree_body))))) (fun _ h => h.cells) kp ko fun zW kq => ?_
    clear ko
    refine anyC_op (i := 11) kz (wpOp_store cI kq (oi := 1) (cs := [.int .i16 (IntKind.i16.wrap v), .int .i32 (IntKind.i32.wrap aM), .int .i16 (IntKind.i16.wrap ae), .pointer af, .string (bs ag), .int .i32 (IntKind.i32.wrap ah), .int .i32 (IntKind.i32.wrap ai), .int .i32 (IntKind.i32.wrap aj), .int .i32 (IntKind.i32.wrap ak), .int .i64 al, .slice ar ((lst (Tree.at_ (Tree.mk n1 s2 b3 l4 u5) 9)).length) au, .slice aE ((lst (Tree.at_ (Tree.mk n1 s2 b3 l4 u5) 10)).length) aF, .slice ao ((lst (Tree.at_ (Tree.mk n1 s2 b3 l4 u5) 11)).length) ap, .slice aJ ((lst (Tree.at_ (Tree.mk n1 s2 b3 l4 u5) 12)).length) aK, .bool ((IntKind.i64.wrap (BitVec.ofInt 64 aI &&& BitVec.ofInt 64 1).toNat) == 1), .int .i32 (IntKind.i32.wrap aL), .slice dq (k + 1) dr, .map none]) kz fun zX cJ ku kv => ?_)
    clear kq cI
    refine ⟨fun h => absurd rfl h, ?_⟩
    refine anyC_done kz ?_ _
    refine block_normal ?_
    refine then_normal ?_
    refine go_region [0, 1] kz ?_
    refine go_rn [0, 1] [] [(0, .p 1 0), (3, .p 2 0), (234, .v (.slice bz aw.length bM)), (235, .v (.int .i64 ((aw.length : Nat) : Int))), (236, .v (.int .i64 (IntKind.i64.wrap (((k : Nat) : Int) + 1))))] ku kv fun zY oR => ?_
    clear kv
    refine wpOps_nil (then_normal ?_)
    obtain ⟨kw, oS, cK⟩ := ku.cutB oR 3 [⟨bp, 0, [.int .i64 n1, .slice A6 s2.length c7, .bool b3, .slice A8 l4.length c9, .slice ab u5.length ac], true⟩, ⟨aS, 0, [.int .i16 (IntKind.i16.wrap v), .int .i32 (IntKind.i32.wrap aM), .int .i16 (IntKind.i16.wrap ae), .pointer af, .string (bs ag), .int .i32 (IntKind.i32.wrap ah), .int .i32 (IntKind.i32.wrap ai), .int .i32 (IntKind.i32.wrap aj), .int .i32 (IntKind.i32.wrap ak), .int .i64 al, .slice ar ((lst (Tree.at_ (Tree.mk n1 s2 b3 l4 u5) 9)).length) au, .slice aE ((lst (Tree.at_ (Tree.mk n1 s2 b3 l4 u5) 10)).length) aF, .slice ao ((lst (Tree.at_ (Tree.mk n1 s2 b3 l4 u5) 11)).length) ap, .slice aJ ((lst (Tree.at_ (Tree.mk n1 s2 b3 l4 u5) 12)).length) aK, .bool ((IntKind.i64.wrap (BitVec.ofInt 64 aI &&& BitVec.ofInt 64 1).toNat) == 1), .int .i32 (IntKind.i32.wrap aL), .slice dq (k + 1) dr, .map none], true⟩, ⟨bq, 0, [.int .i64 n1, .slice A6 s2.length c7, .bool b3, .slice A8 l4.length c9, .slice ab u5.length ac], true⟩] [(0, .p 1 0), (3, .p 2 0), (234, .v (.slice bz aw.length bM)), (235, .v (.int .i64 ((aw.length : Nat) : Int))), (236, .v (.int .i64 (IntKind.i64.wrap (((k : Nat) : Int) + 1))))]
    obtain ⟨kx, cL⟩ := oS.cutR 1 [⟨dq, dr, 182, 6, k + 1, xs_ ++ [.string (((aa.f 0).f 0).s), .int .u16 (((aa.f 0).f 1).n), .map ((aa.f 0).m), .slice ((aa.f 1).A) ((aa.f 1).l) ((aa.f 1).c), .slice ((aa.f 2).A) ((aa.f 2).l) ((aa.f 2).c), .map aa.m]⟩]
    have oT : IntKind.i64.wrap (((k : Nat) : Int) + 1) = ((k + 1 : Nat) : Int) := wrap_succ (by omega)
    rw [oT] at kw
    exact ⟨aw.length - (k + 1), by omega, k + 1, dq, dr, xs_ ++ [Value.string (((aa.f 0).f 0).s), .int .u16 (((aa.f 0).f 1).n), .map ((aa.f 0).m), .slice ((aa.f 1).A) ((aa.f 1).l) ((aa.f 1).c), .slice ((aa.f 2).A) ((aa.f 2).l) ((aa.f 2).c), .map aa.m], (ds_ ++ [aa]), rfl, by omega, own_some kx (k := 0) rfl (by omega), RowL.snoc (d := aa) (hR.move ((((((((cD.trans cE).trans cG).trans bk).trans bd).trans bn).trans cJ).trans cK).trans cL).step immM ((((((((cD.trans cE).trans cG).trans bk).trans bd).trans bn).trans cJ).trans cK).trans cL).to') fA rfl (mvStreamsGroupHeartbeatResponsePartitionsByUserEndpoint _ ((((bd.trans bn).trans cJ).trans cK).trans cL).step immM ((((bd.trans bn).trans cJ).trans cK).trans cL).to' oN) ki, kw.pk, kx, (((((((((bI.trans cD).trans cE).trans cG).trans bk).trans bd).trans bn).trans cJ).trans cK).trans cL)⟩
   ·
    have ux := of_decide_eq_false fz
    refine wp_exit ?_
    refine then_exit ?_
    refine then_exit ?_
    refine block_exit ?_
    refine then_normal ?_
    have hk_ : k = (lst (Tree.at_ (Tree.mk n1 s2 b3 l4 u5) 15)).length := by rw [hl3_]; omega
    subst k
    have hL_ := LstR.of cC (k := 0) (rs' := []) rfl hR (by rw [hl3_]) oneStreamsGroupHeartbeatResponsePartitionsByUserEndpoint (by omega)
    rw [← hl3_] at hL_
    obtain ⟨oU, oV⟩ := cC.cutR 0 []
    exact ⟨_, _, _, by rw [hnull_]; exact hA, hL_, dA.pk, oU, (((((oE.trans oF).trans oG).trans oJ).trans bI).trans oV)⟩
  ·
   refine wp_skip ?_
   refine then_normal ?_
   have hn_ : Tree.null (Tree.at_ (Tree.mk n1 s2 b3 l4 u5) 15) = true := by rw [jU]; show fW = true; simpa using fv
   have hl_ := lst_no hn_
   exact ⟨none, 0, fun _ => dv0, by rw [hn_]; rfl, by rw [hl_]; exact LstR.nil mvStreamsGroupHeartbeatResponsePartitionsByUserEndpoint, by rw [hl_]; exact ⟨dz.pk, aW, Fr.refl _ _ _⟩⟩
 rintro zZ q8 ⟨aX, aY, cM, oW, fF, ky, cN, aD⟩
 refine go_sp [(0, .p 1 0), (253, .v (.slice ab u5.length ac)), (254, .v (.int .i64 ((u5.length : Nat) : Int))), (255, .v (.int .i64 0))] cN ky fun z1 oX => ?_
 clear ky
 refine wp_block ?_
 have oY := new_of cN 1 rfl kz
 have oZ := oX.recast 0 (.p 1 0) (.v (.pointer (some ⟨aS, 0, none⟩))) rfl rfl trivial
 have o0 := (oZ.pick (ks := [0, 253, 254, 255]) (env' := [(0, .v (.pointer (some ⟨aS, 0, none⟩))), (253, .v (.slice ab u5.length ac)), (254, .v (.int .i64 ((u5.length : Nat) : Int))), (255, .v (.int .i64 0))]) kz).cutTb 0 kz
 refine wp_loop_ghost (fun q a_ w_ => ∃ (j : Nat) (m_ : Option Nat), q = u5.length - j ∧ j ≤ u5.length ∧ EnvOk 268 [] [(0, .v (.pointer (some ⟨aS, 0, none⟩))), (253, .v (.slice ab u5.length ac)), (254, .v (.int .i64 ((u5.length : Nat) : Int))), (255, .v (.int .i64 ((j : Nat) : Int)))] a_ ∧ TL w q8 w_ F aS 17 [.int .i16 (IntKind.i16.wrap v), .int .i32 (IntKind.i32.wrap aM), .int .i16 (IntKind.i16.wrap ae), .pointer af, .string (bs ag), .int .i32 (IntKind.i32.wrap ah), .int .i32 (IntKind.i32.wrap ai), .int .i32 (IntKind.i32.wrap aj), .int .i32 (IntKind.i32.wrap ak), .int .i64 al, .slice ar ((lst (Tree.at_ (Tree.mk n1 s2 b3 l4 u5) 9)).length) au, .slice aE ((lst (Tree.at_ (Tree.mk n1 s2 b3 l4 u5) 10)).length) aF, .slice ao ((lst (Tree.at_ (Tree.mk n1 s2 b3 l4 u5) 11)).length) ap, .slice aJ ((lst (Tree.at_ (Tree.mk n1 s2 b3 l4 u5) 12)).length) aK, .bool ((IntKind.i64.wrap (BitVec.ofInt 64 aI &&& BitVec.ofInt 64 1).toNat) == 1), .int .i32 (IntKind.i32.wrap aL), .slice aX ((lst (Tree.at_ (Tree.mk n1 s2 b3 l4 u5) 15)).length) aY, .map none] m_ (u5.take j)) u5.length
  ⟨0, none, by omega, by omega, o0, TL.start cN 1 rfl rfl⟩ ?_
 rintro q aq wq ⟨j, m_, rfl, hj, hE2, hT⟩
 have hWq := WOk.start wq Nil
 refine go_sp [(0, .v (.pointer (some ⟨aS, 0, none⟩))), (253, .v (.slice ab u5.length ac)), (254, .v (.int .i64 ((u5.length : Nat) : Int))), (255, .v (.int .i64 ((j : Nat) : Int))), (256, .v (.bool (decide (((j : Nat) : Int) < ((u5.length : Nat) : Int)))))] hWq hE2 fun aq2 hE3 => wp_seq ?_
 refine cond_of hE3 (b := decide (((j : Nat) : Int) < ((u5.length : Nat) : Int))) kz (fun hc => ?_) (fun hc => ?_)
 ·have hlt : j < u5.length := by have := of_decide_eq_true hc; omega
  refine wp_skip (then_normal (wp_seq (wp_block ?_)))
  obtain ⟨⟨k, x⟩, hu⟩ : ∃ y, u5[j]? = some y := ⟨_, List.getElem?_eq_getElem hlt⟩
  obtain ⟨bb, bo, xA, xc, hA, hat, hxo, hk⟩ := tag_at uz hu
  refine go_seq_region [0, 1, 2, 3] kz ?_
  refine of_op (wpOp_index hE3 (t := 37) (e := 64) (size := 2) (bytes := 32) (d := 257) (b := bb) (o := bo) (m := u5.length) (j := j) kz kz hA rfl hlt fun aq3 hE4 => ?_)
  refine of_op (wpOp_load hE4 (t := 64) (d := 258) (cs := [.int .u32 k, .slice xA x.length xc]) (v := .agg #[.int .u32 k, .slice xA x.length xc]) kz kz (hat.step_nil hT.step) fun aq4 hE5 => ?_)
  refine of_op (wpOp_alloc hWq hE5 (d := 15) (cs := [.int .u32 0, .slice none 0 0]) kz fun bx aq5 wq2 hbx hbx0 hFq2 hWq2 hE6 => ?_)
  refine of_op (wpOp_store hWq2 hE6 (oi := 0) (cs := [.int .u32 k, .slice xA x.length xc]) kz fun wq3 hFq3 hWq3 hE7 => wpOps_nil (then_normal ?_))
  have hWq4 := hWq3.drew
  refine region_draw (fun wz => CellsOk wz [⟨bx, 0, [.int .u32 k, .slice xA x.length xc], true⟩]) 8 kz ?_
  refine go_rnD [0, 1, 2, 3, 4, 5, 6] [(0, .v (.pointer (some ⟨aS, 0, none⟩))), (253, .v (.slice ab u5.length ac)), (254, .v (.int .i64 ((u5.length : Nat) : Int))), (255, .v (.int .i64 ((j : Nat) : Int))), (261, .v (.pointer (some ⟨aS, 17, none⟩))), (263, .v (.int .u32 k)), (265, .v (.slice xA x.length xc))] 1 (panicFree_block (panicFree_then (panicFree_then (panicFree_block panicFree_body)))) (fun _ h => h) hWq4.cells hE7 fun aq6 hE8 => ?_
  refine anyC_op (i := 7) kz (wpOp_call hE8 (f := 75) (vs := [.pointer (some ⟨aS, 17, none⟩), .int .u32 k, .slice xA x.length xc]) (d := 266) kz Tryz.call75 ((hT.move hWq4.step).set oY kz hsort hu hxo hk) ?_)
  rintro e_ wq5 ⟨rfl, hS5, r, hT5⟩
  refine ⟨_, rfl, fun aq7 hE9 => ⟨fun _ => hT.keeps (off := 17) kz hS5 hWq4.cells (fun ob hm => by rw [List.mem_singleton.1 hm]; exact Nat.le_of_eq hbx.symm), anyC_done kz (block_normal (then_normal ?_)) _⟩⟩
  have uy := (hE9.pick (ks := [0, 253, 254, 255]) (env' := [(0, .v (.pointer (some ⟨aS, 0, none⟩))), (253, .v (.slice ab u5.length ac)), (254, .v (.int .i64 ((u5.length : Nat) : Int))), (255, .v (.int .i64 ((j : Nat) : Int)))]) kz).cutTb 0 kz
  refine go_region [0, 1] kz (go_rn [0, 1] [] [(0, .v (.pointer (some ⟨aS, 0, none⟩))), (253, .v (.slice ab u5.length ac)), (254, .v (.int .i64 ((u5.length : Nat) : Int))), (255, .v (.int .i64 (IntKind.i64.wrap (((j : Nat) : Int) + 1))))] (WOk.start wq5 Nil) uy fun aq8 q9 => wpOps_nil (then_normal ?_))
  rw [wrap_succ (by omega)] at q9
  exact ⟨u5.length - (j + 1), by omega, j + 1, some r, rfl, by omega, q9, hT5⟩
 ·obtain rfl : j = u5.length := by have := of_decide_eq_false hc; omega
  refine wp_exit (then_exit (then_exit (block_exit ?_)))
  rw [List.take_length] at hT
  obtain ⟨cO, am⟩ := hT.tab cN 1 [⟨bp, 0, [.int .i64 n1, .slice A6 s2.length c7, .bool b3, .slice A8 l4.length c9, .slice ab u5.length ac], true⟩, ⟨aS, 0, [.int .i16 (IntKind.i16.wrap v), .int .i32 (IntKind.i32.wrap aM), .int .i16 (IntKind.i16.wrap ae), .pointer af, .string (bs ag), .int .i32 (IntKind.i32.wrap ah), .int .i32 (IntKind.i32.wrap ai), .int .i32 (IntKind.i32.wrap aj), .int .i32 (IntKind.i32.wrap ak), .int .i64 al, .slice ar ((lst (Tree.at_ (Tree.mk n1 s2 b3 l4 u5) 9)).length) au, .slice aE ((lst (Tree.at_ (Tree.mk n1 s2 b3 l4 u5) 10)).length) aF, .slice ao ((lst (Tree.at_ (Tree.mk n1 s2 b3 l4 u5) 11)).length) ap, .slice aJ ((lst (Tree.at_ (Tree.mk n1 s2 b3 l4 u5) 12)).length) aK, .bool ((IntKind.i64.wrap (BitVec.ofInt 64 aI &&& BitVec.ofInt 64 1).toNat) == 1), .int .i32 (IntKind.i32.wrap aL), .slice aX ((lst (Tree.at_ (Tree.mk n1 s2 b3 l4 u5) 15)).length) aY, .map m_], true⟩, ⟨bq, 0, [.int .i64 n1, .slice A6 s2.length c7, .bool b3, .slice A8 l4.length c9, .slice ab u5.length ac], true⟩] rfl
  have o1 := hT.mapImm cN cO am hsort (tags_range uz)
  have o2 : EnvOk 268 [⟨bp, 0, [.int .i64 n1, .slice A6 s2.length c7, .bool b3, .slice A8 l4.length c9, .slice ab u5.length ac], true⟩, ⟨aS, 0, [.int .i16 (IntKind.i16.wrap v), .int .i32 (IntKind.i32.wrap aM), .int .i16 (IntKind.i16.wrap ae), .pointer af, .string (bs ag), .int .i32 (IntKind.i32.wrap ah), .int .i32 (IntKind.i32.wrap ai), .int .i32 (IntKind.i32.wrap aj), .int .i32 (IntKind.i32.wrap ak), .int .i64 al, .slice ar ((lst (Tree.at_ (Tree.mk n1 s2 b3 l4 u5) 9)).length) au, .slice aE ((lst (Tree.at_ (Tree.mk n1 s2 b3 l4 u5) 10)).length) aF, .slice ao ((lst (Tree.at_ (Tree.mk n1 s2 b3 l4 u5) 11)).length) ap, .slice aJ ((lst (Tree.at_ (Tree.mk n1 s2 b3 l4 u5) 12)).length) aK, .bool ((IntKind.i64.wrap (BitVec.ofInt 64 aI &&& BitVec.ofInt 64 1).toNat) == 1), .int .i32 (IntKind.i32.wrap aL), .slice aX ((lst (Tree.at_ (Tree.mk n1 s2 b3 l4 u5) 15)).length) aY, .map m_], true⟩, ⟨bq, 0, [.int .i64 n1, .slice A6 s2.length c7, .bool b3, .slice A8 l4.length c9, .slice ab u5.length ac], true⟩] [] _ := (hE3.retable [⟨bp, 0, [.int .i64 n1, .slice A6 s2.length c7, .bool b3, .slice A8 l4.length c9, .slice ab u5.length ac], true⟩, ⟨aS, 0, [.int .i16 (IntKind.i16.wrap v), .int .i32 (IntKind.i32.wrap aM), .int .i16 (IntKind.i16.wrap ae), .pointer af, .string (bs ag), .int .i32 (IntKind.i32.wrap ah), .int .i32 (IntKind.i32.wrap ai), .int .i32 (IntKind.i32.wrap aj), .int .i32 (IntKind.i32.wrap ak), .int .i64 al, .slice ar ((lst (Tree.at_ (Tree.mk n1 s2 b3 l4 u5) 9)).length) au, .slice aE ((lst (Tree.at_ (Tree.mk n1 s2 b3 l4 u5) 10)).length) aF, .slice ao ((lst (Tree.at_ (Tree.mk n1 s2 b3 l4 u5) 11)).length) ap, .slice aJ ((lst (Tree.at_ (Tree.mk n1 s2 b3 l4 u5) 12)).length) aK, .bool ((IntKind.i64.wrap (BitVec.ofInt 64 aI &&& BitVec.ofInt 64 1).toNat) == 1), .int .i32 (IntKind.i32.wrap aL), .slice aX ((lst (Tree.at_ (Tree.mk n1 s2 b3 l4 u5) 15)).length) aY, .map m_], true⟩, ⟨bq, 0, [.int .i64 n1, .slice A6 s2.length c7, .bool b3, .slice A8 l4.length c9, .slice ab u5.length ac], true⟩]).pk
  refine leave_end o2 cO.cells (v := .tuple #[]) kz ?_
  refine ⟨_, rfl, fun z2 o3 => ?_⟩
  have kA : EnvOk 17 [⟨bp, 0, [.int .i64 n1, .slice A6 s2.length c7, .bool b3, .slice A8 l4.length c9, .slice ab u5.length ac], true⟩, ⟨aS, 0, [.int .i16 (IntKind.i16.wrap v), .int .i32 (IntKind.i32.wrap aM), .int .i16 (IntKind.i16.wrap ae), .pointer af, .string (bs ag), .int .i32 (IntKind.i32.wrap ah), .int .i32 (IntKind.i32.wrap ai), .int .i32 (IntKind.i32.wrap aj), .int .i32 (IntKind.i32.wrap ak), .int .i64 al, .slice ar ((lst (Tree.at_ (Tree.mk n1 s2 b3 l4 u5) 9)).length) au, .slice aE ((lst (Tree.at_ (Tree.mk n1 s2 b3 l4 u5) 10)).length) aF, .slice ao ((lst (Tree.at_ (Tree.mk n1 s2 b3 l4 u5) 11)).length) ap, .slice aJ ((lst (Tree.at_ (Tree.mk n1 s2 b3 l4 u5) 12)).length) aK, .bool ((IntKind.i64.wrap (BitVec.ofInt 64 aI &&& BitVec.ofInt 64 1).toNat) == 1), .int .i32 (IntKind.i32.wrap aL), .slice aX ((lst (Tree.at_ (Tree.mk n1 s2 b3 l4 u5) 15)).length) aY, .map m_], true⟩, ⟨bq, 0, [.int .i64 n1, .slice A6 s2.length c7, .bool b3, .slice A8 l4.length c9, .slice ab u5.length ac], true⟩] [(14, .v (.tuple #[])), (5, .p 1 0), (12, .p 1 0), (13, .v (.agg #[.int .i64 n1, .slice A6 s2.length c7, .bool b3, .slice A8 l4.length c9, .slice ab u5.length ac]))] _ := o3.places (⟨rfl, rfl, ⟨rfl, rfl, trivial⟩⟩)
  refine wpOps_nil (then_normal ?_)
  refine go_seq_region [0, 1, 2] kz ?_
  refine go_rn [0] [1, 2] [(15, .p 1 0)] cO kA fun z6 o4 => ?_
  clear kA
  have hrel_ : relStreamsGroupHeartbeatResponse (dvP m_ u5 [dvN (IntKind.i32.wrap aM), dvN (IntKind.i16.wrap ae), dvT af (bs (octOf (Tree.at_ (Tree.mk n1 s2 b3 l4 u5) 2))), dvS (bs ag), dvN (IntKind.i32.wrap ah), dvN (IntKind.i32.wrap ai), dvN (IntKind.i32.wrap aj), dvN (IntKind.i32.wrap ak), dvN al, dvL ar (lst (Tree.at_ (Tree.mk n1 s2 b3 l4 u5) 9)).length au eX, dvL aE (lst (Tree.at_ (Tree.mk n1 s2 b3 l4 u5) 10)).length aF eZ, dvL ao (lst (Tree.at_ (Tree.mk n1 s2 b3 l4 u5) 11)).length ap b0, dvL aJ (lst (Tree.at_ (Tree.mk n1 s2 b3 l4 u5) 12)).length aK cu, dvB ((IntKind.i64.wrap (BitVec.ofInt 64 aI &&& BitVec.ofInt 64 1).toNat) == 1), dvN (IntKind.i32.wrap aL), dvL aX (lst (Tree.at_ (Tree.mk n1 s2 b3 l4 u5) 15)).length aY cM]) (Tree.mk n1 s2 b3 l4 u5) := by
   unfold relStreamsGroupHeartbeatResponse
   exact ⟨by rw [rI]; rfl, by rw [pl]; rfl, ⟨rfl, po⟩, by rw [kY]; rfl, by rw [pu]; rfl, by rw [pw]; rfl, by rw [pz]; rfl, by rw [pB]; rfl, by rw [pD]; rfl, ⟨p2, rfl, g6.rel_⟩, ⟨qp, rfl, ix.rel_⟩, ⟨nR, rfl, ff.rel_⟩, ⟨ow, rfl, fr.rel_⟩, by rw [oy]; exact bool_rel _, by rw [oA]; rfl, ⟨oW, rfl, fF.rel_⟩, rfl, trivial⟩
  have he_ : aStreamsGroupHeartbeatResponse (IntKind.i16.wrap v) (dvP m_ u5 [dvN (IntKind.i32.wrap aM), dvN (IntKind.i16.wrap ae), dvT af (bs (octOf (Tree.at_ (Tree.mk n1 s2 b3 l4 u5) 2))), dvS (bs ag), dvN (IntKind.i32.wrap ah), dvN (IntKind.i32.wrap ai), dvN (IntKind.i32.wrap aj), dvN (IntKind.i32.wrap ak), dvN al, dvL ar (lst (Tree.at_ (Tree.mk n1 s2 b3 l4 u5) 9)).length au eX, dvL aE (lst (Tree.at_ (Tree.mk n1 s2 b3 l4 u5) 10)).length aF eZ, dvL ao (lst (Tree.at_ (Tree.mk n1 s2 b3 l4 u5) 11)).length ap b0, dvL aJ (lst (Tree.at_ (Tree.mk n1 s2 b3 l4 u5) 12)).length aK cu, dvB ((IntKind.i64.wrap (BitVec.ofInt 64 aI &&& BitVec.ofInt 64 1).toNat) == 1), dvN (IntKind.i32.wrap aL), dvL aX (lst (Tree.at_ (Tree.mk n1 s2 b3 l4 u5) 15)).length aY cM]) = makeStreamsGroupHeartbeatResponse v (Tree.mk n1 s2 b3 l4 u5) := atStreamsGroupHeartbeatResponse _ _ _ hrel_
  rw [← he_] at hroom ⊢
  have hok_ : okStreamsGroupHeartbeatResponse wq (fun _ _ => True) (dvP m_ u5 [dvN (IntKind.i32.wrap aM), dvN (IntKind.i16.wrap ae), dvT af (bs (octOf (Tree.at_ (Tree.mk n1 s2 b3 l4 u5) 2))), dvS (bs ag), dvN (IntKind.i32.wrap ah), dvN (IntKind.i32.wrap ai), dvN (IntKind.i32.wrap aj), dvN (IntKind.i32.wrap ak), dvN al, dvL ar (lst (Tree.at_ (Tree.mk n1 s2 b3 l4 u5) 9)).length au eX, dvL aE (lst (Tree.at_ (Tree.mk n1 s2 b3 l4 u5) 10)).length aF eZ, dvL ao (lst (Tree.at_ (Tree.mk n1 s2 b3 l4 u5) 11)).length ap b0, dvL aJ (lst (Tree.at_ (Tree.mk n1 s2 b3 l4 u5) 12)).length aK cu, dvB ((IntKind.i64.wrap (BitVec.ofInt 64 aI &&& BitVec.ofInt 64 1).toNat) == 1), dvN (IntKind.i32.wrap aL), dvL aX (lst (Tree.at_ (Tree.mk n1 s2 b3 l4 u5) 15)).length aY cM]) := by
   unfold okStreamsGroupHeartbeatResponse
   exact ⟨trivial, trivial, ⟨fun ad h => by
   obtain ⟨b, o, g1, g2⟩ := pp ad h
   exact ⟨b, o, g1, ((g2.move (((((((((((((((((((((((((((kU.trans k5).trans k9).trans lf).trans lh).trans lp).trans lr).trans lx).trans lz).trans lE).trans lG).trans lL).trans lN).trans lT).trans mw).trans db).trans dg).trans bf).trans aU).trans aN).trans aO).trans ax).trans ay).trans aA).trans aB).trans aC).trans aD).trans am).step immM (((((((((((((((((((((((((((kU.trans k5).trans k9).trans lf).trans lh).trans lp).trans lr).trans lx).trans lz).trans lE).trans lG).trans lL).trans lN).trans lT).trans mw).trans db).trans dg).trans bf).trans aU).trans aN).trans aO).trans ax).trans ay).trans aA).trans aB).trans aC).trans aD).trans am).to').move (Step.refl _ Nil) nilM (fun _ _ _ _ => trivial))⟩, by show ByteArray.size (bs (octOf (Tree.at_ (Tree.mk n1 s2 b3 l4 u5) 2))) ≤ 1000000; rw [bs_size]; exact cj2⟩, by show ByteArray.size (bs ag) ≤ 1000000; rw [bs_size]; have h_ := cj3; rw [kY] at h_; exact h_, trivial, trivial, trivial, trivial, trivial, ⟨((g6.move ((((((((((((db.trans dg).trans bf).trans aU).trans aN).trans aO).trans ax).trans ay).trans aA).trans aB).trans aC).trans aD).trans am).step immM ((((((((((((db.trans dg).trans bf).trans aU).trans aN).trans aO).trans ax).trans ay).trans aA).trans aB).trans aC).trans aD).trans am).to').move (Step.refl _ Nil) nilM (fun _ _ _ _ => trivial)).slots, cj9, ((g6.move ((((((((((((db.trans dg).trans bf).trans aU).trans aN).trans aO).trans ax).trans ay).trans aA).trans aB).trans aC).trans aD).trans am).step immM ((((((((((((db.trans dg).trans bf).trans aU).trans aN).trans aO).trans ax).trans ay).trans aA).trans aB).trans aC).trans aD).trans am).to').move (Step.refl _ Nil) nilM (fun _ _ _ _ => trivial)).each⟩, ⟨((ix.move ((((((((((bf.trans aU).trans aN).trans aO).trans ax).trans ay).trans aA).trans aB).trans aC).trans aD).trans am).step immM ((((((((((bf.trans aU).trans aN).trans aO).trans ax).trans ay).trans aA).trans aB).trans aC).trans aD).trans am).to').move (Step.refl _ Nil) nilM (fun _ _ _ _ => trivial)).slots, nv, ((ix.move ((((((((((bf.trans aU).trans aN).trans aO).trans ax).trans ay).trans aA).trans aB).trans aC).trans aD).trans am).step immM ((((((((((bf.trans aU).trans aN).trans aO).trans ax).trans ay).trans aA).trans aB).trans aC).trans aD).trans am).to').move (Step.refl _ Nil) nilM (fun _ _ _ _ => trivial)).each⟩, ⟨((ff.move ((((((((aN.trans aO).trans ax).trans ay).trans aA).trans aB).trans aC).trans aD).trans am).step immM ((((((((aN.trans aO).trans ax).trans ay).trans aA).trans aB).trans aC).trans aD).trans am).to').move (Step.refl _ Nil) nilM (fun _ _ _ _ => trivial)).slots, nw, ((ff.move ((((((((aN.trans aO).trans ax).trans ay).trans aA).trans aB).trans aC).trans aD).trans am).step immM ((((((((aN.trans aO).trans ax).trans ay).trans aA).trans aB).trans aC).trans aD).trans am).to').move (Step.refl _ Nil) nilM (fun _ _ _ _ => trivial)).each⟩, ⟨((fr.move ((((((ax.trans ay).trans aA).trans aB).trans aC).trans aD).trans am).step immM ((((((ax.trans ay).trans aA).trans aB).trans aC).trans aD).trans am).to').move (Step.refl _ Nil) nilM (fun _ _ _ _ => trivial)).slots, nx, ((fr.move ((((((ax.trans ay).trans aA).trans aB).trans aC).trans aD).trans am).step immM ((((((ax.trans ay).trans aA).trans aB).trans aC).trans aD).trans am).to').move (Step.refl _ Nil) nilM (fun _ _ _ _ => trivial)).each⟩, trivial, trivial, ⟨((fF.move am.step immM am.to').move (Step.refl _ Nil) nilM (fun _ _ _ _ => trivial)).slots, ny, ((fF.move am.step immM am.to').move (Step.refl _ Nil) nilM (fun _ _ _ _ => trivial)).each⟩, (o1.move (Step.refl _ Nil) nilM (fun _ _ _ _ => trivial)), cU.2.1, cU.2.2, trivial⟩
  refine of_op (wpOp_call o4 (f := 68) (vs := [.pointer (some ⟨aS, 0, none⟩), .slice none 0 0]) (d := 16) kz Tryz.call68 (kStreamsGroupHeartbeatResponse (IntKind.i16.wrap v) (dvP m_ u5 [dvN (IntKind.i32.wrap aM), dvN (IntKind.i16.wrap ae), dvT af (bs (octOf (Tree.at_ (Tree.mk n1 s2 b3 l4 u5) 2))), dvS (bs ag), dvN (IntKind.i32.wrap ah), dvN (IntKind.i32.wrap ai), dvN (IntKind.i32.wrap aj), dvN (IntKind.i32.wrap ak), dvN al, dvL ar (lst (Tree.at_ (Tree.mk n1 s2 b3 l4 u5) 9)).length au eX, dvL aE (lst (Tree.at_ (Tree.mk n1 s2 b3 l4 u5) 10)).length aF eZ, dvL ao (lst (Tree.at_ (Tree.mk n1 s2 b3 l4 u5) 11)).length ap b0, dvL aJ (lst (Tree.at_ (Tree.mk n1 s2 b3 l4 u5) 12)).length aK cu, dvB ((IntKind.i64.wrap (BitVec.ofInt 64 aI &&& BitVec.ofInt 64 1).toNat) == 1), dvN (IntKind.i32.wrap aL), dvL aX (lst (Tree.at_ (Tree.mk n1 s2 b3 l4 u5) 15)).length aY cM]) aS 0 none 0 [] _ _ (fun j v hj => ⟨trivial, cO.cells 1 _ rfl j v hj⟩) hok_ none_blk (World.ownsRow_nil _ 0 _ _) (by simpa using hroom)) ?_)
  rintro e_ wz ⟨A', c', rfl, ho, hs, hn⟩
  refine ⟨_, rfl, fun az hEz => ?_⟩
  have hEy := (hEz.pick (ks := [16]) (env' := [(16, .v (.slice A' (([] ++ aStreamsGroupHeartbeatResponse (IntKind.i16.wrap v) (dvP m_ u5 [dvN (IntKind.i32.wrap aM), dvN (IntKind.i16.wrap ae), dvT af (bs (octOf (Tree.at_ (Tree.mk n1 s2 b3 l4 u5) 2))), dvS (bs ag), dvN (IntKind.i32.wrap ah), dvN (IntKind.i32.wrap ai), dvN (IntKind.i32.wrap aj), dvN (IntKind.i32.wrap ak), dvN al, dvL ar (lst (Tree.at_ (Tree.mk n1 s2 b3 l4 u5) 9)).length au eX, dvL aE (lst (Tree.at_ (Tree.mk n1 s2 b3 l4 u5) 10)).length aF eZ, dvL ao (lst (Tree.at_ (Tree.mk n1 s2 b3 l4 u5) 11)).length ap b0, dvL aJ (lst (Tree.at_ (Tree.mk n1 s2 b3 l4 u5) 12)).length aK cu, dvB ((IntKind.i64.wrap (BitVec.ofInt 64 aI &&& BitVec.ofInt 64 1).toNat) == 1), dvN (IntKind.i32.wrap aL), dvL aX (lst (Tree.at_ (Tree.mk n1 s2 b3 l4 u5) 15)).length aY cM])).length) c'))]) kz).cutTb 0 kz
  have hWz := WOk.start wz Nil
  refine go_rn [2] [] [(4, .v (.slice A' (([] ++ aStreamsGroupHeartbeatResponse (IntKind.i16.wrap v) (dvP m_ u5 [dvN (IntKind.i32.wrap aM), dvN (IntKind.i16.wrap ae), dvT af (bs (octOf (Tree.at_ (Tree.mk n1 s2 b3 l4 u5) 2))), dvS (bs ag), dvN (IntKind.i32.wrap ah), dvN (IntKind.i32.wrap ai), dvN (IntKind.i32.wrap aj), dvN (IntKind.i32.wrap ak), dvN al, dvL ar (lst (Tree.at_ (Tree.mk n1 s2 b3 l4 u5) 9)).length au eX, dvL aE (lst (Tree.at_ (Tree.mk n1 s2 b3 l4 u5) 10)).length aF eZ, dvL ao (lst (Tree.at_ (Tree.mk n1 s2 b3 l4 u5) 11)).length ap b0, dvL aJ (lst (Tree.at_ (Tree.mk n1 s2 b3 l4 u5) 12)).length aK cu, dvB ((IntKind.i64.wrap (BitVec.ofInt 64 aI &&& BitVec.ofInt 64 1).toNat) == 1), dvN (IntKind.i32.wrap aL), dvL aX (lst (Tree.at_ (Tree.mk n1 s2 b3 l4 u5) 15)).length aY cM])).length) c'))] hWz hEy fun z7 o5 => ?_
  clear hEy
  refine wpOps_nil (then_normal ?_)
  refine wp_ret ?_
  refine leave o5 hWz.cells (v := .slice A' (([] ++ aStreamsGroupHeartbeatResponse (IntKind.i16.wrap v) (dvP m_ u5 [dvN (IntKind.i32.wrap aM), dvN (IntKind.i16.wrap ae), dvT af (bs (octOf (Tree.at_ (Tree.mk n1 s2 b3 l4 u5) 2))), dvS (bs ag), dvN (IntKind.i32.wrap ah), dvN (IntKind.i32.wrap ai), dvN (IntKind.i32.wrap aj), dvN (IntKind.i32.wrap ak), dvN al, dvL ar (lst (Tree.at_ (Tree.mk n1 s2 b3 l4 u5) 9)).length au eX, dvL aE (lst (Tree.at_ (Tree.mk n1 s2 b3 l4 u5) 10)).length aF eZ, dvL ao (lst (Tree.at_ (Tree.mk n1 s2 b3 l4 u5) 11)).length ap b0, dvL aJ (lst (Tree.at_ (Tree.mk n1 s2 b3 l4 u5) 12)).length aK cu, dvB ((IntKind.i64.wrap (BitVec.ofInt 64 aI &&& BitVec.ofInt 64 1).toNat) == 1), dvN (IntKind.i32.wrap aL), dvL aX (lst (Tree.at_ (Tree.mk n1 s2 b3 l4 u5) 15)).length aY cM])).length) c') kz ?_
  exact fresh_of_app cO.step ⟨A', c', rfl, ho, hs, hn⟩
theorem xStreamsGroupHeartbeatResponse (w : World) : Calls Tryz.prog 26 #[] w (Gives w (.int .i64 1)) := by
 refine enter (n := 4) Tryz.func26 rfl Tryz.ntmps26 kz fun a hE => ?_
 have hW := WOk.start w Nil
 refine go_sp [] hW hE fun a1 hE2 => ?_
 clear hE
 refine go_seq_region [0, 1, 2, 3] kz ?_
 refine of_op (wpOp_inline hE2 (f := 61) (vs := []) (d := 1) (n' := 3) kz Tryz.call61 Tryz.func61 rfl Tryz.ntmps61 kz fun a3 hE4 => ?_)
 refine go_sp [] hW hE4 fun a5 hE6 => ?_
 clear hE4
 refine go_seq_region [0] kz ?_
 refine of_op (wpOp_alloc hW hE6 (d := 1) (cs := [.int .i16 0, .int .i32 0, .int .i16 0, .pointer none, .string ByteArray.empty, .int .i32 0, .int .i32 0, .int .i32 0, .int .i32 0, .int .i64 0, .slice none 0 0, .slice none 0 0, .slice none 0 0, .slice none 0 0, .bool false, .int .i32 0, .slice none 0 0, .map none]) kz fun b7 a8 w9 aB aC aD ab al => ?_)
 clear hE6 hW
 refine wpOps_nil (then_normal ?_)
 refine go_seq_region [0] kz ?_
 refine of_op (wpOp_inline al (f := 112) (vs := [.pointer (some ⟨b7, 0, none⟩)]) (d := 2) (n' := 5) kz Tryz.call112 Tryz.func112 rfl Tryz.ntmps112 kz fun aF am => ?_)
 have ac := am.recast 0 (.v (.pointer (some ⟨b7, 0, none⟩))) (.p 0 0) rfl rfl (Nat.le_of_ble_eq_true (n := 1) rfl)
 refine go_region [0, 1, 2, 3] kz ?_
 refine go_rn [0, 1, 2] [3] [(4, .p 0 9)] ab ac fun aG ae => ?_
 clear ac
 refine of_op (wpOp_store ab ae (oi := 0) (cs := [.int .i16 0, .int .i32 0, .int .i16 0, .pointer none, .string ByteArray.empty, .int .i32 0, .int .i32 0, .int .i32 0, .int .i32 0, .int .i64 (-1), .slice none 0 0, .slice none 0 0, .slice none 0 0, .slice none 0 0, .bool false, .int .i32 0, .slice none 0 0, .map none]) kz fun aH aE aa ao => ?_)
 clear ae ab
 refine wpOps_nil ?_
 refine leave_end ao aa.cells (v := .tuple #[]) kz ?_
 refine ⟨_, rfl, fun aI ap => ?_⟩
 have af : EnvOk 3 [⟨b7, 0, [.int .i16 0, .int .i32 0, .int .i16 0, .pointer none, .string ByteArray.empty, .int .i32 0, .int .i32 0, .int .i32 0, .int .i32 0, .int .i64 (-1), .slice none 0 0, .slice none 0 0, .slice none 0 0, .slice none 0 0, .bool false, .int .i32 0, .slice none 0 0, .map none], true⟩] [(2, .v (.tuple #[])), (1, .p 0 0)] _ := ap.places (⟨rfl, rfl, trivial⟩)
 refine wpOps_nil (then_normal ?_)
 refine go_sp [(0, .p 0 0)] aa af fun aJ ar => ?_
 clear af
 refine wp_ret ?_
 refine leave ar aa.cells (v := .pointer (some ⟨b7, 0, none⟩)) kz ?_
 refine ⟨_, rfl, fun aK au => ?_⟩
 have ag : EnvOk 4 [⟨b7, 0, [.int .i16 0, .int .i32 0, .int .i16 0, .pointer none, .string ByteArray.empty, .int .i32 0, .int .i32 0, .int .i32 0, .int .i32 0, .int .i64 (-1), .slice none 0 0, .slice none 0 0, .slice none 0 0, .slice none 0 0, .bool false, .int .i32 0, .slice none 0 0, .map none], true⟩] [(1, .v (.pointer (some ⟨b7, 0, none⟩)))] _ := au.places (trivial)
 have ah := ag.recast 1 (.v (.pointer (some ⟨b7, 0, none⟩))) (.p 0 0) rfl rfl (Nat.le_of_ble_eq_true (n := 1) rfl)
 have av := ah.pick (ks := [1]) (env' := [(1, .p 0 0)]) kz
 clear ag
 clear ah
 refine of_op (wpOp_inline av (f := 62) (vs := [.pointer (some ⟨b7, 0, none⟩)]) (d := 2) (n' := 3) kz Tryz.call62 Tryz.func62 rfl Tryz.ntmps62 kz fun aL aw => ?_)
 have ai := aw.recast 0 (.v (.pointer (some ⟨b7, 0, none⟩))) (.p 0 0) rfl rfl (Nat.le_of_ble_eq_true (n := 1) rfl)
 refine go_sp [] aa ai fun aM aj => ?_
 clear ai
 refine go_sp [(2, .v (.int .i16 1))] aa aj fun aN ax => ?_
 clear aj
 refine wp_ret ?_
 refine leave ax aa.cells (v := .int .i16 1) kz ?_
 refine ⟨_, rfl, fun aO ay => ?_⟩
 have ak : EnvOk 4 [⟨b7, 0, [.int .i16 0, .int .i32 0, .int .i16 0, .pointer none, .string ByteArray.empty, .int .i32 0, .int .i32 0, .int .i32 0, .int .i32 0, .int .i64 (-1), .slice none 0 0, .slice none 0 0, .slice none 0 0, .slice none 0 0, .bool false, .int .i32 0, .slice none 0 0, .map none], true⟩] [(2, .v (.int .i16 1)), (1, .p 0 0)] _ := ay.places (⟨rfl, rfl, trivial⟩)
 refine go_rn [2, 3] [] [(0, .v (.int .i64 1))] aa ak fun aP aA => ?_
 clear ak
 refine wpOps_nil (then_normal ?_)
 refine wp_ret ?_
 refine leave aA aa.cells (v := .int .i64 1) kz ?_
 exact ⟨rfl, aa.step⟩
theorem sStreamsGroupHeartbeatResponse_depth : depths sStreamsGroupHeartbeatResponseF ≤ 8 := by simp [sStreamsGroupHeartbeatResponseF, Fld.depth.depths, Fld.depth]
theorem sStreamsGroupHeartbeatResponse_plain : plains sStreamsGroupHeartbeatResponseF := by simp [sStreamsGroupHeartbeatResponseF, Fld.plain.plains, Fld.plain]
end Go.Proofs.YtbjopfcbpobnpaaGreat.ME