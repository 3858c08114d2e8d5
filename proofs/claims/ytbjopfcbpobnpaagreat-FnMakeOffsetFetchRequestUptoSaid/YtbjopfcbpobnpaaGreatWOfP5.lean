/- FnMakeOffsetFetchRequest: the statement: of every version and every tree of the bulk that the statement speaks of the law returns true, and leaves its arguments as they are. Own work. -/
import Derived.Test.YtbjopfcbpobnpaaGreatWOfP4
/- Printed by tools/mk.py. Own work. -/
namespace Go.Proofs.YtbjopfcbpobnpaaGreat.ME
open Go
open Go.RowKit
set_option linter.unusedVariables false
set_option linter.unusedSimpArgs false
set_option maxRecDepth 20000

def clOffsetFetchRequestTopic (d : DV) : List Value := [.string ((d.f 0).s), .slice ((d.f 1).A) ((d.f 1).l) ((d.f 1).c), .map d.m]
theorem oneOffsetFetchRequestTopic : ∀ d, ∀ u ∈ clOffsetFetchRequestTopic d, u.oneCell' = true := fun d => allOne_ok (by kernel_rfl)
theorem mvOffsetFetchRequestTopic : Moves okOffsetFetchRequestTopic := by
  intro w w' F F' M d hs hM hF h
  unfold okOffsetFetchRequestTopic at h ⊢
  obtain ⟨g0, ⟨g1, g1l, g1e⟩, t1, t2, t3, _⟩ := h
  exact ⟨g0, ⟨g1.move hs hM hF, g1l, g1e⟩, t1.move hs hM hF, t2, t3, trivial⟩

def clOffsetFetchRequestGroupTopic (d : DV) : List Value := [.string ((d.f 0).s), byteCell ((d.f 1).o.getD 0 0), byteCell ((d.f 1).o.getD 1 0), byteCell ((d.f 1).o.getD 2 0), byteCell ((d.f 1).o.getD 3 0), byteCell ((d.f 1).o.getD 4 0), byteCell ((d.f 1).o.getD 5 0), byteCell ((d.f 1).o.getD 6 0), byteCell ((d.f 1).o.getD 7 0), byteCell ((d.f 1).o.getD 8 0), byteCell ((d.f 1).o.getD 9 0), byteCell ((d.f 1).o.getD 10 0), byteCell ((d.f 1).o.getD 11 0), byteCell ((d.f 1).o.getD 12 0), byteCell ((d.f 1).o.getD 13 0), byteCell ((d.f 1).o.getD 14 0), byteCell ((d.f 1).o.getD 15 0), .slice ((d.f 2).A) ((d.f 2).l) ((d.f 2).c), .map d.m]
theorem oneOffsetFetchRequestGroupTopic : ∀ d, ∀ u ∈ clOffsetFetchRequestGroupTopic d, u.oneCell' = true := fun d => allOne_ok (by kernel_rfl)
theorem mvOffsetFetchRequestGroupTopic : Moves okOffsetFetchRequestGroupTopic := by
  intro w w' F F' M d hs hM hF h
  unfold okOffsetFetchRequestGroupTopic at h ⊢
  obtain ⟨g0, g1, ⟨g2, g2l, g2e⟩, t1, t2, t3, _⟩ := h
  exact ⟨g0, g1, ⟨g2.move hs hM hF, g2l, g2e⟩, t1.move hs hM hF, t2, t3, trivial⟩

def clOffsetFetchRequestGroup (d : DV) : List Value := [.string ((d.f 0).s), .pointer ((d.f 1).A), .int .i32 ((d.f 2).n), .slice ((d.f 3).A) ((d.f 3).l) ((d.f 3).c), .map d.m]
theorem oneOffsetFetchRequestGroup : ∀ d, ∀ u ∈ clOffsetFetchRequestGroup d, u.oneCell' = true := fun d => allOne_ok (by kernel_rfl)
theorem mvOffsetFetchRequestGroup : Moves okOffsetFetchRequestGroup := by
  intro w w' F F' M d hs hM hF h
  unfold okOffsetFetchRequestGroup at h ⊢
  obtain ⟨g0, ⟨g1, g1l⟩, g2, ⟨g3, g3l, g3e⟩, t1, t2, t3, _⟩ := h
  exact ⟨g0, ⟨fun ad hA => by
    obtain ⟨b, o, h1, h2⟩ := g1 ad hA
    exact ⟨b, o, h1, h2.move hs hM hF⟩, g1l⟩, g2, ⟨g3.move hs hM hF, g3l, fun i hi => mvOffsetFetchRequestGroupTopic _ hs hM hF (g3e i hi)⟩, t1.move hs hM hF, t2, t3, trivial⟩

set_option maxHeartbeats 4000000 in
theorem eOffsetFetchRequestTopic (ct : List Value) (t : Tree) (w : World) (F : Nat → Nat → Prop) (ht : TreeR w F ct t) (hc : canOffsetFetchRequestTopic t) :
    Calls Tryz.prog 105 #[.agg ct.toArray] w (fun e w' => ∃ D : DV, e = .returned (.agg #[.string ((D.f 0).s), .slice ((D.f 1).A) ((D.f 1).l) ((D.f 1).c), .map D.m]) ∧ okOffsetFetchRequestTopic w' (Fp F w) D ∧ relOffsetFetchRequestTopic D t ∧ Step w w' Nil) := by
  obtain ⟨n1, s2, b3, l4, u5, A6, c7, A8, c9, A10, c11, xs12, rfl, rfl, h14, h15, h16, h17⟩ := ht.open_
  have hsm19 := h14.small
  have hsm20 := h15.small
  unfold canOffsetFetchRequestTopic at hc
  obtain ⟨cj0, cj1, cU, _⟩ := hc
  have hsort := cU.1
  replace hsort : Sorted u5 := hsort
  have hul : u5.length ≤ 1000000 := cU.2.1
  refine enter (n := 55) Tryz.func105 rfl Tryz.ntmps105 (by kernel_rfl) fun a hE => ?_
  have hW := WOk.start w Nil
  refine go_seq_region [0, 1] (by kernel_rfl) ?_
  refine of_op (wpOp_box hW hE (d := 1) (cs := [.int .i64 n1, .slice A6 s2.length c7, .bool b3, .slice A8 l4.length c9, .slice A10 u5.length c11]) (by kernel_rfl) fun b21 a22 w23 hb24 hz25 hF26 hW27 hE28 => ?_)
  clear hE hW
  refine of_op (wpOp_alloc hW27 hE28 (d := 2) (cs := [.string ByteArray.empty, .slice none 0 0, .map none]) (by kernel_rfl) fun b29 a30 w31 hb32 hz33 hF34 hW35 hE36 => ?_)
  clear hE28 hW27
  refine wpOps_nil ?_
  refine then_normal ?_
  refine go_seq_region [0] (by kernel_rfl) ?_
  refine of_op (wpOp_alloc hW35 hE36 (d := 3) (cs := [.string ByteArray.empty, .slice none 0 0, .map none]) (by kernel_rfl) fun b37 a38 w39 hb40 hz41 hF42 hW43 hE44 => ?_)
  clear hE36 hW35
  refine wpOps_nil ?_
  refine then_normal ?_
  refine go_seq_region [0, 1, 2, 3, 4, 5] (by kernel_rfl) ?_
  refine go_rn [0] [1, 2, 3, 4, 5] [(1, .p 0 0), (2, .p 1 0), (3, .p 2 0), (8, .v (.agg #[.int .i64 n1, .slice A6 s2.length c7, .bool b3, .slice A8 l4.length c9, .slice A10 u5.length c11]))] hW43 hE44 fun a45 hE46 => ?_
  clear hE44
  refine of_op (wpOp_call hE46 (f := 73) (vs := [.agg #[.int .i64 n1, .slice A6 s2.length c7, .bool b3, .slice A8 l4.length c9, .slice A10 u5.length c11], .int .i64 0]) (d := 9) (by kernel_rfl) Tryz.call73 (iAt _ _ 0 _ _ (ht.move hW43.step nilM hW43.imm)) ?_)
  rintro e_ w50 ⟨cs49, rfl, hr48, hs47⟩
  have hr51 := hr48.move hs47 nilM (fun b o h_ hb_ => hW43.laid (G := F) hs47 b o (.inl h_) (Nat.lt_of_lt_of_le hb_ hs47.size))
  obtain ⟨n52, s53, b54, l55, u56, A57, c58, A59, c60, A61, c62, xs63, ht69, hcs64, h65, h66, h67, h68⟩ := hr51.open_
  rw [hcs64] at hr51
  have hsm70 := h65.small
  have hsm71 := h66.small
  rw [hcs64]
  refine ⟨_, rfl, fun a72 hE73 => ?_⟩
  have hW74 := hW43.next_nil hs47
  have hF75 := hW43.frN hs47
  clear hE46
  refine go_rn [2] [3, 4, 5] [(1, .p 0 0), (2, .p 1 0), (3, .p 2 0), (10, .v (.slice A57 s53.length c58))] hW74 hE73 fun a76 hE77 => ?_
  clear hE73
  refine of_op (wpOp_conv hE77 (src := 22) (dst := 9) (e := 5) (d := 11) (by kernel_rfl) (by kernel_rfl) (by kernel_rfl) (by kernel_rfl) h65 fun a78 hE79 => ?_)
  clear hE77
  refine go_rn [4] [5] [(1, .p 0 0), (2, .p 1 0), (3, .p 2 0), (11, .v (.string (bs s53))), (12, .p 2 0)] hW74 hE79 fun a80 hE81 => ?_
  clear hE79
  refine of_op (wpOp_store hW74 hE81 (oi := 2) (cs := [.string (bs s53), .slice none 0 0, .map none]) (by kernel_rfl) fun w82 hF83 hW84 hE85 => ?_)
  clear hE81 hW74
  refine wpOps_nil ?_
  refine then_normal ?_
  refine wp_seq ?_
  refine go_seq_region [0, 1, 2, 3] (by kernel_rfl) ?_
  refine go_rn [0] [1, 2, 3] [(1, .p 0 0), (2, .p 1 0), (3, .p 2 0), (13, .v (.agg #[.int .i64 n1, .slice A6 s2.length c7, .bool b3, .slice A8 l4.length c9, .slice A10 u5.length c11]))] hW84 hE85 fun a86 hE87 => ?_
  clear hE85
  refine of_op (wpOp_call hE87 (f := 73) (vs := [.agg #[.int .i64 n1, .slice A6 s2.length c7, .bool b3, .slice A8 l4.length c9, .slice A10 u5.length c11], .int .i64 1]) (d := 14) (by kernel_rfl) Tryz.call73 (iAt _ _ 1 _ _ (ht.move hW84.step nilM hW84.imm)) ?_)
  rintro e_ w91 ⟨cs90, rfl, hr89, hs88⟩
  have hr92 := hr89.move hs88 nilM (fun b o h_ hb_ => hW84.laid (G := F) hs88 b o (.inl h_) (Nat.lt_of_lt_of_le hb_ hs88.size))
  obtain ⟨n93, s94, b95, l96, u97, A98, c99, A100, c101, A102, c103, xs104, ht110, hcs105, h106, h107, h108, h109⟩ := hr92.open_
  rw [hcs105] at hr92
  have hsm111 := h106.small
  have hsm112 := h107.small
  rw [hcs105]
  refine ⟨_, rfl, fun a113 hE114 => ?_⟩
  have hW115 := hW84.next_nil hs88
  have hF116 := hW84.frN hs88
  clear hE87
  refine go_rn [2, 3] [] [(1, .p 0 0), (2, .p 1 0), (3, .p 2 0), (16, .v (.bool (!b95)))] hW115 hE114 fun a117 hE118 => ?_
  clear hE114
  refine wpOps_nil ?_
  refine then_normal ?_
  refine wp_join (Mid := fun a_ w_ => ∃ (A_ : Option Addr) (c_ : Nat) (f_ : Nat → DV), A_.isNone = Tree.null (Tree.at_ (Tree.mk n1 s2 b3 l4 u5) 1) ∧ LstR w_ (Imm F w w_ [⟨b21, 0, [.int .i64 n1, .slice A6 s2.length c7, .bool b3, .slice A8 l4.length c9, .slice A10 u5.length c11], true⟩, ⟨b29, 0, [.string ByteArray.empty, .slice none 0 0, .map none], true⟩, ⟨b37, 0, [.string (bs s53), .slice A_ ((lst (Tree.at_ (Tree.mk n1 s2 b3 l4 u5) 1)).length) c_, .map none], true⟩] []) 1 (fun d => [.int .i32 d.n]) okNone (fun d t => d.n = IntKind.i32.wrap t.N) A_ c_ f_ (lst (Tree.at_ (Tree.mk n1 s2 b3 l4 u5) 1)) ∧ LInv hW115 55 [⟨b21, 0, [.int .i64 n1, .slice A6 s2.length c7, .bool b3, .slice A8 l4.length c9, .slice A10 u5.length c11], true⟩, ⟨b29, 0, [.string ByteArray.empty, .slice none 0 0, .map none], true⟩, ⟨b37, 0, [.string (bs s53), .slice A_ ((lst (Tree.at_ (Tree.mk n1 s2 b3 l4 u5) 1)).length) c_, .map none], true⟩] [] [(1, .p 0 0), (2, .p 1 0), (3, .p 2 0)] a_ w_) ?_ ?_
  ·
    refine cond_of hE118 (b := !b95) (by kernel_rfl) (fun hc119 => ?_) (fun hc119 => ?_)
    ·
      have hnull_ : Tree.null (Tree.at_ (Tree.mk n1 s2 b3 l4 u5) 1) = false := by rw [ht110]; show b95 = false; simpa using hc119
      refine go_seq_region [0, 1, 2, 3, 4, 5, 6] (by kernel_rfl) ?_
      refine go_rn [0] [1, 2, 3, 4, 5, 6] [(1, .p 0 0), (2, .p 1 0), (3, .p 2 0), (17, .v (.agg #[.int .i64 n1, .slice A6 s2.length c7, .bool b3, .slice A8 l4.length c9, .slice A10 u5.length c11]))] hW115 hE118 fun a121 hE122 => ?_
      clear hE118
      refine of_op (wpOp_call hE122 (f := 73) (vs := [.agg #[.int .i64 n1, .slice A6 s2.length c7, .bool b3, .slice A8 l4.length c9, .slice A10 u5.length c11], .int .i64 1]) (d := 18) (by kernel_rfl) Tryz.call73 (iAt _ _ 1 _ _ (ht.move hW115.step nilM hW115.imm)) ?_)
      rintro e_ w126 ⟨cs125, rfl, hr124, hs123⟩
      have hr127 := hr124.move hs123 nilM (fun b o h_ hb_ => hW115.laid (G := F) hs123 b o (.inl h_) (Nat.lt_of_lt_of_le hb_ hs123.size))
      obtain ⟨n128, s129, b130, l131, u132, A133, c134, A135, c136, A137, c138, xs139, ht145, hcs140, h141, h142, h143, h144⟩ := hr127.open_
      rw [hcs140] at hr127
      have hsm146 := h141.small
      have hsm147 := h142.small
      rw [hcs140]
      refine ⟨_, rfl, fun a148 hE149 => ?_⟩
      have hW150 := hW115.next_nil hs123
      have hF151 := hW115.frN hs123
      clear hE122
      have hl3_ : lst (Tree.at_ (Tree.mk n1 s2 b3 l4 u5) 1) = l131 := by rw [lst_of hnull_, ht145]; rfl
      have hb152 : l131.length ≤ 1000000 := by have h_ := cj1; rw [hl3_] at h_; exact h_
      refine go_rn [2, 3] [4, 5, 6] [(1, .p 0 0), (2, .p 1 0), (3, .p 2 0), (20, .v (.int .i64 ((l131.length : Nat) : Int)))] hW150 hE149 fun a153 hE154 => ?_
      clear hE149
      refine of_op (wpOp_make0 hW150 hE154 (d := 21) (j := l131.length) (t := 143) (e := 21) (size := 1) (bytes := 4) (by kernel_rfl) (by kernel_rfl) rfl (rfl) (by omega) fun b155 a156 w157 hb158 hz159 hF160 hW161 hE162 => ?_)
      clear hE154 hW150
      refine go_rn [5] [6] [(1, .p 0 0), (2, .p 1 0), (3, .p 2 0), (21, .v (.slice (some ⟨b155, 0, none⟩) 0 l131.length)), (22, .p 2 1)] hW161 hE162 fun a163 hE164 => ?_
      clear hE162
      refine of_op (wpOp_store hW161 hE164 (oi := 2) (cs := [.string (bs s53), .slice (some ⟨b155, 0, none⟩) 0 l131.length, .map none]) (by kernel_rfl) fun w165 hF166 hW167 hE168 => ?_)
      clear hE164 hW161
      refine wpOps_nil ?_
      refine then_normal ?_
      refine go_seq_region [0, 1, 2, 3, 4] (by kernel_rfl) ?_
      refine go_rn [0] [1, 2, 3, 4] [(1, .p 0 0), (2, .p 1 0), (3, .p 2 0), (23, .v (.agg #[.int .i64 n1, .slice A6 s2.length c7, .bool b3, .slice A8 l4.length c9, .slice A10 u5.length c11]))] hW167 hE168 fun a169 hE170 => ?_
      clear hE168
      refine of_op (wpOp_call hE170 (f := 73) (vs := [.agg #[.int .i64 n1, .slice A6 s2.length c7, .bool b3, .slice A8 l4.length c9, .slice A10 u5.length c11], .int .i64 1]) (d := 24) (by kernel_rfl) Tryz.call73 (iAt _ _ 1 _ _ (ht.move hW167.step nilM hW167.imm)) ?_)
      rintro e_ w174 ⟨cs173, rfl, hr172, hs171⟩
      have hr175 := hr172.move hs171 nilM (fun b o h_ hb_ => hW167.laid (G := F) hs171 b o (.inl h_) (Nat.lt_of_lt_of_le hb_ hs171.size))
      obtain ⟨n176, s177, b178, l179, u180, A181, c182, A183, c184, A185, c186, xs187, ht193, hcs188, h189, h190, h191, h192⟩ := hr175.open_
      rw [hcs188] at hr175
      have hsm194 := h189.small
      have hsm195 := h190.small
      rw [hcs188]
      refine ⟨_, rfl, fun a196 hE197 => ?_⟩
      have hW198 := hW167.next_nil hs171
      have hF199 := hW167.frN hs171
      clear hE170
      have hl3_ : lst (Tree.at_ (Tree.mk n1 s2 b3 l4 u5) 1) = l179 := by rw [lst_of hnull_, ht193]; rfl
      have hb200 : l179.length ≤ 1000000 := by have h_ := cj1; rw [hl3_] at h_; exact h_
      refine go_rn [2, 3, 4] [] [(1, .p 0 0), (2, .p 1 0), (3, .p 2 0), (25, .v (.slice A183 l179.length c184)), (26, .v (.int .i64 ((l179.length : Nat) : Int))), (27, .v (.int .i64 0))] hW198 hE197 fun a201 hE202 => ?_
      clear hE197
      refine wpOps_nil ?_
      refine then_normal ?_
      refine wp_block ?_
      refine wp_loop_ghost (fun n_ a_ w_ => ∃ (k : Nat) (A_ : Option Addr) (c_ : Nat) (xs_ : List Value) (ds_ : List DV), n_ = l179.length - k ∧ k ≤ l179.length ∧ (A_.isNone = false) ∧ (RowL w_ (Imm F w w_ [⟨b21, 0, [.int .i64 n1, .slice A6 s2.length c7, .bool b3, .slice A8 l4.length c9, .slice A10 u5.length c11], true⟩, ⟨b29, 0, [.string ByteArray.empty, .slice none 0 0, .map none], true⟩, ⟨b37, 0, [.string (bs s53), .slice A_ k c_, .map none], true⟩] [⟨A_, c_, 21, 1, k, xs_⟩]) 1 (fun d => [.int .i32 d.n]) okNone (fun d t => d.n = IntKind.i32.wrap t.N) xs_ ds_ (l179.take k)) ∧ LInv hW198 55 [⟨b21, 0, [.int .i64 n1, .slice A6 s2.length c7, .bool b3, .slice A8 l4.length c9, .slice A10 u5.length c11], true⟩, ⟨b29, 0, [.string ByteArray.empty, .slice none 0 0, .map none], true⟩, ⟨b37, 0, [.string (bs s53), .slice A_ k c_, .map none], true⟩] [⟨A_, c_, 21, 1, k, xs_⟩] [(1, .p 0 0), (2, .p 1 0), (3, .p 2 0), (25, .v (.slice A183 l179.length c184)), (26, .v (.int .i64 ((l179.length : Nat) : Int))), (27, .v (.int .i64 ((k : Nat) : Int)))] a_ w_) (l179.length) ⟨0, (some ⟨b155, 0, none⟩), l131.length, [], [], by omega, by omega, rfl, RowL.nil mvNone, hE202.pk, hW198, Fr.refl _ _ _⟩ ?_
      clear hE202
      rintro n203 a204 w205 ⟨k, A_, c_, xs_, ds_, hn208, hk209, hA, hR, hE206, hW207, hF210⟩
      refine go_sp [(1, .p 0 0), (2, .p 1 0), (3, .p 2 0), (25, .v (.slice A183 l179.length c184)), (26, .v (.int .i64 ((l179.length : Nat) : Int))), (27, .v (.int .i64 ((k : Nat) : Int))), (28, .v (.bool (decide (((k : Nat) : Int) < ((l179.length : Nat) : Int)))))] hW207 hE206 fun a211 hE212 => ?_
      clear hE206
      refine wp_seq ?_
      refine cond_of hE212 (b := decide (((k : Nat) : Int) < ((l179.length : Nat) : Int))) (by kernel_rfl) (fun hc213 => ?_) (fun hc213 => ?_)
      ·
        have hf214 := of_decide_eq_true hc213
        refine wp_skip ?_
        refine then_normal ?_
        refine wp_seq ?_
        refine wp_block ?_
        refine go_seq_region [0, 1, 2, 3] (by kernel_rfl) ?_
        obtain ⟨b215, o216, hA217, hl218, hat219⟩ := Slots.get h190 (i := k) (by omega)
        obtain ⟨x220, he221⟩ : ∃ x, l179[k]? = some x := ⟨_, List.getElem?_eq_getElem (by omega)⟩
        have hr222 := h191 k x220 he221
        obtain ⟨n223, s224, b225, l226, u227, A228, c229, A230, c231, A232, c233, xs234, rfl, hcs235, h236, h237, h238, h239⟩ := hr222.open_
        rw [hcs235] at hr222
        have hsm241 := h236.small
        have hsm242 := h237.small
        rw [hcs235] at hat219
        refine of_op (wpOp_index hE212 (t := 36) (A := A183) (m := l179.length) (q := ((k : Nat) : Int)) (d := 29) (by kernel_rfl) (e := 39) (size := 5) (bytes := 88) (by kernel_rfl) hA217 rfl (by omega) fun a243 hE244 => ?_)
        clear hE212
        refine of_op (wpOp_load hE244 (t := 39) (b := b215) (o := o216 + k * 5) (d := 30) (by kernel_rfl) (cs := [.int .i64 n223, .slice A228 s224.length c229, .bool b225, .slice A230 l226.length c231, .slice A232 u227.length c233]) (v := .agg #[.int .i64 n223, .slice A228 s224.length c229, .bool b225, .slice A230 l226.length c231, .slice A232 u227.length c233]) (by kernel_rfl) (AtF.move hat219 hF210.step immM hF210.to').at_ fun a245 hE246 => ?_)
        clear hE244
        refine of_op (wpOp_alloc hW207 hE246 (d := 5) (cs := [.int .i64 0, .slice none 0 0, .bool false, .slice none 0 0, .slice none 0 0]) (by kernel_rfl) fun b247 a248 w249 hb250 hz251 hF252 hW253 hE254 => ?_)
        clear hE246 hW207
        refine of_op (wpOp_store hW253 hE254 (oi := 3) (cs := [.int .i64 n223, .slice A228 s224.length c229, .bool b225, .slice A230 l226.length c231, .slice A232 u227.length c233]) (by kernel_rfl) fun w255 hF256 hW257 hE258 => ?_)
        clear hE254 hW253
        refine wpOps_nil ?_
        refine then_normal ?_
        refine go_region [0, 1, 2, 3, 4, 5, 6, 7, 8] (by kernel_rfl) ?_
        refine go_rn [0, 1, 2, 3, 4] [5, 6, 7, 8] [(1, .p 0 0), (2, .p 1 0), (3, .p 2 0), (25, .v (.slice A183 l179.length c184)), (26, .v (.int .i64 ((l179.length : Nat) : Int))), (27, .v (.int .i64 ((k : Nat) : Int))), (32, .v (.slice A_ k c_)), (35, .v (.int .i32 (IntKind.i32.wrap n223)))] hW257 hE258 fun a259 hE260 => ?_
        clear hE258
        refine wpOps_push hW257 hE260 (k := 0) (e := 21) (size := 1) (len := 1) (cs := [.int .i32 (IntKind.i32.wrap n223)]) (d1 := 36) (d := 37) (by kernel_rfl) (t := 143) (bytes := 4) (by kernel_rfl) (fun _ => by kernel_rfl) rfl (by kernel_rfl) (by omega) fun A261 c262 a263 w264 hF265 hW266 ⟨_, hE267⟩ => ?_
        clear hE260 hW257
        refine go_rn [7] [8] [(1, .p 0 0), (2, .p 1 0), (3, .p 2 0), (25, .v (.slice A183 l179.length c184)), (26, .v (.int .i64 ((l179.length : Nat) : Int))), (27, .v (.int .i64 ((k : Nat) : Int))), (37, .v (.slice A261 (k + 1) c262)), (38, .p 2 1)] hW266 hE267 fun a268 hE269 => ?_
        clear hE267
        refine of_op (wpOp_store hW266 hE269 (oi := 2) (cs := [.string (bs s53), .slice A261 (k + 1) c262, .map none]) (by kernel_rfl) fun w270 hF271 hW272 hE273 => ?_)
        clear hE269 hW266
        refine wpOps_nil ?_
        refine block_normal ?_
        refine then_normal ?_
        refine go_region [0, 1] (by kernel_rfl) ?_
        refine go_rn [0, 1] [] [(1, .p 0 0), (2, .p 1 0), (3, .p 2 0), (25, .v (.slice A183 l179.length c184)), (26, .v (.int .i64 ((l179.length : Nat) : Int))), (27, .v (.int .i64 (IntKind.i64.wrap (((k : Nat) : Int) + 1))))] hW272 hE273 fun a274 hE275 => ?_
        clear hE273
        refine wpOps_nil ?_
        refine then_normal ?_
        obtain ⟨hE276, hW277, hF278⟩ := hW272.cutB hE275 3 [⟨b21, 0, [.int .i64 n1, .slice A6 s2.length c7, .bool b3, .slice A8 l4.length c9, .slice A10 u5.length c11], true⟩, ⟨b29, 0, [.string ByteArray.empty, .slice none 0 0, .map none], true⟩, ⟨b37, 0, [.string (bs s53), .slice A261 (k + 1) c262, .map none], true⟩] [(1, .p 0 0), (2, .p 1 0), (3, .p 2 0), (25, .v (.slice A183 l179.length c184)), (26, .v (.int .i64 ((l179.length : Nat) : Int))), (27, .v (.int .i64 (IntKind.i64.wrap (((k : Nat) : Int) + 1))))]
        have he279 : IntKind.i64.wrap (((k : Nat) : Int) + 1) = ((k + 1 : Nat) : Int) := wrap_succ (by omega)
        rw [he279] at hE276
        exact ⟨l179.length - (k + 1), by omega, k + 1, A261, c262, xs_ ++ [Value.int .i32 (IntKind.i32.wrap n223)], (ds_ ++ [(dvN (IntKind.i32.wrap n223))]), rfl, by omega, own_some hW277 (k := 0) rfl (by omega), RowL.snoc (d := (dvN (IntKind.i32.wrap n223))) (hR.move (Fr.trans (Fr.trans (Fr.trans (Fr.trans hF252 hF256) hF265) hF271) hF278).step immM (Fr.trans (Fr.trans (Fr.trans (Fr.trans hF252 hF256) hF265) hF271) hF278).to') he221 rfl trivial rfl, hE276.pk, hW277, (Fr.trans (Fr.trans (Fr.trans (Fr.trans (Fr.trans hF210 hF252) hF256) hF265) hF271) hF278)⟩
      ·
        have hf280 := of_decide_eq_false hc213
        refine wp_exit ?_
        refine then_exit ?_
        refine then_exit ?_
        refine block_exit ?_
        refine then_normal ?_
        have hk_ : k = (lst (Tree.at_ (Tree.mk n1 s2 b3 l4 u5) 1)).length := by rw [hl3_]; omega
        subst k
        have hL_ := LstR.of hW207 (k := 0) (rs' := []) rfl hR (by rw [hl3_]) (fun d => allOne_ok (by kernel_rfl)) (by omega)
        rw [← hl3_] at hL_
        obtain ⟨hW281, hF282⟩ := hW207.cutR 0 []
        exact ⟨_, _, _, by rw [hnull_]; exact hA, hL_, hE212.pk, hW281, (Fr.trans (Fr.trans (Fr.trans (Fr.trans (Fr.trans hF151 hF160) hF166) hF199) hF210) hF282)⟩
    ·
      refine wp_skip ?_
      refine then_normal ?_
      have hn_ : Tree.null (Tree.at_ (Tree.mk n1 s2 b3 l4 u5) 1) = true := by rw [ht110]; show b95 = true; simpa using hc119
      have hl_ := lst_no hn_
      exact ⟨none, 0, fun _ => dv0, by rw [hn_]; rfl, by rw [hl_]; exact LstR.nil mvNone, by rw [hl_]; exact ⟨hE118.pk, hW115, Fr.refl _ _ _⟩⟩
  rintro a292 w293 ⟨A284, c285, f286, hn287, hL288, hE289, hW290, hF291⟩
  refine wp_seq ?_
  refine go_sp [(2, .p 1 0), (3, .p 2 0), (41, .v (.slice A10 u5.length c11)), (42, .v (.int .i64 ((u5.length : Nat) : Int))), (43, .v (.int .i64 0))] hW290 hE289 fun a294 hE295 => ?_
  clear hE289
  refine wp_block ?_
  have hp296 := new_of hW290 2 rfl (by kernel_rfl)
  have hE300 := hE295.recast 2 (.p 1 0) (.v (.pointer (some ⟨b29, 0, none⟩))) rfl rfl trivial
  have hE301 := hE300.recast 3 (.p 2 0) (.v (.pointer (some ⟨b37, 0, none⟩))) rfl rfl trivial
  have hE298 := (hE301.pick (ks := [2, 3, 41, 42, 43]) (env' := [(2, .v (.pointer (some ⟨b29, 0, none⟩))), (3, .v (.pointer (some ⟨b37, 0, none⟩))), (41, .v (.slice A10 u5.length c11)), (42, .v (.int .i64 ((u5.length : Nat) : Int))), (43, .v (.int .i64 0))]) (by kernel_rfl)).cutTb 0 (by kernel_rfl)
  refine wp_loop_ghost (fun q a_ w_ => ∃ (j : Nat) (m_ : Option Nat), q = u5.length - j ∧ j ≤ u5.length ∧ EnvOk 55 [] [(2, .v (.pointer (some ⟨b29, 0, none⟩))), (3, .v (.pointer (some ⟨b37, 0, none⟩))), (41, .v (.slice A10 u5.length c11)), (42, .v (.int .i64 ((u5.length : Nat) : Int))), (43, .v (.int .i64 ((j : Nat) : Int)))] a_ ∧ TL w w293 w_ F b37 2 [.string (bs s53), .slice A284 ((lst (Tree.at_ (Tree.mk n1 s2 b3 l4 u5) 1)).length) c285, .map none] m_ (u5.take j)) u5.length
    ⟨0, none, by omega, by omega, hE298, TL.start hW290 2 rfl rfl⟩ ?_
  rintro q aq wq ⟨j, m_, rfl, hj, hE2, hT⟩
  have hWq := WOk.start wq Nil
  refine go_sp [(2, .v (.pointer (some ⟨b29, 0, none⟩))), (3, .v (.pointer (some ⟨b37, 0, none⟩))), (41, .v (.slice A10 u5.length c11)), (42, .v (.int .i64 ((u5.length : Nat) : Int))), (43, .v (.int .i64 ((j : Nat) : Int))), (44, .v (.bool (decide (((j : Nat) : Int) < ((u5.length : Nat) : Int)))))] hWq hE2 fun aq2 hE3 => wp_seq ?_
  refine cond_of hE3 (b := decide (((j : Nat) : Int) < ((u5.length : Nat) : Int))) (by kernel_rfl) (fun hc => ?_) (fun hc => ?_)
  · have hlt : j < u5.length := by have := of_decide_eq_true hc; omega
    refine wp_skip (then_normal (wp_seq (wp_block ?_)))
    obtain ⟨⟨k, x⟩, hu⟩ : ∃ y, u5[j]? = some y := ⟨_, List.getElem?_eq_getElem hlt⟩
    obtain ⟨bb, bo, xA, xc, hA, hat, hxo, hk⟩ := tag_at h17 hu
    refine go_seq_region [0, 1, 2, 3] (by kernel_rfl) ?_
    refine of_op (wpOp_index hE3 (t := 37) (e := 64) (size := 2) (bytes := 32) (d := 45) (b := bb) (o := bo) (m := u5.length) (j := j) (by kernel_rfl) (by kernel_rfl) hA rfl hlt fun aq3 hE4 => ?_)
    refine of_op (wpOp_load hE4 (t := 64) (d := 46) (cs := [.int .u32 k, .slice xA x.length xc]) (v := .agg #[.int .u32 k, .slice xA x.length xc]) (by kernel_rfl) (by kernel_rfl) (hat.step_nil hT.step) fun aq4 hE5 => ?_)
    refine of_op (wpOp_alloc hWq hE5 (d := 7) (cs := [.int .u32 0, .slice none 0 0]) (by kernel_rfl) fun bx aq5 wq2 hbx hbx0 hFq2 hWq2 hE6 => ?_)
    refine of_op (wpOp_store hWq2 hE6 (oi := 0) (cs := [.int .u32 k, .slice xA x.length xc]) (by kernel_rfl) fun wq3 hFq3 hWq3 hE7 => wpOps_nil (then_normal ?_))
    refine go_region [0, 1, 2, 3, 4, 5] (by kernel_rfl) (go_rn [0, 1, 2, 3, 4] [5] [(2, .v (.pointer (some ⟨b29, 0, none⟩))), (3, .v (.pointer (some ⟨b37, 0, none⟩))), (41, .v (.slice A10 u5.length c11)), (42, .v (.int .i64 ((u5.length : Nat) : Int))), (43, .v (.int .i64 ((j : Nat) : Int))), (47, .v (.pointer (some ⟨b37, 2, none⟩))), (49, .v (.int .u32 k)), (51, .v (.slice xA x.length xc))] hWq3 hE7 fun aq6 hE8 => ?_)
    refine of_op (wpOp_call hE8 (f := 75) (vs := [.pointer (some ⟨b37, 2, none⟩), .int .u32 k, .slice xA x.length xc]) (d := 52) (by kernel_rfl) Tryz.call75 ((hT.move hWq3.step).set hp296 (by kernel_rfl) hsort hu hxo hk) ?_)
    rintro e_ wq5 ⟨rfl, hS5, r, hT5⟩
    refine ⟨_, rfl, fun aq7 hE9 => wpOps_nil (block_normal (then_normal ?_))⟩
    have hE10 := (hE9.pick (ks := [2, 3, 41, 42, 43]) (env' := [(2, .v (.pointer (some ⟨b29, 0, none⟩))), (3, .v (.pointer (some ⟨b37, 0, none⟩))), (41, .v (.slice A10 u5.length c11)), (42, .v (.int .i64 ((u5.length : Nat) : Int))), (43, .v (.int .i64 ((j : Nat) : Int)))]) (by kernel_rfl)).cutTb 0 (by kernel_rfl)
    refine go_region [0, 1] (by kernel_rfl) (go_rn [0, 1] [] [(2, .v (.pointer (some ⟨b29, 0, none⟩))), (3, .v (.pointer (some ⟨b37, 0, none⟩))), (41, .v (.slice A10 u5.length c11)), (42, .v (.int .i64 ((u5.length : Nat) : Int))), (43, .v (.int .i64 (IntKind.i64.wrap (((j : Nat) : Int) + 1))))] (WOk.start wq5 Nil) hE10 fun aq8 hE11 => wpOps_nil (then_normal ?_))
    rw [wrap_succ (by omega)] at hE11
    exact ⟨u5.length - (j + 1), by omega, j + 1, some r, rfl, by omega, hE11, hT5⟩
  · obtain rfl : j = u5.length := by have := of_decide_eq_false hc; omega
    refine wp_exit (then_exit (then_exit (block_exit ?_)))
    rw [List.take_length] at hT
    obtain ⟨hW302, hF303⟩ := hT.tab hW290 2 [⟨b21, 0, [.int .i64 n1, .slice A6 s2.length c7, .bool b3, .slice A8 l4.length c9, .slice A10 u5.length c11], true⟩, ⟨b29, 0, [.string ByteArray.empty, .slice none 0 0, .map none], true⟩, ⟨b37, 0, [.string (bs s53), .slice A284 ((lst (Tree.at_ (Tree.mk n1 s2 b3 l4 u5) 1)).length) c285, .map m_], true⟩] rfl
    have hM304 := hT.mapImm hW290 hW302 hF303 hsort (tags_range h17)
    have hE305 := (hE3.retable [⟨b21, 0, [.int .i64 n1, .slice A6 s2.length c7, .bool b3, .slice A8 l4.length c9, .slice A10 u5.length c11], true⟩, ⟨b29, 0, [.string ByteArray.empty, .slice none 0 0, .map none], true⟩, ⟨b37, 0, [.string (bs s53), .slice A284 ((lst (Tree.at_ (Tree.mk n1 s2 b3 l4 u5) 1)).length) c285, .map m_], true⟩]).recast 2 (.v (.pointer (some ⟨b29, 0, none⟩))) (.p 1 0) rfl rfl (Nat.le_of_ble_eq_true (n := 2) rfl)
    have hE306 := hE305.recast 3 (.v (.pointer (some ⟨b37, 0, none⟩))) (.p 2 0) rfl rfl (Nat.le_of_ble_eq_true (n := 3) rfl)
    have hE307 : EnvOk 55 [⟨b21, 0, [.int .i64 n1, .slice A6 s2.length c7, .bool b3, .slice A8 l4.length c9, .slice A10 u5.length c11], true⟩, ⟨b29, 0, [.string ByteArray.empty, .slice none 0 0, .map none], true⟩, ⟨b37, 0, [.string (bs s53), .slice A284 ((lst (Tree.at_ (Tree.mk n1 s2 b3 l4 u5) 1)).length) c285, .map m_], true⟩] [(2, .p 1 0), (3, .p 2 0)] _ := hE306.pk
    refine then_normal ?_
    refine go_seq_region [0, 1] (by kernel_rfl) ?_
    refine go_rn [0] [1] [(2, .p 1 0), (54, .v (.agg #[.string (bs s53), .slice A284 ((lst (Tree.at_ (Tree.mk n1 s2 b3 l4 u5) 1)).length) c285, .map m_]))] hW302 hE307 fun a308 hE309 => ?_
    clear hE307
    refine of_op (wpOp_store hW302 hE309 (oi := 1) (cs := [.string (bs s53), .slice A284 ((lst (Tree.at_ (Tree.mk n1 s2 b3 l4 u5) 1)).length) c285, .map m_]) (by kernel_rfl) fun w310 hF311 hW312 hE313 => ?_)
    clear hE309 hW302
    refine wpOps_nil ?_
    refine then_normal ?_
    refine wp_ret ?_
    refine leave hE313 hW312.cells (v := .agg #[.string (bs s53), .slice A284 ((lst (Tree.at_ (Tree.mk n1 s2 b3 l4 u5) 1)).length) c285, .map m_]) (by kernel_rfl) ?_
    refine ⟨dvP m_ u5 [dvS (bs s53), dvL A284 (lst (Tree.at_ (Tree.mk n1 s2 b3 l4 u5) 1)).length c285 f286], rfl, ?_, ?_, hW312.step⟩
    · unfold okOffsetFetchRequestTopic
      exact ⟨by show ByteArray.size (bs s53) ≤ 1000000; rw [bs_size]; have h_ := cj0; rw [ht69] at h_; exact h_, ⟨((hL288.move (Fr.trans hF303 hF311).step immM (Fr.trans hF303 hF311).to').move (Step.refl _ Nil) nilM immOut).slots, cj1, fun _ _ => trivial⟩, ((hM304.move hF311.step immM hF311.to').move (Step.refl _ Nil) nilM immOut), cU.2.1, cU.2.2, trivial⟩
    · unfold relOffsetFetchRequestTopic
      exact ⟨by rw [ht69]; rfl, ⟨hn287, rfl, hL288.rel_⟩, rfl, trivial⟩

set_option maxHeartbeats 4000000 in
theorem eOffsetFetchRequestGroupTopic (ct : List Value) (t : Tree) (w : World) (F : Nat → Nat → Prop) (ht : TreeR w F ct t) (hc : canOffsetFetchRequestGroupTopic t) :
    Calls Tryz.prog 136 #[.agg ct.toArray] w (fun e w' => ∃ D : DV, e = .returned (.agg #[.string ((D.f 0).s), byteCell ((D.f 1).o.getD 0 0), byteCell ((D.f 1).o.getD 1 0), byteCell ((D.f 1).o.getD 2 0), byteCell ((D.f 1).o.getD 3 0), byteCell ((D.f 1).o.getD 4 0), byteCell ((D.f 1).o.getD 5 0), byteCell ((D.f 1).o.getD 6 0), byteCell ((D.f 1).o.getD 7 0), byteCell ((D.f 1).o.getD 8 0), byteCell ((D.f 1).o.getD 9 0), byteCell ((D.f 1).o.getD 10 0), byteCell ((D.f 1).o.getD 11 0), byteCell ((D.f 1).o.getD 12 0), byteCell ((D.f 1).o.getD 13 0), byteCell ((D.f 1).o.getD 14 0), byteCell ((D.f 1).o.getD 15 0), .slice ((D.f 2).A) ((D.f 2).l) ((D.f 2).c), .map D.m]) ∧ okOffsetFetchRequestGroupTopic w' (Fp F w) D ∧ relOffsetFetchRequestGroupTopic D t ∧ Step w w' Nil) := by
  obtain ⟨n1, s2, b3, l4, u5, A6, c7, A8, c9, A10, c11, xs12, rfl, rfl, h14, h15, h16, h17⟩ := ht.open_
  have hsm19 := h14.small
  have hsm20 := h15.small
  unfold canOffsetFetchRequestGroupTopic at hc
  obtain ⟨cj0, cj1, cj2, cU, _⟩ := hc
  have hsort := cU.1
  replace hsort : Sorted u5 := hsort
  have hul : u5.length ≤ 1000000 := cU.2.1
  refine enter (n := 60) Tryz.func136 rfl Tryz.ntmps136 (by kernel_rfl) fun a hE => ?_
  have hW := WOk.start w Nil
  refine go_seq_region [0, 1] (by kernel_rfl) ?_
  refine of_op (wpOp_box hW hE (d := 1) (cs := [.int .i64 n1, .slice A6 s2.length c7, .bool b3, .slice A8 l4.length c9, .slice A10 u5.length c11]) (by kernel_rfl) fun b21 a22 w23 hb24 hz25 hF26 hW27 hE28 => ?_)
  clear hE hW
  refine of_op (wpOp_alloc hW27 hE28 (d := 2) (cs := [.string ByteArray.empty, .int .u8 0, .int .u8 0, .int .u8 0, .int .u8 0, .int .u8 0, .int .u8 0, .int .u8 0, .int .u8 0, .int .u8 0, .int .u8 0, .int .u8 0, .int .u8 0, .int .u8 0, .int .u8 0, .int .u8 0, .int .u8 0, .slice none 0 0, .map none]) (by kernel_rfl) fun b29 a30 w31 hb32 hz33 hF34 hW35 hE36 => ?_)
  clear hE28 hW27
  refine wpOps_nil ?_
  refine then_normal ?_
  refine go_seq_region [0] (by kernel_rfl) ?_
  refine of_op (wpOp_alloc hW35 hE36 (d := 3) (cs := [.string ByteArray.empty, .int .u8 0, .int .u8 0, .int .u8 0, .int .u8 0, .int .u8 0, .int .u8 0, .int .u8 0, .int .u8 0, .int .u8 0, .int .u8 0, .int .u8 0, .int .u8 0, .int .u8 0, .int .u8 0, .int .u8 0, .int .u8 0, .slice none 0 0, .map none]) (by kernel_rfl) fun b37 a38 w39 hb40 hz41 hF42 hW43 hE44 => ?_)
  clear hE36 hW35
  refine wpOps_nil ?_
  refine then_normal ?_
  refine go_seq_region [0, 1, 2, 3, 4, 5] (by kernel_rfl) ?_
  refine go_rn [0] [1, 2, 3, 4, 5] [(1, .p 0 0), (2, .p 1 0), (3, .p 2 0), (8, .v (.agg #[.int .i64 n1, .slice A6 s2.length c7, .bool b3, .slice A8 l4.length c9, .slice A10 u5.length c11]))] hW43 hE44 fun a45 hE46 => ?_
  clear hE44
  refine of_op (wpOp_call hE46 (f := 73) (vs := [.agg #[.int .i64 n1, .slice A6 s2.length c7, .bool b3, .slice A8 l4.length c9, .slice A10 u5.length c11], .int .i64 0]) (d := 9) (by kernel_rfl) Tryz.call73 (iAt _ _ 0 _ _ (ht.move hW43.step nilM hW43.imm)) ?_)
  rintro e_ w50 ⟨cs49, rfl, hr48, hs47⟩
  have hr51 := hr48.move hs47 nilM (fun b o h_ hb_ => hW43.laid (G := F) hs47 b o (.inl h_) (Nat.lt_of_lt_of_le hb_ hs47.size))
  obtain ⟨n52, s53, b54, l55, u56, A57, c58, A59, c60, A61, c62, xs63, ht69, hcs64, h65, h66, h67, h68⟩ := hr51.open_
  rw [hcs64] at hr51
  have hsm70 := h65.small
  have hsm71 := h66.small
  rw [hcs64]
  refine ⟨_, rfl, fun a72 hE73 => ?_⟩
  have hW74 := hW43.next_nil hs47
  have hF75 := hW43.frN hs47
  clear hE46
  refine go_rn [2] [3, 4, 5] [(1, .p 0 0), (2, .p 1 0), (3, .p 2 0), (10, .v (.slice A57 s53.length c58))] hW74 hE73 fun a76 hE77 => ?_
  clear hE73
  refine of_op (wpOp_conv hE77 (src := 22) (dst := 9) (e := 5) (d := 11) (by kernel_rfl) (by kernel_rfl) (by kernel_rfl) (by kernel_rfl) h65 fun a78 hE79 => ?_)
  clear hE77
  refine go_rn [4] [5] [(1, .p 0 0), (2, .p 1 0), (3, .p 2 0), (11, .v (.string (bs s53))), (12, .p 2 0)] hW74 hE79 fun a80 hE81 => ?_
  clear hE79
  refine of_op (wpOp_store hW74 hE81 (oi := 2) (cs := [.string (bs s53), .int .u8 0, .int .u8 0, .int .u8 0, .int .u8 0, .int .u8 0, .int .u8 0, .int .u8 0, .int .u8 0, .int .u8 0, .int .u8 0, .int .u8 0, .int .u8 0, .int .u8 0, .int .u8 0, .int .u8 0, .int .u8 0, .slice none 0 0, .map none]) (by kernel_rfl) fun w82 hF83 hW84 hE85 => ?_)
  clear hE81 hW74
  refine wpOps_nil ?_
  refine then_normal ?_
  refine go_seq_region [0, 1, 2, 3, 4, 5] (by kernel_rfl) ?_
  refine go_rn [0] [1, 2, 3, 4, 5] [(1, .p 0 0), (2, .p 1 0), (3, .p 2 0), (13, .v (.agg #[.int .i64 n1, .slice A6 s2.length c7, .bool b3, .slice A8 l4.length c9, .slice A10 u5.length c11]))] hW84 hE85 fun a86 hE87 => ?_
  clear hE85
  refine of_op (wpOp_call hE87 (f := 73) (vs := [.agg #[.int .i64 n1, .slice A6 s2.length c7, .bool b3, .slice A8 l4.length c9, .slice A10 u5.length c11], .int .i64 1]) (d := 14) (by kernel_rfl) Tryz.call73 (iAt _ _ 1 _ _ (ht.move hW84.step nilM hW84.imm)) ?_)
  rintro e_ w91 ⟨cs90, rfl, hr89, hs88⟩
  have hr92 := hr89.move hs88 nilM (fun b o h_ hb_ => hW84.laid (G := F) hs88 b o (.inl h_) (Nat.lt_of_lt_of_le hb_ hs88.size))
  obtain ⟨n93, s94, b95, l96, u97, A98, c99, A100, c101, A102, c103, xs104, ht110, hcs105, h106, h107, h108, h109⟩ := hr92.open_
  rw [hcs105] at hr92
  have hsm111 := h106.small
  have hsm112 := h107.small
  rw [hcs105]
  refine ⟨_, rfl, fun a113 hE114 => ?_⟩
  have hW115 := hW84.next_nil hs88
  have hF116 := hW84.frN hs88
  clear hE87
  refine go_rn [2] [3, 4, 5] [(1, .p 0 0), (2, .p 1 0), (3, .p 2 0), (15, .v (.slice A98 s94.length c99))] hW115 hE114 fun a117 hE118 => ?_
  clear hE114
  refine of_op (wpOp_call hE118 (f := 137) (vs := [.slice A98 s94.length c99]) (d := 16) (by kernel_rfl) Tryz.call137 (kSixteen _ _ s94 _ _ h106) ?_)
  rintro e_ w120 ⟨rfl, hs119⟩
  refine ⟨_, rfl, fun a121 hE122 => ?_⟩
  have hW123 := hW115.next_nil hs119
  have hF124 := hW115.frN hs119
  clear hE118 hW115
  refine go_rn [4] [5] [(1, .p 0 0), (2, .p 1 0), (3, .p 2 0), (16, .v (.agg #[byteCell (s94.getD 0 0), byteCell (s94.getD 1 0), byteCell (s94.getD 2 0), byteCell (s94.getD 3 0), byteCell (s94.getD 4 0), byteCell (s94.getD 5 0), byteCell (s94.getD 6 0), byteCell (s94.getD 7 0), byteCell (s94.getD 8 0), byteCell (s94.getD 9 0), byteCell (s94.getD 10 0), byteCell (s94.getD 11 0), byteCell (s94.getD 12 0), byteCell (s94.getD 13 0), byteCell (s94.getD 14 0), byteCell (s94.getD 15 0)])), (17, .p 2 1)] hW123 hE122 fun a125 hE126 => ?_
  clear hE122
  refine of_op (wpOp_store hW123 hE126 (oi := 2) (cs := [.string (bs s53), byteCell (s94.getD 0 0), byteCell (s94.getD 1 0), byteCell (s94.getD 2 0), byteCell (s94.getD 3 0), byteCell (s94.getD 4 0), byteCell (s94.getD 5 0), byteCell (s94.getD 6 0), byteCell (s94.getD 7 0), byteCell (s94.getD 8 0), byteCell (s94.getD 9 0), byteCell (s94.getD 10 0), byteCell (s94.getD 11 0), byteCell (s94.getD 12 0), byteCell (s94.getD 13 0), byteCell (s94.getD 14 0), byteCell (s94.getD 15 0), .slice none 0 0, .map none]) (by kernel_rfl) fun w127 hF128 hW129 hE130 => ?_)
  clear hE126 hW123
  refine wpOps_nil ?_
  refine then_normal ?_
  refine wp_seq ?_
  refine go_seq_region [0, 1, 2, 3] (by kernel_rfl) ?_
  refine go_rn [0] [1, 2, 3] [(1, .p 0 0), (2, .p 1 0), (3, .p 2 0), (18, .v (.agg #[.int .i64 n1, .slice A6 s2.length c7, .bool b3, .slice A8 l4.length c9, .slice A10 u5.length c11]))] hW129 hE130 fun a131 hE132 => ?_
  clear hE130
  refine of_op (wpOp_call hE132 (f := 73) (vs := [.agg #[.int .i64 n1, .slice A6 s2.length c7, .bool b3, .slice A8 l4.length c9, .slice A10 u5.length c11], .int .i64 2]) (d := 19) (by kernel_rfl) Tryz.call73 (iAt _ _ 2 _ _ (ht.move hW129.step nilM hW129.imm)) ?_)
  rintro e_ w136 ⟨cs135, rfl, hr134, hs133⟩
  have hr137 := hr134.move hs133 nilM (fun b o h_ hb_ => hW129.laid (G := F) hs133 b o (.inl h_) (Nat.lt_of_lt_of_le hb_ hs133.size))
  obtain ⟨n138, s139, b140, l141, u142, A143, c144, A145, c146, A147, c148, xs149, ht155, hcs150, h151, h152, h153, h154⟩ := hr137.open_
  rw [hcs150] at hr137
  have hsm156 := h151.small
  have hsm157 := h152.small
  rw [hcs150]
  refine ⟨_, rfl, fun a158 hE159 => ?_⟩
  have hW160 := hW129.next_nil hs133
  have hF161 := hW129.frN hs133
  clear hE132
  refine go_rn [2, 3] [] [(1, .p 0 0), (2, .p 1 0), (3, .p 2 0), (21, .v (.bool (!b140)))] hW160 hE159 fun a162 hE163 => ?_
  clear hE159
  refine wpOps_nil ?_
  refine then_normal ?_
  refine wp_join (Mid := fun a_ w_ => ∃ (A_ : Option Addr) (c_ : Nat) (f_ : Nat → DV), A_.isNone = Tree.null (Tree.at_ (Tree.mk n1 s2 b3 l4 u5) 2) ∧ LstR w_ (Imm F w w_ [⟨b21, 0, [.int .i64 n1, .slice A6 s2.length c7, .bool b3, .slice A8 l4.length c9, .slice A10 u5.length c11], true⟩, ⟨b29, 0, [.string ByteArray.empty, .int .u8 0, .int .u8 0, .int .u8 0, .int .u8 0, .int .u8 0, .int .u8 0, .int .u8 0, .int .u8 0, .int .u8 0, .int .u8 0, .int .u8 0, .int .u8 0, .int .u8 0, .int .u8 0, .int .u8 0, .int .u8 0, .slice none 0 0, .map none], true⟩, ⟨b37, 0, [.string (bs s53), byteCell (s94.getD 0 0), byteCell (s94.getD 1 0), byteCell (s94.getD 2 0), byteCell (s94.getD 3 0), byteCell (s94.getD 4 0), byteCell (s94.getD 5 0), byteCell (s94.getD 6 0), byteCell (s94.getD 7 0), byteCell (s94.getD 8 0), byteCell (s94.getD 9 0), byteCell (s94.getD 10 0), byteCell (s94.getD 11 0), byteCell (s94.getD 12 0), byteCell (s94.getD 13 0), byteCell (s94.getD 14 0), byteCell (s94.getD 15 0), .slice A_ ((lst (Tree.at_ (Tree.mk n1 s2 b3 l4 u5) 2)).length) c_, .map none], true⟩] []) 1 (fun d => [.int .i32 d.n]) okNone (fun d t => d.n = IntKind.i32.wrap t.N) A_ c_ f_ (lst (Tree.at_ (Tree.mk n1 s2 b3 l4 u5) 2)) ∧ LInv hW160 60 [⟨b21, 0, [.int .i64 n1, .slice A6 s2.length c7, .bool b3, .slice A8 l4.length c9, .slice A10 u5.length c11], true⟩, ⟨b29, 0, [.string ByteArray.empty, .int .u8 0, .int .u8 0, .int .u8 0, .int .u8 0, .int .u8 0, .int .u8 0, .int .u8 0, .int .u8 0, .int .u8 0, .int .u8 0, .int .u8 0, .int .u8 0, .int .u8 0, .int .u8 0, .int .u8 0, .int .u8 0, .slice none 0 0, .map none], true⟩, ⟨b37, 0, [.string (bs s53), byteCell (s94.getD 0 0), byteCell (s94.getD 1 0), byteCell (s94.getD 2 0), byteCell (s94.getD 3 0), byteCell (s94.getD 4 0), byteCell (s94.getD 5 0), byteCell (s94.getD 6 0), byteCell (s94.getD 7 0), byteCell (s94.getD 8 0), byteCell (s94.getD 9 0), byteCell (s94.getD 10 0), byteCell (s94.getD 11 0), byteCell (s94.getD 12 0), byteCell (s94.getD 13 0), byteCell (s94.getD 14 0), byteCell (s94.getD 15 0), .slice A_ ((lst (Tree.at_ (Tree.mk n1 s2 b3 l4 u5) 2)).length) c_, .map none], true⟩] [] [(1, .p 0 0), (2, .p 1 0), (3, .p 2 0)] a_ w_) ?_ ?_
  ·
    refine cond_of hE163 (b := !b140) (by kernel_rfl) (fun hc164 => ?_) (fun hc164 => ?_)
    ·
      have hnull_ : Tree.null (Tree.at_ (Tree.mk n1 s2 b3 l4 u5) 2) = false := by rw [ht155]; show b140 = false; simpa using hc164
      refine go_seq_region [0, 1, 2, 3, 4, 5, 6] (by kernel_rfl) ?_
      refine go_rn [0] [1, 2, 3, 4, 5, 6] [(1, .p 0 0), (2, .p 1 0), (3, .p 2 0), (22, .v (.agg #[.int .i64 n1, .slice A6 s2.length c7, .bool b3, .slice A8 l4.length c9, .slice A10 u5.length c11]))] hW160 hE163 fun a166 hE167 => ?_
      clear hE163
      refine of_op (wpOp_call hE167 (f := 73) (vs := [.agg #[.int .i64 n1, .slice A6 s2.length c7, .bool b3, .slice A8 l4.length c9, .slice A10 u5.length c11], .int .i64 2]) (d := 23) (by kernel_rfl) Tryz.call73 (iAt _ _ 2 _ _ (ht.move hW160.step nilM hW160.imm)) ?_)
      rintro e_ w171 ⟨cs170, rfl, hr169, hs168⟩
      have hr172 := hr169.move hs168 nilM (fun b o h_ hb_ => hW160.laid (G := F) hs168 b o (.inl h_) (Nat.lt_of_lt_of_le hb_ hs168.size))
      obtain ⟨n173, s174, b175, l176, u177, A178, c179, A180, c181, A182, c183, xs184, ht190, hcs185, h186, h187, h188, h189⟩ := hr172.open_
      rw [hcs185] at hr172
      have hsm191 := h186.small
      have hsm192 := h187.small
      rw [hcs185]
      refine ⟨_, rfl, fun a193 hE194 => ?_⟩
      have hW195 := hW160.next_nil hs168
      have hF196 := hW160.frN hs168
      clear hE167
      have hl3_ : lst (Tree.at_ (Tree.mk n1 s2 b3 l4 u5) 2) = l176 := by rw [lst_of hnull_, ht190]; rfl
      have hb197 : l176.length ≤ 1000000 := by have h_ := cj2; rw [hl3_] at h_; exact h_
      refine go_rn [2, 3] [4, 5, 6] [(1, .p 0 0), (2, .p 1 0), (3, .p 2 0), (25, .v (.int .i64 ((l176.length : Nat) : Int)))] hW195 hE194 fun a198 hE199 => ?_
      clear hE194
      refine of_op (wpOp_make0 hW195 hE199 (d := 26) (j := l176.length) (t := 143) (e := 21) (size := 1) (bytes := 4) (by kernel_rfl) (by kernel_rfl) rfl (rfl) (by omega) fun b200 a201 w202 hb203 hz204 hF205 hW206 hE207 => ?_)
      clear hE199 hW195
      refine go_rn [5] [6] [(1, .p 0 0), (2, .p 1 0), (3, .p 2 0), (26, .v (.slice (some ⟨b200, 0, none⟩) 0 l176.length)), (27, .p 2 17)] hW206 hE207 fun a208 hE209 => ?_
      clear hE207
      refine of_op (wpOp_store hW206 hE209 (oi := 2) (cs := [.string (bs s53), byteCell (s94.getD 0 0), byteCell (s94.getD 1 0), byteCell (s94.getD 2 0), byteCell (s94.getD 3 0), byteCell (s94.getD 4 0), byteCell (s94.getD 5 0), byteCell (s94.getD 6 0), byteCell (s94.getD 7 0), byteCell (s94.getD 8 0), byteCell (s94.getD 9 0), byteCell (s94.getD 10 0), byteCell (s94.getD 11 0), byteCell (s94.getD 12 0), byteCell (s94.getD 13 0), byteCell (s94.getD 14 0), byteCell (s94.getD 15 0), .slice (some ⟨b200, 0, none⟩) 0 l176.length, .map none]) (by kernel_rfl) fun w210 hF211 hW212 hE213 => ?_)
      clear hE209 hW206
      refine wpOps_nil ?_
      refine then_normal ?_
      refine go_seq_region [0, 1, 2, 3, 4] (by kernel_rfl) ?_
      refine go_rn [0] [1, 2, 3, 4] [(1, .p 0 0), (2, .p 1 0), (3, .p 2 0), (28, .v (.agg #[.int .i64 n1, .slice A6 s2.length c7, .bool b3, .slice A8 l4.length c9, .slice A10 u5.length c11]))] hW212 hE213 fun a214 hE215 => ?_
      clear hE213
      refine of_op (wpOp_call hE215 (f := 73) (vs := [.agg #[.int .i64 n1, .slice A6 s2.length c7, .bool b3, .slice A8 l4.length c9, .slice A10 u5.length c11], .int .i64 2]) (d := 29) (by kernel_rfl) Tryz.call73 (iAt _ _ 2 _ _ (ht.move hW212.step nilM hW212.imm)) ?_)
      rintro e_ w219 ⟨cs218, rfl, hr217, hs216⟩
      have hr220 := hr217.move hs216 nilM (fun b o h_ hb_ => hW212.laid (G := F) hs216 b o (.inl h_) (Nat.lt_of_lt_of_le hb_ hs216.size))
      obtain ⟨n221, s222, b223, l224, u225, A226, c227, A228, c229, A230, c231, xs232, ht238, hcs233, h234, h235, h236, h237⟩ := hr220.open_
      rw [hcs233] at hr220
      have hsm239 := h234.small
      have hsm240 := h235.small
      rw [hcs233]
      refine ⟨_, rfl, fun a241 hE242 => ?_⟩
      have hW243 := hW212.next_nil hs216
      have hF244 := hW212.frN hs216
      clear hE215
      have hl3_ : lst (Tree.at_ (Tree.mk n1 s2 b3 l4 u5) 2) = l224 := by rw [lst_of hnull_, ht238]; rfl
      have hb245 : l224.length ≤ 1000000 := by have h_ := cj2; rw [hl3_] at h_; exact h_
      refine go_rn [2, 3, 4] [] [(1, .p 0 0), (2, .p 1 0), (3, .p 2 0), (30, .v (.slice A228 l224.length c229)), (31, .v (.int .i64 ((l224.length : Nat) : Int))), (32, .v (.int .i64 0))] hW243 hE242 fun a246 hE247 => ?_
      clear hE242
      refine wpOps_nil ?_
      refine then_normal ?_
      refine wp_block ?_
      refine wp_loop_ghost (fun n_ a_ w_ => ∃ (k : Nat) (A_ : Option Addr) (c_ : Nat) (xs_ : List Value) (ds_ : List DV), n_ = l224.length - k ∧ k ≤ l224.length ∧ (A_.isNone = false) ∧ (RowL w_ (Imm F w w_ [⟨b21, 0, [.int .i64 n1, .slice A6 s2.length c7, .bool b3, .slice A8 l4.length c9, .slice A10 u5.length c11], true⟩, ⟨b29, 0, [.string ByteArray.empty, .int .u8 0, .int .u8 0, .int .u8 0, .int .u8 0, .int .u8 0, .int .u8 0, .int .u8 0, .int .u8 0, .int .u8 0, .int .u8 0, .int .u8 0, .int .u8 0, .int .u8 0, .int .u8 0, .int .u8 0, .int .u8 0, .slice none 0 0, .map none], true⟩, ⟨b37, 0, [.string (bs s53), byteCell (s94.getD 0 0), byteCell (s94.getD 1 0), byteCell (s94.getD 2 0), byteCell (s94.getD 3 0), byteCell (s94.getD 4 0), byteCell (s94.getD 5 0), byteCell (s94.getD 6 0), byteCell (s94.getD 7 0), byteCell (s94.getD 8 0), byteCell (s94.getD 9 0), byteCell (s94.getD 10 0), byteCell (s94.getD 11 0), byteCell (s94.getD 12 0), byteCell (s94.getD 13 0), byteCell (s94.getD 14 0), byteCell (s94.getD 15 0), .slice A_ k c_, .map none], true⟩] [⟨A_, c_, 21, 1, k, xs_⟩]) 1 (fun d => [.int .i32 d.n]) okNone (fun d t => d.n = IntKind.i32.wrap t.N) xs_ ds_ (l224.take k)) ∧ LInv hW243 60 [⟨b21, 0, [.int .i64 n1, .slice A6 s2.length c7, .bool b3, .slice A8 l4.length c9, .slice A10 u5.length c11], true⟩, ⟨b29, 0, [.string ByteArray.empty, .int .u8 0, .int .u8 0, .int .u8 0, .int .u8 0, .int .u8 0, .int .u8 0, .int .u8 0, .int .u8 0, .int .u8 0, .int .u8 0, .int .u8 0, .int .u8 0, .int .u8 0, .int .u8 0, .int .u8 0, .int .u8 0, .slice none 0 0, .map none], true⟩, ⟨b37, 0, [.string (bs s53), byteCell (s94.getD 0 0), byteCell (s94.getD 1 0), byteCell (s94.getD 2 0), byteCell (s94.getD 3 0), byteCell (s94.getD 4 0), byteCell (s94.getD 5 0), byteCell (s94.getD 6 0), byteCell (s94.getD 7 0), byteCell (s94.getD 8 0), byteCell (s94.getD 9 0), byteCell (s94.getD 10 0), byteCell (s94.getD 11 0), byteCell (s94.getD 12 0), byteCell (s94.getD 13 0), byteCell (s94.getD 14 0), byteCell (s94.getD 15 0), .slice A_ k c_, .map none], true⟩] [⟨A_, c_, 21, 1, k, xs_⟩] [(1, .p 0 0), (2, .p 1 0), (3, .p 2 0), (30, .v (.slice A228 l224.length c229)), (31, .v (.int .i64 ((l224.length : Nat) : Int))), (32, .v (.int .i64 ((k : Nat) : Int)))] a_ w_) (l224.length) ⟨0, (some ⟨b200, 0, none⟩), l176.length, [], [], by omega, by omega, rfl, RowL.nil mvNone, hE247.pk, hW243, Fr.refl _ _ _⟩ ?_
      clear hE247
      rintro n248 a249 w250 ⟨k, A_, c_, xs_, ds_, hn253, hk254, hA, hR, hE251, hW252, hF255⟩
      refine go_sp [(1, .p 0 0), (2, .p 1 0), (3, .p 2 0), (30, .v (.slice A228 l224.length c229)), (31, .v (.int .i64 ((l224.length : Nat) : Int))), (32, .v (.int .i64 ((k : Nat) : Int))), (33, .v (.bool (decide (((k : Nat) : Int) < ((l224.length : Nat) : Int)))))] hW252 hE251 fun a256 hE257 => ?_
      clear hE251
      refine wp_seq ?_
      refine cond_of hE257 (b := decide (((k : Nat) : Int) < ((l224.length : Nat) : Int))) (by kernel_rfl) (fun hc258 => ?_) (fun hc258 => ?_)
      ·
        have hf259 := of_decide_eq_true hc258
        refine wp_skip ?_
        refine then_normal ?_
        refine wp_seq ?_
        refine wp_block ?_
        refine go_seq_region [0, 1, 2, 3] (by kernel_rfl) ?_
        obtain ⟨b260, o261, hA262, hl263, hat264⟩ := Slots.get h235 (i := k) (by omega)
        obtain ⟨x265, he266⟩ : ∃ x, l224[k]? = some x := ⟨_, List.getElem?_eq_getElem (by omega)⟩
        have hr267 := h236 k x265 he266
        obtain ⟨n268, s269, b270, l271, u272, A273, c274, A275, c276, A277, c278, xs279, rfl, hcs280, h281, h282, h283, h284⟩ := hr267.open_
        rw [hcs280] at hr267
        have hsm286 := h281.small
        have hsm287 := h282.small
        rw [hcs280] at hat264
        refine of_op (wpOp_index hE257 (t := 36) (A := A228) (m := l224.length) (q := ((k : Nat) : Int)) (d := 34) (by kernel_rfl) (e := 39) (size := 5) (bytes := 88) (by kernel_rfl) hA262 rfl (by omega) fun a288 hE289 => ?_)
        clear hE257
        refine of_op (wpOp_load hE289 (t := 39) (b := b260) (o := o261 + k * 5) (d := 35) (by kernel_rfl) (cs := [.int .i64 n268, .slice A273 s269.length c274, .bool b270, .slice A275 l271.length c276, .slice A277 u272.length c278]) (v := .agg #[.int .i64 n268, .slice A273 s269.length c274, .bool b270, .slice A275 l271.length c276, .slice A277 u272.length c278]) (by kernel_rfl) (AtF.move hat264 hF255.step immM hF255.to').at_ fun a290 hE291 => ?_)
        clear hE289
        refine of_op (wpOp_alloc hW252 hE291 (d := 5) (cs := [.int .i64 0, .slice none 0 0, .bool false, .slice none 0 0, .slice none 0 0]) (by kernel_rfl) fun b292 a293 w294 hb295 hz296 hF297 hW298 hE299 => ?_)
        clear hE291 hW252
        refine of_op (wpOp_store hW298 hE299 (oi := 3) (cs := [.int .i64 n268, .slice A273 s269.length c274, .bool b270, .slice A275 l271.length c276, .slice A277 u272.length c278]) (by kernel_rfl) fun w300 hF301 hW302 hE303 => ?_)
        clear hE299 hW298
        refine wpOps_nil ?_
        refine then_normal ?_
        refine go_region [0, 1, 2, 3, 4, 5, 6, 7, 8] (by kernel_rfl) ?_
        refine go_rn [0, 1, 2, 3, 4] [5, 6, 7, 8] [(1, .p 0 0), (2, .p 1 0), (3, .p 2 0), (30, .v (.slice A228 l224.length c229)), (31, .v (.int .i64 ((l224.length : Nat) : Int))), (32, .v (.int .i64 ((k : Nat) : Int))), (37, .v (.slice A_ k c_)), (40, .v (.int .i32 (IntKind.i32.wrap n268)))] hW302 hE303 fun a304 hE305 => ?_
        clear hE303
        refine wpOps_push hW302 hE305 (k := 0) (e := 21) (size := 1) (len := 1) (cs := [.int .i32 (IntKind.i32.wrap n268)]) (d1 := 41) (d := 42) (by kernel_rfl) (t := 143) (bytes := 4) (by kernel_rfl) (fun _ => by kernel_rfl) rfl (by kernel_rfl) (by omega) fun A306 c307 a308 w309 hF310 hW311 ⟨_, hE312⟩ => ?_
        clear hE305 hW302
        refine go_rn [7] [8] [(1, .p 0 0), (2, .p 1 0), (3, .p 2 0), (30, .v (.slice A228 l224.length c229)), (31, .v (.int .i64 ((l224.length : Nat) : Int))), (32, .v (.int .i64 ((k : Nat) : Int))), (42, .v (.slice A306 (k + 1) c307)), (43, .p 2 17)] hW311 hE312 fun a313 hE314 => ?_
        clear hE312
        refine of_op (wpOp_store hW311 hE314 (oi := 2) (cs := [.string (bs s53), byteCell (s94.getD 0 0), byteCell (s94.getD 1 0), byteCell (s94.getD 2 0), byteCell (s94.getD 3 0), byteCell (s94.getD 4 0), byteCell (s94.getD 5 0), byteCell (s94.getD 6 0), byteCell (s94.getD 7 0), byteCell (s94.getD 8 0), byteCell (s94.getD 9 0), byteCell (s94.getD 10 0), byteCell (s94.getD 11 0), byteCell (s94.getD 12 0), byteCell (s94.getD 13 0), byteCell (s94.getD 14 0), byteCell (s94.getD 15 0), .slice A306 (k + 1) c307, .map none]) (by kernel_rfl) fun w315 hF316 hW317 hE318 => ?_)
        clear hE314 hW311
        refine wpOps_nil ?_
        refine block_normal ?_
        refine then_normal ?_
        refine go_region [0, 1] (by kernel_rfl) ?_
        refine go_rn [0, 1] [] [(1, .p 0 0), (2, .p 1 0), (3, .p 2 0), (30, .v (.slice A228 l224.length c229)), (31, .v (.int .i64 ((l224.length : Nat) : Int))), (32, .v (.int .i64 (IntKind.i64.wrap (((k : Nat) : Int) + 1))))] hW317 hE318 fun a319 hE320 => ?_
        clear hE318
        refine wpOps_nil ?_
        refine then_normal ?_
        obtain ⟨hE321, hW322, hF323⟩ := hW317.cutB hE320 3 [⟨b21, 0, [.int .i64 n1, .slice A6 s2.length c7, .bool b3, .slice A8 l4.length c9, .slice A10 u5.length c11], true⟩, ⟨b29, 0, [.string ByteArray.empty, .int .u8 0, .int .u8 0, .int .u8 0, .int .u8 0, .int .u8 0, .int .u8 0, .int .u8 0, .int .u8 0, .int .u8 0, .int .u8 0, .int .u8 0, .int .u8 0, .int .u8 0, .int .u8 0, .int .u8 0, .int .u8 0, .slice none 0 0, .map none], true⟩, ⟨b37, 0, [.string (bs s53), byteCell (s94.getD 0 0), byteCell (s94.getD 1 0), byteCell (s94.getD 2 0), byteCell (s94.getD 3 0), byteCell (s94.getD 4 0), byteCell (s94.getD 5 0), byteCell (s94.getD 6 0), byteCell (s94.getD 7 0), byteCell (s94.getD 8 0), byteCell (s94.getD 9 0), byteCell (s94.getD 10 0), byteCell (s94.getD 11 0), byteCell (s94.getD 12 0), byteCell (s94.getD 13 0), byteCell (s94.getD 14 0), byteCell (s94.getD 15 0), .slice A306 (k + 1) c307, .map none], true⟩] [(1, .p 0 0), (2, .p 1 0), (3, .p 2 0), (30, .v (.slice A228 l224.length c229)), (31, .v (.int .i64 ((l224.length : Nat) : Int))), (32, .v (.int .i64 (IntKind.i64.wrap (((k : Nat) : Int) + 1))))]
        have he324 : IntKind.i64.wrap (((k : Nat) : Int) + 1) = ((k + 1 : Nat) : Int) := wrap_succ (by omega)
        rw [he324] at hE321
        exact ⟨l224.length - (k + 1), by omega, k + 1, A306, c307, xs_ ++ [Value.int .i32 (IntKind.i32.wrap n268)], (ds_ ++ [(dvN (IntKind.i32.wrap n268))]), rfl, by omega, own_some hW322 (k := 0) rfl (by omega), RowL.snoc (d := (dvN (IntKind.i32.wrap n268))) (hR.move (Fr.trans (Fr.trans (Fr.trans (Fr.trans hF297 hF301) hF310) hF316) hF323).step immM (Fr.trans (Fr.trans (Fr.trans (Fr.trans hF297 hF301) hF310) hF316) hF323).to') he266 rfl trivial rfl, hE321.pk, hW322, (Fr.trans (Fr.trans (Fr.trans (Fr.trans (Fr.trans hF255 hF297) hF301) hF310) hF316) hF323)⟩
      ·
        have hf325 := of_decide_eq_false hc258
        refine wp_exit ?_
        refine then_exit ?_
        refine then_exit ?_
        refine block_exit ?_
        refine then_normal ?_
        have hk_ : k = (lst (Tree.at_ (Tree.mk n1 s2 b3 l4 u5) 2)).length := by rw [hl3_]; omega
        subst k
        have hL_ := LstR.of hW252 (k := 0) (rs' := []) rfl hR (by rw [hl3_]) (fun d => allOne_ok (by kernel_rfl)) (by omega)
        rw [← hl3_] at hL_
        obtain ⟨hW326, hF327⟩ := hW252.cutR 0 []
        exact ⟨_, _, _, by rw [hnull_]; exact hA, hL_, hE257.pk, hW326, (Fr.trans (Fr.trans (Fr.trans (Fr.trans (Fr.trans hF196 hF205) hF211) hF244) hF255) hF327)⟩
    ·
      refine wp_skip ?_
      refine then_normal ?_
      have hn_ : Tree.null (Tree.at_ (Tree.mk n1 s2 b3 l4 u5) 2) = true := by rw [ht155]; show b140 = true; simpa using hc164
      have hl_ := lst_no hn_
      exact ⟨none, 0, fun _ => dv0, by rw [hn_]; rfl, by rw [hl_]; exact LstR.nil mvNone, by rw [hl_]; exact ⟨hE163.pk, hW160, Fr.refl _ _ _⟩⟩
  rintro a337 w338 ⟨A329, c330, f331, hn332, hL333, hE334, hW335, hF336⟩
  refine wp_seq ?_
  refine go_sp [(2, .p 1 0), (3, .p 2 0), (46, .v (.slice A10 u5.length c11)), (47, .v (.int .i64 ((u5.length : Nat) : Int))), (48, .v (.int .i64 0))] hW335 hE334 fun a339 hE340 => ?_
  clear hE334
  refine wp_block ?_
  have hp341 := new_of hW335 2 rfl (by kernel_rfl)
  have hE345 := hE340.recast 2 (.p 1 0) (.v (.pointer (some ⟨b29, 0, none⟩))) rfl rfl trivial
  have hE346 := hE345.recast 3 (.p 2 0) (.v (.pointer (some ⟨b37, 0, none⟩))) rfl rfl trivial
  have hE343 := (hE346.pick (ks := [2, 3, 46, 47, 48]) (env' := [(2, .v (.pointer (some ⟨b29, 0, none⟩))), (3, .v (.pointer (some ⟨b37, 0, none⟩))), (46, .v (.slice A10 u5.length c11)), (47, .v (.int .i64 ((u5.length : Nat) : Int))), (48, .v (.int .i64 0))]) (by kernel_rfl)).cutTb 0 (by kernel_rfl)
  refine wp_loop_ghost (fun q a_ w_ => ∃ (j : Nat) (m_ : Option Nat), q = u5.length - j ∧ j ≤ u5.length ∧ EnvOk 60 [] [(2, .v (.pointer (some ⟨b29, 0, none⟩))), (3, .v (.pointer (some ⟨b37, 0, none⟩))), (46, .v (.slice A10 u5.length c11)), (47, .v (.int .i64 ((u5.length : Nat) : Int))), (48, .v (.int .i64 ((j : Nat) : Int)))] a_ ∧ TL w w338 w_ F b37 18 [.string (bs s53), byteCell (s94.getD 0 0), byteCell (s94.getD 1 0), byteCell (s94.getD 2 0), byteCell (s94.getD 3 0), byteCell (s94.getD 4 0), byteCell (s94.getD 5 0), byteCell (s94.getD 6 0), byteCell (s94.getD 7 0), byteCell (s94.getD 8 0), byteCell (s94.getD 9 0), byteCell (s94.getD 10 0), byteCell (s94.getD 11 0), byteCell (s94.getD 12 0), byteCell (s94.getD 13 0), byteCell (s94.getD 14 0), byteCell (s94.getD 15 0), .slice A329 ((lst (Tree.at_ (Tree.mk n1 s2 b3 l4 u5) 2)).length) c330, .map none] m_ (u5.take j)) u5.length
    ⟨0, none, by omega, by omega, hE343, TL.start hW335 2 rfl rfl⟩ ?_
  rintro q aq wq ⟨j, m_, rfl, hj, hE2, hT⟩
  have hWq := WOk.start wq Nil
  refine go_sp [(2, .v (.pointer (some ⟨b29, 0, none⟩))), (3, .v (.pointer (some ⟨b37, 0, none⟩))), (46, .v (.slice A10 u5.length c11)), (47, .v (.int .i64 ((u5.length : Nat) : Int))), (48, .v (.int .i64 ((j : Nat) : Int))), (49, .v (.bool (decide (((j : Nat) : Int) < ((u5.length : Nat) : Int)))))] hWq hE2 fun aq2 hE3 => wp_seq ?_
  refine cond_of hE3 (b := decide (((j : Nat) : Int) < ((u5.length : Nat) : Int))) (by kernel_rfl) (fun hc => ?_) (fun hc => ?_)
  · have hlt : j < u5.length := by have := of_decide_eq_true hc; omega
    refine wp_skip (then_normal (wp_seq (wp_block ?_)))
    obtain ⟨⟨k, x⟩, hu⟩ : ∃ y, u5[j]? = some y := ⟨_, List.getElem?_eq_getElem hlt⟩
    obtain ⟨bb, bo, xA, xc, hA, hat, hxo, hk⟩ := tag_at h17 hu
    refine go_seq_region [0, 1, 2, 3] (by kernel_rfl) ?_
    refine of_op (wpOp_index hE3 (t := 37) (e := 64) (size := 2) (bytes := 32) (d := 50) (b := bb) (o := bo) (m := u5.length) (j := j) (by kernel_rfl) (by kernel_rfl) hA rfl hlt fun aq3 hE4 => ?_)
    refine of_op (wpOp_load hE4 (t := 64) (d := 51) (cs := [.int .u32 k, .slice xA x.length xc]) (v := .agg #[.int .u32 k, .slice xA x.length xc]) (by kernel_rfl) (by kernel_rfl) (hat.step_nil hT.step) fun aq4 hE5 => ?_)
    refine of_op (wpOp_alloc hWq hE5 (d := 7) (cs := [.int .u32 0, .slice none 0 0]) (by kernel_rfl) fun bx aq5 wq2 hbx hbx0 hFq2 hWq2 hE6 => ?_)
    refine of_op (wpOp_store hWq2 hE6 (oi := 0) (cs := [.int .u32 k, .slice xA x.length xc]) (by kernel_rfl) fun wq3 hFq3 hWq3 hE7 => wpOps_nil (then_normal ?_))
    refine go_region [0, 1, 2, 3, 4, 5] (by kernel_rfl) (go_rn [0, 1, 2, 3, 4] [5] [(2, .v (.pointer (some ⟨b29, 0, none⟩))), (3, .v (.pointer (some ⟨b37, 0, none⟩))), (46, .v (.slice A10 u5.length c11)), (47, .v (.int .i64 ((u5.length : Nat) : Int))), (48, .v (.int .i64 ((j : Nat) : Int))), (52, .v (.pointer (some ⟨b37, 18, none⟩))), (54, .v (.int .u32 k)), (56, .v (.slice xA x.length xc))] hWq3 hE7 fun aq6 hE8 => ?_)
    refine of_op (wpOp_call hE8 (f := 75) (vs := [.pointer (some ⟨b37, 18, none⟩), .int .u32 k, .slice xA x.length xc]) (d := 57) (by kernel_rfl) Tryz.call75 ((hT.move hWq3.step).set hp341 (by kernel_rfl) hsort hu hxo hk) ?_)
    rintro e_ wq5 ⟨rfl, hS5, r, hT5⟩
    refine ⟨_, rfl, fun aq7 hE9 => wpOps_nil (block_normal (then_normal ?_))⟩
    have hE10 := (hE9.pick (ks := [2, 3, 46, 47, 48]) (env' := [(2, .v (.pointer (some ⟨b29, 0, none⟩))), (3, .v (.pointer (some ⟨b37, 0, none⟩))), (46, .v (.slice A10 u5.length c11)), (47, .v (.int .i64 ((u5.length : Nat) : Int))), (48, .v (.int .i64 ((j : Nat) : Int)))]) (by kernel_rfl)).cutTb 0 (by kernel_rfl)
    refine go_region [0, 1] (by kernel_rfl) (go_rn [0, 1] [] [(2, .v (.pointer (some ⟨b29, 0, none⟩))), (3, .v (.pointer (some ⟨b37, 0, none⟩))), (46, .v (.slice A10 u5.length c11)), (47, .v (.int .i64 ((u5.length : Nat) : Int))), (48, .v (.int .i64 (IntKind.i64.wrap (((j : Nat) : Int) + 1))))] (WOk.start wq5 Nil) hE10 fun aq8 hE11 => wpOps_nil (then_normal ?_))
    rw [wrap_succ (by omega)] at hE11
    exact ⟨u5.length - (j + 1), by omega, j + 1, some r, rfl, by omega, hE11, hT5⟩
  · obtain rfl : j = u5.length := by have := of_decide_eq_false hc; omega
    refine wp_exit (then_exit (then_exit (block_exit ?_)))
    rw [List.take_length] at hT
    obtain ⟨hW347, hF348⟩ := hT.tab hW335 2 [⟨b21, 0, [.int .i64 n1, .slice A6 s2.length c7, .bool b3, .slice A8 l4.length c9, .slice A10 u5.length c11], true⟩, ⟨b29, 0, [.string ByteArray.empty, .int .u8 0, .int .u8 0, .int .u8 0, .int .u8 0, .int .u8 0, .int .u8 0, .int .u8 0, .int .u8 0, .int .u8 0, .int .u8 0, .int .u8 0, .int .u8 0, .int .u8 0, .int .u8 0, .int .u8 0, .int .u8 0, .slice none 0 0, .map none], true⟩, ⟨b37, 0, [.string (bs s53), byteCell (s94.getD 0 0), byteCell (s94.getD 1 0), byteCell (s94.getD 2 0), byteCell (s94.getD 3 0), byteCell (s94.getD 4 0), byteCell (s94.getD 5 0), byteCell (s94.getD 6 0), byteCell (s94.getD 7 0), byteCell (s94.getD 8 0), byteCell (s94.getD 9 0), byteCell (s94.getD 10 0), byteCell (s94.getD 11 0), byteCell (s94.getD 12 0), byteCell (s94.getD 13 0), byteCell (s94.getD 14 0), byteCell (s94.getD 15 0), .slice A329 ((lst (Tree.at_ (Tree.mk n1 s2 b3 l4 u5) 2)).length) c330, .map m_], true⟩] rfl
    have hM349 := hT.mapImm hW335 hW347 hF348 hsort (tags_range h17)
    have hE350 := (hE3.retable [⟨b21, 0, [.int .i64 n1, .slice A6 s2.length c7, .bool b3, .slice A8 l4.length c9, .slice A10 u5.length c11], true⟩, ⟨b29, 0, [.string ByteArray.empty, .int .u8 0, .int .u8 0, .int .u8 0, .int .u8 0, .int .u8 0, .int .u8 0, .int .u8 0, .int .u8 0, .int .u8 0, .int .u8 0, .int .u8 0, .int .u8 0, .int .u8 0, .int .u8 0, .int .u8 0, .int .u8 0, .slice none 0 0, .map none], true⟩, ⟨b37, 0, [.string (bs s53), byteCell (s94.getD 0 0), byteCell (s94.getD 1 0), byteCell (s94.getD 2 0), byteCell (s94.getD 3 0), byteCell (s94.getD 4 0), byteCell (s94.getD 5 0), byteCell (s94.getD 6 0), byteCell (s94.getD 7 0), byteCell (s94.getD 8 0), byteCell (s94.getD 9 0), byteCell (s94.getD 10 0), byteCell (s94.getD 11 0), byteCell (s94.getD 12 0), byteCell (s94.getD 13 0), byteCell (s94.getD 14 0), byteCell (s94.getD 15 0), .slice A329 ((lst (Tree.at_ (Tree.mk n1 s2 b3 l4 u5) 2)).length) c330, .map m_], true⟩]).recast 2 (.v (.pointer (some ⟨b29, 0, none⟩))) (.p 1 0) rfl rfl (Nat.le_of_ble_eq_true (n := 2) rfl)
    have hE351 := hE350.recast 3 (.v (.pointer (some ⟨b37, 0, none⟩))) (.p 2 0) rfl rfl (Nat.le_of_ble_eq_true (n := 3) rfl)
    have hE352 : EnvOk 60 [⟨b21, 0, [.int .i64 n1, .slice A6 s2.length c7, .bool b3, .slice A8 l4.length c9, .slice A10 u5.length c11], true⟩, ⟨b29, 0, [.string ByteArray.empty, .int .u8 0, .int .u8 0, .int .u8 0, .int .u8 0, .int .u8 0, .int .u8 0, .int .u8 0, .int .u8 0, .int .u8 0, .int .u8 0, .int .u8 0, .int .u8 0, .int .u8 0, .int .u8 0, .int .u8 0, .int .u8 0, .slice none 0 0, .map none], true⟩, ⟨b37, 0, [.string (bs s53), byteCell (s94.getD 0 0), byteCell (s94.getD 1 0), byteCell (s94.getD 2 0), byteCell (s94.getD 3 0), byteCell (s94.getD 4 0), byteCell (s94.getD 5 0), byteCell (s94.getD 6 0), byteCell (s94.getD 7 0), byteCell (s94.getD 8 0), byteCell (s94.getD 9 0), byteCell (s94.getD 10 0), byteCell (s94.getD 11 0), byteCell (s94.getD 12 0), byteCell (s94.getD 13 0), byteCell (s94.getD 14 0), byteCell (s94.getD 15 0), .slice A329 ((lst (Tree.at_ (Tree.mk n1 s2 b3 l4 u5) 2)).length) c330, .map m_], true⟩] [(2, .p 1 0), (3, .p 2 0)] _ := hE351.pk
    refine then_normal ?_
    refine go_seq_region [0, 1] (by kernel_rfl) ?_
    refine go_rn [0] [1] [(2, .p 1 0), (59, .v (.agg #[.string (bs s53), byteCell (s94.getD 0 0), byteCell (s94.getD 1 0), byteCell (s94.getD 2 0), byteCell (s94.getD 3 0), byteCell (s94.getD 4 0), byteCell (s94.getD 5 0), byteCell (s94.getD 6 0), byteCell (s94.getD 7 0), byteCell (s94.getD 8 0), byteCell (s94.getD 9 0), byteCell (s94.getD 10 0), byteCell (s94.getD 11 0), byteCell (s94.getD 12 0), byteCell (s94.getD 13 0), byteCell (s94.getD 14 0), byteCell (s94.getD 15 0), .slice A329 ((lst (Tree.at_ (Tree.mk n1 s2 b3 l4 u5) 2)).length) c330, .map m_]))] hW347 hE352 fun a353 hE354 => ?_
    clear hE352
    refine of_op (wpOp_store hW347 hE354 (oi := 1) (cs := [.string (bs s53), byteCell (s94.getD 0 0), byteCell (s94.getD 1 0), byteCell (s94.getD 2 0), byteCell (s94.getD 3 0), byteCell (s94.getD 4 0), byteCell (s94.getD 5 0), byteCell (s94.getD 6 0), byteCell (s94.getD 7 0), byteCell (s94.getD 8 0), byteCell (s94.getD 9 0), byteCell (s94.getD 10 0), byteCell (s94.getD 11 0), byteCell (s94.getD 12 0), byteCell (s94.getD 13 0), byteCell (s94.getD 14 0), byteCell (s94.getD 15 0), .slice A329 ((lst (Tree.at_ (Tree.mk n1 s2 b3 l4 u5) 2)).length) c330, .map m_]) (by kernel_rfl) fun w355 hF356 hW357 hE358 => ?_)
    clear hE354 hW347
    refine wpOps_nil ?_
    refine then_normal ?_
    refine wp_ret ?_
    refine leave hE358 hW357.cells (v := .agg #[.string (bs s53), byteCell (s94.getD 0 0), byteCell (s94.getD 1 0), byteCell (s94.getD 2 0), byteCell (s94.getD 3 0), byteCell (s94.getD 4 0), byteCell (s94.getD 5 0), byteCell (s94.getD 6 0), byteCell (s94.getD 7 0), byteCell (s94.getD 8 0), byteCell (s94.getD 9 0), byteCell (s94.getD 10 0), byteCell (s94.getD 11 0), byteCell (s94.getD 12 0), byteCell (s94.getD 13 0), byteCell (s94.getD 14 0), byteCell (s94.getD 15 0), .slice A329 ((lst (Tree.at_ (Tree.mk n1 s2 b3 l4 u5) 2)).length) c330, .map m_]) (by kernel_rfl) ?_
    refine ⟨dvP m_ u5 [dvS (bs s53), dvO none (sixteenB s94) 0, dvL A329 (lst (Tree.at_ (Tree.mk n1 s2 b3 l4 u5) 2)).length c330 f331], rfl, ?_, ?_, hW357.step⟩
    · unfold okOffsetFetchRequestGroupTopic
      exact ⟨by show ByteArray.size (bs s53) ≤ 1000000; rw [bs_size]; have h_ := cj0; rw [ht69] at h_; exact h_, sixteenB_len _, ⟨((hL333.move (Fr.trans hF348 hF356).step immM (Fr.trans hF348 hF356).to').move (Step.refl _ Nil) nilM immOut).slots, cj2, fun _ _ => trivial⟩, ((hM349.move hF356.step immM hF356.to').move (Step.refl _ Nil) nilM immOut), cU.2.1, cU.2.2, trivial⟩
    · unfold relOffsetFetchRequestGroupTopic
      exact ⟨by rw [ht69]; rfl, by rw [ht110]; rfl, ⟨hn332, rfl, hL333.rel_⟩, rfl, trivial⟩

set_option maxHeartbeats 4000000 in
theorem eOffsetFetchRequestGroup (ct : List Value) (t : Tree) (w : World) (F : Nat → Nat → Prop) (ht : TreeR w F ct t) (hc : canOffsetFetchRequestGroup t) :
    Calls Tryz.prog 106 #[.agg ct.toArray] w (fun e w' => ∃ D : DV, e = .returned (.agg #[.string ((D.f 0).s), .pointer ((D.f 1).A), .int .i32 ((D.f 2).n), .slice ((D.f 3).A) ((D.f 3).l) ((D.f 3).c), .map D.m]) ∧ okOffsetFetchRequestGroup w' (Fp F w) D ∧ relOffsetFetchRequestGroup D t ∧ Step w w' Nil) := by
  obtain ⟨n1, s2, b3, l4, u5, A6, c7, A8, c9, A10, c11, xs12, rfl, rfl, h14, h15, h16, h17⟩ := ht.open_
  have hsm19 := h14.small
  have hsm20 := h15.small
  unfold canOffsetFetchRequestGroup at hc
  obtain ⟨cj0, cj1, cj2, ⟨cj3, cj3e⟩, cU, _⟩ := hc
  have hsort := cU.1
  replace hsort : Sorted u5 := hsort
  have hul : u5.length ≤ 1000000 := cU.2.1
  refine enter (n := 63) Tryz.func106 rfl Tryz.ntmps106 (by kernel_rfl) fun a hE => ?_
  have hW := WOk.start w Nil
  refine go_seq_region [0, 1] (by kernel_rfl) ?_
  refine of_op (wpOp_box hW hE (d := 1) (cs := [.int .i64 n1, .slice A6 s2.length c7, .bool b3, .slice A8 l4.length c9, .slice A10 u5.length c11]) (by kernel_rfl) fun b21 a22 w23 hb24 hz25 hF26 hW27 hE28 => ?_)
  clear hE hW
  refine of_op (wpOp_alloc hW27 hE28 (d := 2) (cs := [.string ByteArray.empty, .pointer none, .int .i32 0, .slice none 0 0, .map none]) (by kernel_rfl) fun b29 a30 w31 hb32 hz33 hF34 hW35 hE36 => ?_)
  clear hE28 hW27
  refine wpOps_nil ?_
  refine then_normal ?_
  refine go_seq_region [0] (by kernel_rfl) ?_
  refine of_op (wpOp_alloc hW35 hE36 (d := 3) (cs := [.string ByteArray.empty, .pointer none, .int .i32 0, .slice none 0 0, .map none]) (by kernel_rfl) fun b37 a38 w39 hb40 hz41 hF42 hW43 hE44 => ?_)
  clear hE36 hW35
  refine wpOps_nil ?_
  refine then_normal ?_
  refine go_seq_region [0, 1, 2, 3, 4, 5] (by kernel_rfl) ?_
  refine go_rn [0] [1, 2, 3, 4, 5] [(1, .p 0 0), (2, .p 1 0), (3, .p 2 0), (8, .v (.agg #[.int .i64 n1, .slice A6 s2.length c7, .bool b3, .slice A8 l4.length c9, .slice A10 u5.length c11]))] hW43 hE44 fun a45 hE46 => ?_
  clear hE44
  refine of_op (wpOp_call hE46 (f := 73) (vs := [.agg #[.int .i64 n1, .slice A6 s2.length c7, .bool b3, .slice A8 l4.length c9, .slice A10 u5.length c11], .int .i64 0]) (d := 9) (by kernel_rfl) Tryz.call73 (iAt _ _ 0 _ _ (ht.move hW43.step nilM hW43.imm)) ?_)
  rintro e_ w50 ⟨cs49, rfl, hr48, hs47⟩
  have hr51 := hr48.move hs47 nilM (fun b o h_ hb_ => hW43.laid (G := F) hs47 b o (.inl h_) (Nat.lt_of_lt_of_le hb_ hs47.size))
  obtain ⟨n52, s53, b54, l55, u56, A57, c58, A59, c60, A61, c62, xs63, ht69, hcs64, h65, h66, h67, h68⟩ := hr51.open_
  rw [hcs64] at hr51
  have hsm70 := h65.small
  have hsm71 := h66.small
  rw [hcs64]
  refine ⟨_, rfl, fun a72 hE73 => ?_⟩
  have hW74 := hW43.next_nil hs47
  have hF75 := hW43.frN hs47
  clear hE46
  refine go_rn [2] [3, 4, 5] [(1, .p 0 0), (2, .p 1 0), (3, .p 2 0), (10, .v (.slice A57 s53.length c58))] hW74 hE73 fun a76 hE77 => ?_
  clear hE73
  refine of_op (wpOp_conv hE77 (src := 22) (dst := 9) (e := 5) (d := 11) (by kernel_rfl) (by kernel_rfl) (by kernel_rfl) (by kernel_rfl) h65 fun a78 hE79 => ?_)
  clear hE77
  refine go_rn [4] [5] [(1, .p 0 0), (2, .p 1 0), (3, .p 2 0), (11, .v (.string (bs s53))), (12, .p 2 0)] hW74 hE79 fun a80 hE81 => ?_
  clear hE79
  refine of_op (wpOp_store hW74 hE81 (oi := 2) (cs := [.string (bs s53), .pointer none, .int .i32 0, .slice none 0 0, .map none]) (by kernel_rfl) fun w82 hF83 hW84 hE85 => ?_)
  clear hE81 hW74
  refine wpOps_nil ?_
  refine then_normal ?_
  refine go_seq_region [0, 1, 2, 3, 4] (by kernel_rfl) ?_
  refine go_rn [0] [1, 2, 3, 4] [(1, .p 0 0), (2, .p 1 0), (3, .p 2 0), (13, .v (.agg #[.int .i64 n1, .slice A6 s2.length c7, .bool b3, .slice A8 l4.length c9, .slice A10 u5.length c11]))] hW84 hE85 fun a86 hE87 => ?_
  clear hE85
  refine of_op (wpOp_call hE87 (f := 73) (vs := [.agg #[.int .i64 n1, .slice A6 s2.length c7, .bool b3, .slice A8 l4.length c9, .slice A10 u5.length c11], .int .i64 1]) (d := 14) (by kernel_rfl) Tryz.call73 (iAt _ _ 1 _ _ (ht.move hW84.step nilM hW84.imm)) ?_)
  rintro e_ w91 ⟨cs90, rfl, hr89, hs88⟩
  have hr92 := hr89.move hs88 nilM (fun b o h_ hb_ => hW84.laid (G := F) hs88 b o (.inl h_) (Nat.lt_of_lt_of_le hb_ hs88.size))
  obtain ⟨n93, s94, b95, l96, u97, A98, c99, A100, c101, A102, c103, xs104, ht110, hcs105, h106, h107, h108, h109⟩ := hr92.open_
  rw [hcs105] at hr92
  have hsm111 := h106.small
  have hsm112 := h107.small
  rw [hcs105]
  refine ⟨_, rfl, fun a113 hE114 => ?_⟩
  have hW115 := hW84.next_nil hs88
  have hF116 := hW84.frN hs88
  clear hE87
  refine of_op (wpOp_call hE114 (f := 97) (vs := [.agg #[.int .i64 n93, .slice A98 s94.length c99, .bool b95, .slice A100 l96.length c101, .slice A102 u97.length c103]]) (d := 15) (by kernel_rfl) Tryz.call97 (kTextOf _ (Tree.at_ (Tree.mk n1 s2 b3 l4 u5) 1) _ _ hr92) ?_)
  rintro e_ w123 ⟨A120, rfl, hr118, hn119, hs117⟩
  have hr122 : ∀ ad, A120 = some ad → ∃ b o, ad = ⟨b, o, none⟩ ∧ AtF _ _ b o [.string (bs (octOf (Tree.at_ (Tree.mk n1 s2 b3 l4 u5) 1)))] := fun ad h => by
      obtain ⟨b, o, g1, g2⟩ := hr118 ad h
      exact ⟨b, o, g1, g2.move (Step.refl _ Nil) nilM (hW115.laid (G := F) hs117)⟩
  refine ⟨_, rfl, fun a124 hE125 => ?_⟩
  have hW126 := hW115.next_nil hs117
  have hF127 := hW115.frN hs117
  clear hE114
  refine go_rn [3] [4] [(1, .p 0 0), (2, .p 1 0), (3, .p 2 0), (15, .v (.pointer A120)), (16, .p 2 1)] hW126 hE125 fun a128 hE129 => ?_
  clear hE125
  refine of_op (wpOp_store hW126 hE129 (oi := 2) (cs := [.string (bs s53), .pointer A120, .int .i32 0, .slice none 0 0, .map none]) (by kernel_rfl) fun w130 hF131 hW132 hE133 => ?_)
  clear hE129 hW126
  refine wpOps_nil ?_
  refine then_normal ?_
  refine go_seq_region [0, 1, 2, 3, 4, 5] (by kernel_rfl) ?_
  refine go_rn [0] [1, 2, 3, 4, 5] [(1, .p 0 0), (2, .p 1 0), (3, .p 2 0), (17, .v (.agg #[.int .i64 n1, .slice A6 s2.length c7, .bool b3, .slice A8 l4.length c9, .slice A10 u5.length c11]))] hW132 hE133 fun a134 hE135 => ?_
  clear hE133
  refine of_op (wpOp_call hE135 (f := 73) (vs := [.agg #[.int .i64 n1, .slice A6 s2.length c7, .bool b3, .slice A8 l4.length c9, .slice A10 u5.length c11], .int .i64 2]) (d := 18) (by kernel_rfl) Tryz.call73 (iAt _ _ 2 _ _ (ht.move hW132.step nilM hW132.imm)) ?_)
  rintro e_ w139 ⟨cs138, rfl, hr137, hs136⟩
  have hr140 := hr137.move hs136 nilM (fun b o h_ hb_ => hW132.laid (G := F) hs136 b o (.inl h_) (Nat.lt_of_lt_of_le hb_ hs136.size))
  obtain ⟨n141, s142, b143, l144, u145, A146, c147, A148, c149, A150, c151, xs152, ht158, hcs153, h154, h155, h156, h157⟩ := hr140.open_
  rw [hcs153] at hr140
  have hsm159 := h154.small
  have hsm160 := h155.small
  rw [hcs153]
  refine ⟨_, rfl, fun a161 hE162 => ?_⟩
  have hW163 := hW132.next_nil hs136
  have hF164 := hW132.frN hs136
  clear hE135
  refine go_rn [2, 3, 4] [5] [(1, .p 0 0), (2, .p 1 0), (3, .p 2 0), (20, .v (.int .i32 (IntKind.i32.wrap n141))), (21, .p 2 2)] hW163 hE162 fun a165 hE166 => ?_
  clear hE162
  refine of_op (wpOp_store hW163 hE166 (oi := 2) (cs := [.string (bs s53), .pointer A120, .int .i32 (IntKind.i32.wrap n141), .slice none 0 0, .map none]) (by kernel_rfl) fun w167 hF168 hW169 hE170 => ?_)
  clear hE166 hW163
  refine wpOps_nil ?_
  refine then_normal ?_
  refine wp_seq ?_
  refine go_seq_region [0, 1, 2, 3] (by kernel_rfl) ?_
  refine go_rn [0] [1, 2, 3] [(1, .p 0 0), (2, .p 1 0), (3, .p 2 0), (22, .v (.agg #[.int .i64 n1, .slice A6 s2.length c7, .bool b3, .slice A8 l4.length c9, .slice A10 u5.length c11]))] hW169 hE170 fun a171 hE172 => ?_
  clear hE170
  refine of_op (wpOp_call hE172 (f := 73) (vs := [.agg #[.int .i64 n1, .slice A6 s2.length c7, .bool b3, .slice A8 l4.length c9, .slice A10 u5.length c11], .int .i64 3]) (d := 23) (by kernel_rfl) Tryz.call73 (iAt _ _ 3 _ _ (ht.move hW169.step nilM hW169.imm)) ?_)
  rintro e_ w176 ⟨cs175, rfl, hr174, hs173⟩
  have hr177 := hr174.move hs173 nilM (fun b o h_ hb_ => hW169.laid (G := F) hs173 b o (.inl h_) (Nat.lt_of_lt_of_le hb_ hs173.size))
  obtain ⟨n178, s179, b180, l181, u182, A183, c184, A185, c186, A187, c188, xs189, ht195, hcs190, h191, h192, h193, h194⟩ := hr177.open_
  rw [hcs190] at hr177
  have hsm196 := h191.small
  have hsm197 := h192.small
  rw [hcs190]
  refine ⟨_, rfl, fun a198 hE199 => ?_⟩
  have hW200 := hW169.next_nil hs173
  have hF201 := hW169.frN hs173
  clear hE172
  refine go_rn [2, 3] [] [(1, .p 0 0), (2, .p 1 0), (3, .p 2 0), (25, .v (.bool (!b180)))] hW200 hE199 fun a202 hE203 => ?_
  clear hE199
  refine wpOps_nil ?_
  refine then_normal ?_
  refine wp_join (Mid := fun a_ w_ => ∃ (A_ : Option Addr) (c_ : Nat) (f_ : Nat → DV), A_.isNone = Tree.null (Tree.at_ (Tree.mk n1 s2 b3 l4 u5) 3) ∧ LstR w_ (Imm F w w_ [⟨b21, 0, [.int .i64 n1, .slice A6 s2.length c7, .bool b3, .slice A8 l4.length c9, .slice A10 u5.length c11], true⟩, ⟨b29, 0, [.string ByteArray.empty, .pointer none, .int .i32 0, .slice none 0 0, .map none], true⟩, ⟨b37, 0, [.string (bs s53), .pointer A120, .int .i32 (IntKind.i32.wrap n141), .slice A_ ((lst (Tree.at_ (Tree.mk n1 s2 b3 l4 u5) 3)).length) c_, .map none], true⟩] []) 19 clOffsetFetchRequestGroupTopic okOffsetFetchRequestGroupTopic relOffsetFetchRequestGroupTopic A_ c_ f_ (lst (Tree.at_ (Tree.mk n1 s2 b3 l4 u5) 3)) ∧ LInv hW200 63 [⟨b21, 0, [.int .i64 n1, .slice A6 s2.length c7, .bool b3, .slice A8 l4.length c9, .slice A10 u5.length c11], true⟩, ⟨b29, 0, [.string ByteArray.empty, .pointer none, .int .i32 0, .slice none 0 0, .map none], true⟩, ⟨b37, 0, [.string (bs s53), .pointer A120, .int .i32 (IntKind.i32.wrap n141), .slice A_ ((lst (Tree.at_ (Tree.mk n1 s2 b3 l4 u5) 3)).length) c_, .map none], true⟩] [] [(1, .p 0 0), (2, .p 1 0), (3, .p 2 0)] a_ w_) ?_ ?_
  ·
    refine cond_of hE203 (b := !b180) (by kernel_rfl) (fun hc204 => ?_) (fun hc204 => ?_)
    ·
      have hnull_ : Tree.null (Tree.at_ (Tree.mk n1 s2 b3 l4 u5) 3) = false := by rw [ht195]; show b180 = false; simpa using hc204
      refine go_seq_region [0, 1, 2, 3, 4, 5, 6] (by kernel_rfl) ?_
      refine go_rn [0] [1, 2, 3, 4, 5, 6] [(1, .p 0 0), (2, .p 1 0), (3, .p 2 0), (26, .v (.agg #[.int .i64 n1, .slice A6 s2.length c7, .bool b3, .slice A8 l4.length c9, .slice A10 u5.length c11]))] hW200 hE203 fun a206 hE207 => ?_
      clear hE203
      refine of_op (wpOp_call hE207 (f := 73) (vs := [.agg #[.int .i64 n1, .slice A6 s2.length c7, .bool b3, .slice A8 l4.length c9, .slice A10 u5.length c11], .int .i64 3]) (d := 27) (by kernel_rfl) Tryz.call73 (iAt _ _ 3 _ _ (ht.move hW200.step nilM hW200.imm)) ?_)
      rintro e_ w211 ⟨cs210, rfl, hr209, hs208⟩
      have hr212 := hr209.move hs208 nilM (fun b o h_ hb_ => hW200.laid (G := F) hs208 b o (.inl h_) (Nat.lt_of_lt_of_le hb_ hs208.size))
      obtain ⟨n213, s214, b215, l216, u217, A218, c219, A220, c221, A222, c223, xs224, ht230, hcs225, h226, h227, h228, h229⟩ := hr212.open_
      rw [hcs225] at hr212
      have hsm231 := h226.small
      have hsm232 := h227.small
      rw [hcs225]
      refine ⟨_, rfl, fun a233 hE234 => ?_⟩
      have hW235 := hW200.next_nil hs208
      have hF236 := hW200.frN hs208
      clear hE207
      have hl3_ : lst (Tree.at_ (Tree.mk n1 s2 b3 l4 u5) 3) = l216 := by rw [lst_of hnull_, ht230]; rfl
      have hb237 : l216.length ≤ 1000000 := by have h_ := cj3; rw [hl3_] at h_; exact h_
      refine go_rn [2, 3] [4, 5, 6] [(1, .p 0 0), (2, .p 1 0), (3, .p 2 0), (29, .v (.int .i64 ((l216.length : Nat) : Int)))] hW235 hE234 fun a238 hE239 => ?_
      clear hE234
      refine of_op (wpOp_make0 hW235 hE239 (d := 30) (j := l216.length) (t := 147) (e := 156) (size := 19) (bytes := 64) (by kernel_rfl) (by kernel_rfl) rfl (rfl) (by omega) fun b240 a241 w242 hb243 hz244 hF245 hW246 hE247 => ?_)
      clear hE239 hW235
      refine go_rn [5] [6] [(1, .p 0 0), (2, .p 1 0), (3, .p 2 0), (30, .v (.slice (some ⟨b240, 0, none⟩) 0 l216.length)), (31, .p 2 3)] hW246 hE247 fun a248 hE249 => ?_
      clear hE247
      refine of_op (wpOp_store hW246 hE249 (oi := 2) (cs := [.string (bs s53), .pointer A120, .int .i32 (IntKind.i32.wrap n141), .slice (some ⟨b240, 0, none⟩) 0 l216.length, .map none]) (by kernel_rfl) fun w250 hF251 hW252 hE253 => ?_)
      clear hE249 hW246
      refine wpOps_nil ?_
      refine then_normal ?_
      refine go_seq_region [0, 1, 2, 3, 4] (by kernel_rfl) ?_
      refine go_rn [0] [1, 2, 3, 4] [(1, .p 0 0), (2, .p 1 0), (3, .p 2 0), (32, .v (.agg #[.int .i64 n1, .slice A6 s2.length c7, .bool b3, .slice A8 l4.length c9, .slice A10 u5.length c11]))] hW252 hE253 fun a254 hE255 => ?_
      clear hE253
      refine of_op (wpOp_call hE255 (f := 73) (vs := [.agg #[.int .i64 n1, .slice A6 s2.length c7, .bool b3, .slice A8 l4.length c9, .slice A10 u5.length c11], .int .i64 3]) (d := 33) (by kernel_rfl) Tryz.call73 (iAt _ _ 3 _ _ (ht.move hW252.step nilM hW252.imm)) ?_)
      rintro e_ w259 ⟨cs258, rfl, hr257, hs256⟩
      have hr260 := hr257.move hs256 nilM (fun b o h_ hb_ => hW252.laid (G := F) hs256 b o (.inl h_) (Nat.lt_of_lt_of_le hb_ hs256.size))
      obtain ⟨n261, s262, b263, l264, u265, A266, c267, A268, c269, A270, c271, xs272, ht278, hcs273, h274, h275, h276, h277⟩ := hr260.open_
      rw [hcs273] at hr260
      have hsm279 := h274.small
      have hsm280 := h275.small
      rw [hcs273]
      refine ⟨_, rfl, fun a281 hE282 => ?_⟩
      have hW283 := hW252.next_nil hs256
      have hF284 := hW252.frN hs256
      clear hE255
      have hl3_ : lst (Tree.at_ (Tree.mk n1 s2 b3 l4 u5) 3) = l264 := by rw [lst_of hnull_, ht278]; rfl
      have hb285 : l264.length ≤ 1000000 := by have h_ := cj3; rw [hl3_] at h_; exact h_
      refine go_rn [2, 3, 4] [] [(1, .p 0 0), (2, .p 1 0), (3, .p 2 0), (34, .v (.slice A268 l264.length c269)), (35, .v (.int .i64 ((l264.length : Nat) : Int))), (36, .v (.int .i64 0))] hW283 hE282 fun a286 hE287 => ?_
      clear hE282
      refine wpOps_nil ?_
      refine then_normal ?_
      refine wp_block ?_
      refine wp_loop_ghost (fun n_ a_ w_ => ∃ (k : Nat) (A_ : Option Addr) (c_ : Nat) (xs_ : List Value) (ds_ : List DV), n_ = l264.length - k ∧ k ≤ l264.length ∧ (A_.isNone = false) ∧ (RowL w_ (Imm F w w_ [⟨b21, 0, [.int .i64 n1, .slice A6 s2.length c7, .bool b3, .slice A8 l4.length c9, .slice A10 u5.length c11], true⟩, ⟨b29, 0, [.string ByteArray.empty, .pointer none, .int .i32 0, .slice none 0 0, .map none], true⟩, ⟨b37, 0, [.string (bs s53), .pointer A120, .int .i32 (IntKind.i32.wrap n141), .slice A_ k c_, .map none], true⟩] [⟨A_, c_, 156, 19, k, xs_⟩]) 19 clOffsetFetchRequestGroupTopic okOffsetFetchRequestGroupTopic relOffsetFetchRequestGroupTopic xs_ ds_ (l264.take k)) ∧ LInv hW283 63 [⟨b21, 0, [.int .i64 n1, .slice A6 s2.length c7, .bool b3, .slice A8 l4.length c9, .slice A10 u5.length c11], true⟩, ⟨b29, 0, [.string ByteArray.empty, .pointer none, .int .i32 0, .slice none 0 0, .map none], true⟩, ⟨b37, 0, [.string (bs s53), .pointer A120, .int .i32 (IntKind.i32.wrap n141), .slice A_ k c_, .map none], true⟩] [⟨A_, c_, 156, 19, k, xs_⟩] [(1, .p 0 0), (2, .p 1 0), (3, .p 2 0), (34, .v (.slice A268 l264.length c269)), (35, .v (.int .i64 ((l264.length : Nat) : Int))), (36, .v (.int .i64 ((k : Nat) : Int)))] a_ w_) (l264.length) ⟨0, (some ⟨b240, 0, none⟩), l216.length, [], [], by omega, by omega, rfl, RowL.nil mvOffsetFetchRequestGroupTopic, hE287.pk, hW283, Fr.refl _ _ _⟩ ?_
      clear hE287
      rintro n288 a289 w290 ⟨k, A_, c_, xs_, ds_, hn293, hk294, hA, hR, hE291, hW292, hF295⟩
      refine go_sp [(1, .p 0 0), (2, .p 1 0), (3, .p 2 0), (34, .v (.slice A268 l264.length c269)), (35, .v (.int .i64 ((l264.length : Nat) : Int))), (36, .v (.int .i64 ((k : Nat) : Int))), (37, .v (.bool (decide (((k : Nat) : Int) < ((l264.length : Nat) : Int)))))] hW292 hE291 fun a296 hE297 => ?_
      clear hE291
      refine wp_seq ?_
      refine cond_of hE297 (b := decide (((k : Nat) : Int) < ((l264.length : Nat) : Int))) (by kernel_rfl) (fun hc298 => ?_) (fun hc298 => ?_)
      ·
        have hf299 := of_decide_eq_true hc298
        refine wp_skip ?_
        refine then_normal ?_
        refine wp_seq ?_
        refine wp_block ?_
        refine go_seq_region [0, 1, 2, 3] (by kernel_rfl) ?_
        obtain ⟨b300, o301, hA302, hl303, hat304⟩ := Slots.get h275 (i := k) (by omega)
        obtain ⟨x305, he306⟩ : ∃ x, l264[k]? = some x := ⟨_, List.getElem?_eq_getElem (by omega)⟩
        have hr307 := h276 k x305 he306
        obtain ⟨n308, s309, b310, l311, u312, A313, c314, A315, c316, A317, c318, xs319, rfl, hcs320, h321, h322, h323, h324⟩ := hr307.open_
        rw [hcs320] at hr307
        have hsm326 := h321.small
        have hsm327 := h322.small
        rw [hcs320] at hat304
        refine of_op (wpOp_index hE297 (t := 36) (A := A268) (m := l264.length) (q := ((k : Nat) : Int)) (d := 38) (by kernel_rfl) (e := 39) (size := 5) (bytes := 88) (by kernel_rfl) hA302 rfl (by omega) fun a328 hE329 => ?_)
        clear hE297
        refine of_op (wpOp_load hE329 (t := 39) (b := b300) (o := o301 + k * 5) (d := 39) (by kernel_rfl) (cs := [.int .i64 n308, .slice A313 s309.length c314, .bool b310, .slice A315 l311.length c316, .slice A317 u312.length c318]) (v := .agg #[.int .i64 n308, .slice A313 s309.length c314, .bool b310, .slice A315 l311.length c316, .slice A317 u312.length c318]) (by kernel_rfl) (AtF.move hat304 hF295.step immM hF295.to').at_ fun a330 hE331 => ?_)
        clear hE329
        refine of_op (wpOp_alloc hW292 hE331 (d := 5) (cs := [.int .i64 0, .slice none 0 0, .bool false, .slice none 0 0, .slice none 0 0]) (by kernel_rfl) fun b332 a333 w334 hb335 hz336 hF337 hW338 hE339 => ?_)
        clear hE331 hW292
        refine of_op (wpOp_store hW338 hE339 (oi := 3) (cs := [.int .i64 n308, .slice A313 s309.length c314, .bool b310, .slice A315 l311.length c316, .slice A317 u312.length c318]) (by kernel_rfl) fun w340 hF341 hW342 hE343 => ?_)
        clear hE339 hW338
        refine wpOps_nil ?_
        refine then_normal ?_
        refine go_drawK 7 (by kernel_rfl) hW342 fun w344 hF345 hW346 hT347 => ?_
        clear hW342
        refine go_rnD [0, 1, 2] [(1, .p 0 0), (2, .p 1 0), (3, .p 2 0), (34, .v (.slice A268 l264.length c269)), (35, .v (.int .i64 ((l264.length : Nat) : Int))), (36, .v (.int .i64 ((k : Nat) : Int))), (41, .v (.slice A_ k c_)), (42, .v (.agg #[.int .i64 n308, .slice A313 s309.length c314, .bool b310, .slice A315 l311.length c316, .slice A317 u312.length c318]))] 5 (panicFree_block (panicFree_then (panicFree_then (panicFree_block (panicFree_then panicFree_body))))) (fun _ h => h.cells) hT347 hE343 fun a348 hE349 => ?_
        clear hE343
        refine anyC_op (i := 3) (by kernel_rfl) (wpOp_call hE349 (f := 136) (vs := [.agg #[.int .i64 n308, .slice A313 s309.length c314, .bool b310, .slice A315 l311.length c316, .slice A317 u312.length c318]]) (d := 43) (by kernel_rfl) Tryz.call136 (eOffsetFetchRequestGroupTopic _ _ _ _ (hr307.move (Fr.trans (Fr.trans (Fr.trans hF295 hF337) hF341) hF345).step immM (Fr.trans (Fr.trans (Fr.trans hF295 hF337) hF341) hF345).to') (cj3e _ (by rw [hl3_]; exact List.mem_of_getElem? he306))) ?_)
        rintro e_ w355 ⟨D353, rfl, hk351, hrel352, hs350⟩
        have hk354 := mvOffsetFetchRequestGroupTopic _ (Step.refl _ Nil) nilM (hW346.laid (G := F) hs350) hk351
        refine ⟨_, rfl, fun a356 hE357 => ?_⟩
        have hW358 := hW346.next_nil hs350
        have hF359 := hW346.frN hs350
        clear hE349
        have hT360 := TT.ofW hF359 hW358
        refine ⟨fun _ => hT360, ?_⟩
        refine anyC_op (i := 4) (by kernel_rfl) (wpOp_lit hW358 hE357 (e := 156) (size := 19) (len := 1) (cs := [.string ((D353.f 0).s), byteCell ((D353.f 1).o.getD 0 0), byteCell ((D353.f 1).o.getD 1 0), byteCell ((D353.f 1).o.getD 2 0), byteCell ((D353.f 1).o.getD 3 0), byteCell ((D353.f 1).o.getD 4 0), byteCell ((D353.f 1).o.getD 5 0), byteCell ((D353.f 1).o.getD 6 0), byteCell ((D353.f 1).o.getD 7 0), byteCell ((D353.f 1).o.getD 8 0), byteCell ((D353.f 1).o.getD 9 0), byteCell ((D353.f 1).o.getD 10 0), byteCell ((D353.f 1).o.getD 11 0), byteCell ((D353.f 1).o.getD 12 0), byteCell ((D353.f 1).o.getD 13 0), byteCell ((D353.f 1).o.getD 14 0), byteCell ((D353.f 1).o.getD 15 0), .slice ((D353.f 2).A) ((D353.f 2).l) ((D353.f 2).c), .map D353.m]) (d := 44) (by kernel_rfl) (by kernel_rfl) fun b361 a362 w363 hb364 hz365 hF366 hW367 hE368 => ?_)
        clear hE357 hW358
        have hT369 := TT.ofW (Fr.trans hF359 hF366) hW367
        refine ⟨fun _ => hT369, ?_⟩
        refine anyC_op (i := 5) (by kernel_rfl) (wpOp_append hW367 hE368 (k := 0) (d := 45) (t := 147) (e := 156) (size := 19) (bytes := 64) (A := A_) (As := (some ⟨b361, 0, none⟩)) (m0 := k) (c := c_) (m := 1) (cs := 1) (xs := xs_) (news := [.string ((D353.f 0).s), byteCell ((D353.f 1).o.getD 0 0), byteCell ((D353.f 1).o.getD 1 0), byteCell ((D353.f 1).o.getD 2 0), byteCell ((D353.f 1).o.getD 3 0), byteCell ((D353.f 1).o.getD 4 0), byteCell ((D353.f 1).o.getD 5 0), byteCell ((D353.f 1).o.getD 6 0), byteCell ((D353.f 1).o.getD 7 0), byteCell ((D353.f 1).o.getD 8 0), byteCell ((D353.f 1).o.getD 9 0), byteCell ((D353.f 1).o.getD 10 0), byteCell ((D353.f 1).o.getD 11 0), byteCell ((D353.f 1).o.getD 12 0), byteCell ((D353.f 1).o.getD 13 0), byteCell ((D353.f 1).o.getD 14 0), byteCell ((D353.f 1).o.getD 15 0), .slice ((D353.f 2).A) ((D353.f 2).l) ((D353.f 2).c), .map D353.m]) (by kernel_rfl) (by kernel_rfl) rfl (own_src (hW367.own 1 _ rfl) (allOne_ok (by kernel_rfl))) (own_cap (hW367.own 1 _ rfl)) (by omega) fun A370 c371 a372 w373 hF374 hW375 hE376 => ?_)
        clear hE368 hW367
        have hT377 := TT.ofW (Fr.trans (Fr.trans hF359 hF366) hF374) hW375
        refine ⟨fun _ => hT377, ?_⟩
        refine go_rnD [6] [(1, .p 0 0), (2, .p 1 0), (3, .p 2 0), (34, .v (.slice A268 l264.length c269)), (35, .v (.int .i64 ((l264.length : Nat) : Int))), (36, .v (.int .i64 ((k : Nat) : Int))), (45, .v (.slice A370 (k + 1) c371)), (46, .p 2 3)] 1 (panicFree_block (panicFree_then (panicFree_then (panicFree_block (panicFree_then panicFree_body))))) (fun _ h => h.cells) hT377 hE376 fun a378 hE379 => ?_
        clear hE376
        refine anyC_op (i := 7) (by kernel_rfl) (wpOp_store hW375 hE379 (oi := 2) (cs := [.string (bs s53), .pointer A120, .int .i32 (IntKind.i32.wrap n141), .slice A370 (k + 1) c371, .map none]) (by kernel_rfl) fun w380 hF381 hW382 hE383 => ?_)
        clear hE379 hW375
        refine ⟨fun h => absurd rfl h, ?_⟩
        refine anyC_done (by kernel_rfl) ?_ _
        refine block_normal ?_
        refine then_normal ?_
        refine go_region [0, 1] (by kernel_rfl) ?_
        refine go_rn [0, 1] [] [(1, .p 0 0), (2, .p 1 0), (3, .p 2 0), (34, .v (.slice A268 l264.length c269)), (35, .v (.int .i64 ((l264.length : Nat) : Int))), (36, .v (.int .i64 (IntKind.i64.wrap (((k : Nat) : Int) + 1))))] hW382 hE383 fun a384 hE385 => ?_
        clear hE383
        refine wpOps_nil ?_
        refine then_normal ?_
        obtain ⟨hE386, hW387, hF388⟩ := hW382.cutB hE385 3 [⟨b21, 0, [.int .i64 n1, .slice A6 s2.length c7, .bool b3, .slice A8 l4.length c9, .slice A10 u5.length c11], true⟩, ⟨b29, 0, [.string ByteArray.empty, .pointer none, .int .i32 0, .slice none 0 0, .map none], true⟩, ⟨b37, 0, [.string (bs s53), .pointer A120, .int .i32 (IntKind.i32.wrap n141), .slice A370 (k + 1) c371, .map none], true⟩] [(1, .p 0 0), (2, .p 1 0), (3, .p 2 0), (34, .v (.slice A268 l264.length c269)), (35, .v (.int .i64 ((l264.length : Nat) : Int))), (36, .v (.int .i64 (IntKind.i64.wrap (((k : Nat) : Int) + 1))))]
        obtain ⟨hW389, hF390⟩ := hW387.cutR 1 [⟨A370, c371, 156, 19, k + 1, xs_ ++ [.string ((D353.f 0).s), byteCell ((D353.f 1).o.getD 0 0), byteCell ((D353.f 1).o.getD 1 0), byteCell ((D353.f 1).o.getD 2 0), byteCell ((D353.f 1).o.getD 3 0), byteCell ((D353.f 1).o.getD 4 0), byteCell ((D353.f 1).o.getD 5 0), byteCell ((D353.f 1).o.getD 6 0), byteCell ((D353.f 1).o.getD 7 0), byteCell ((D353.f 1).o.getD 8 0), byteCell ((D353.f 1).o.getD 9 0), byteCell ((D353.f 1).o.getD 10 0), byteCell ((D353.f 1).o.getD 11 0), byteCell ((D353.f 1).o.getD 12 0), byteCell ((D353.f 1).o.getD 13 0), byteCell ((D353.f 1).o.getD 14 0), byteCell ((D353.f 1).o.getD 15 0), .slice ((D353.f 2).A) ((D353.f 2).l) ((D353.f 2).c), .map D353.m]⟩]
        have he391 : IntKind.i64.wrap (((k : Nat) : Int) + 1) = ((k + 1 : Nat) : Int) := wrap_succ (by omega)
        rw [he391] at hE386
        exact ⟨l264.length - (k + 1), by omega, k + 1, A370, c371, xs_ ++ [Value.string ((D353.f 0).s), byteCell ((D353.f 1).o.getD 0 0), byteCell ((D353.f 1).o.getD 1 0), byteCell ((D353.f 1).o.getD 2 0), byteCell ((D353.f 1).o.getD 3 0), byteCell ((D353.f 1).o.getD 4 0), byteCell ((D353.f 1).o.getD 5 0), byteCell ((D353.f 1).o.getD 6 0), byteCell ((D353.f 1).o.getD 7 0), byteCell ((D353.f 1).o.getD 8 0), byteCell ((D353.f 1).o.getD 9 0), byteCell ((D353.f 1).o.getD 10 0), byteCell ((D353.f 1).o.getD 11 0), byteCell ((D353.f 1).o.getD 12 0), byteCell ((D353.f 1).o.getD 13 0), byteCell ((D353.f 1).o.getD 14 0), byteCell ((D353.f 1).o.getD 15 0), .slice ((D353.f 2).A) ((D353.f 2).l) ((D353.f 2).c), .map D353.m], (ds_ ++ [D353]), rfl, by omega, own_some hW389 (k := 0) rfl (by omega), RowL.snoc (d := D353) (hR.move (Fr.trans (Fr.trans (Fr.trans (Fr.trans (Fr.trans (Fr.trans (Fr.trans (Fr.trans hF337 hF341) hF345) hF359) hF366) hF374) hF381) hF388) hF390).step immM (Fr.trans (Fr.trans (Fr.trans (Fr.trans (Fr.trans (Fr.trans (Fr.trans (Fr.trans hF337 hF341) hF345) hF359) hF366) hF374) hF381) hF388) hF390).to') he306 rfl (mvOffsetFetchRequestGroupTopic _ (Fr.trans (Fr.trans (Fr.trans (Fr.trans hF366 hF374) hF381) hF388) hF390).step immM (Fr.trans (Fr.trans (Fr.trans (Fr.trans hF366 hF374) hF381) hF388) hF390).to' hk354) hrel352, hE386.pk, hW389, (Fr.trans (Fr.trans (Fr.trans (Fr.trans (Fr.trans (Fr.trans (Fr.trans (Fr.trans (Fr.trans hF295 hF337) hF341) hF345) hF359) hF366) hF374) hF381) hF388) hF390)⟩
      ·
        have hf392 := of_decide_eq_false hc298
        refine wp_exit ?_
        refine then_exit ?_
        refine then_exit ?_
        refine block_exit ?_
        refine then_normal ?_
        have hk_ : k = (lst (Tree.at_ (Tree.mk n1 s2 b3 l4 u5) 3)).length := by rw [hl3_]; omega
        subst k
        have hL_ := LstR.of hW292 (k := 0) (rs' := []) rfl hR (by rw [hl3_]) oneOffsetFetchRequestGroupTopic (by omega)
        rw [← hl3_] at hL_
        obtain ⟨hW393, hF394⟩ := hW292.cutR 0 []
        exact ⟨_, _, _, by rw [hnull_]; exact hA, hL_, hE297.pk, hW393, (Fr.trans (Fr.trans (Fr.trans (Fr.trans (Fr.trans hF236 hF245) hF251) hF284) hF295) hF394)⟩
    ·
      refine wp_skip ?_
      refine then_normal ?_
      have hn_ : Tree.null (Tree.at_ (Tree.mk n1 s2 b3 l4 u5) 3) = true := by rw [ht195]; show b180 = true; simpa using hc204
      have hl_ := lst_no hn_
      exact ⟨none, 0, fun _ => dv0, by rw [hn_]; rfl, by rw [hl_]; exact LstR.nil mvOffsetFetchRequestGroupTopic, by rw [hl_]; exact ⟨hE203.pk, hW200, Fr.refl _ _ _⟩⟩
  rintro a404 w405 ⟨A396, c397, f398, hn399, hL400, hE401, hW402, hF403⟩
  refine wp_seq ?_
  refine go_sp [(2, .p 1 0), (3, .p 2 0), (49, .v (.slice A10 u5.length c11)), (50, .v (.int .i64 ((u5.length : Nat) : Int))), (51, .v (.int .i64 0))] hW402 hE401 fun a406 hE407 => ?_
  clear hE401
  refine wp_block ?_
  have hp408 := new_of hW402 2 rfl (by kernel_rfl)
  have hE412 := hE407.recast 2 (.p 1 0) (.v (.pointer (some ⟨b29, 0, none⟩))) rfl rfl trivial
  have hE413 := hE412.recast 3 (.p 2 0) (.v (.pointer (some ⟨b37, 0, none⟩))) rfl rfl trivial
  have hE410 := (hE413.pick (ks := [2, 3, 49, 50, 51]) (env' := [(2, .v (.pointer (some ⟨b29, 0, none⟩))), (3, .v (.pointer (some ⟨b37, 0, none⟩))), (49, .v (.slice A10 u5.length c11)), (50, .v (.int .i64 ((u5.length : Nat) : Int))), (51, .v (.int .i64 0))]) (by kernel_rfl)).cutTb 0 (by kernel_rfl)
  refine wp_loop_ghost (fun q a_ w_ => ∃ (j : Nat) (m_ : Option Nat), q = u5.length - j ∧ j ≤ u5.length ∧ EnvOk 63 [] [(2, .v (.pointer (some ⟨b29, 0, none⟩))), (3, .v (.pointer (some ⟨b37, 0, none⟩))), (49, .v (.slice A10 u5.length c11)), (50, .v (.int .i64 ((u5.length : Nat) : Int))), (51, .v (.int .i64 ((j : Nat) : Int)))] a_ ∧ TL w w405 w_ F b37 4 [.string (bs s53), .pointer A120, .int .i32 (IntKind.i32.wrap n141), .slice A396 ((lst (Tree.at_ (Tree.mk n1 s2 b3 l4 u5) 3)).length) c397, .map none] m_ (u5.take j)) u5.length
    ⟨0, none, by omega, by omega, hE410, TL.start hW402 2 rfl rfl⟩ ?_
  rintro q aq wq ⟨j, m_, rfl, hj, hE2, hT⟩
  have hWq := WOk.start wq Nil
  refine go_sp [(2, .v (.pointer (some ⟨b29, 0, none⟩))), (3, .v (.pointer (some ⟨b37, 0, none⟩))), (49, .v (.slice A10 u5.length c11)), (50, .v (.int .i64 ((u5.length : Nat) : Int))), (51, .v (.int .i64 ((j : Nat) : Int))), (52, .v (.bool (decide (((j : Nat) : Int) < ((u5.length : Nat) : Int)))))] hWq hE2 fun aq2 hE3 => wp_seq ?_
  refine cond_of hE3 (b := decide (((j : Nat) : Int) < ((u5.length : Nat) : Int))) (by kernel_rfl) (fun hc => ?_) (fun hc => ?_)
  · have hlt : j < u5.length := by have := of_decide_eq_true hc; omega
    refine wp_skip (then_normal (wp_seq (wp_block ?_)))
    obtain ⟨⟨k, x⟩, hu⟩ : ∃ y, u5[j]? = some y := ⟨_, List.getElem?_eq_getElem hlt⟩
    obtain ⟨bb, bo, xA, xc, hA, hat, hxo, hk⟩ := tag_at h17 hu
    refine go_seq_region [0, 1, 2, 3] (by kernel_rfl) ?_
    refine of_op (wpOp_index hE3 (t := 37) (e := 64) (size := 2) (bytes := 32) (d := 53) (b := bb) (o := bo) (m := u5.length) (j := j) (by kernel_rfl) (by kernel_rfl) hA rfl hlt fun aq3 hE4 => ?_)
    refine of_op (wpOp_load hE4 (t := 64) (d := 54) (cs := [.int .u32 k, .slice xA x.length xc]) (v := .agg #[.int .u32 k, .slice xA x.length xc]) (by kernel_rfl) (by kernel_rfl) (hat.step_nil hT.step) fun aq4 hE5 => ?_)
    refine of_op (wpOp_alloc hWq hE5 (d := 7) (cs := [.int .u32 0, .slice none 0 0]) (by kernel_rfl) fun bx aq5 wq2 hbx hbx0 hFq2 hWq2 hE6 => ?_)
    refine of_op (wpOp_store hWq2 hE6 (oi := 0) (cs := [.int .u32 k, .slice xA x.length xc]) (by kernel_rfl) fun wq3 hFq3 hWq3 hE7 => wpOps_nil (then_normal ?_))
    refine go_region [0, 1, 2, 3, 4, 5] (by kernel_rfl) (go_rn [0, 1, 2, 3, 4] [5] [(2, .v (.pointer (some ⟨b29, 0, none⟩))), (3, .v (.pointer (some ⟨b37, 0, none⟩))), (49, .v (.slice A10 u5.length c11)), (50, .v (.int .i64 ((u5.length : Nat) : Int))), (51, .v (.int .i64 ((j : Nat) : Int))), (55, .v (.pointer (some ⟨b37, 4, none⟩))), (57, .v (.int .u32 k)), (59, .v (.slice xA x.length xc))] hWq3 hE7 fun aq6 hE8 => ?_)
    refine of_op (wpOp_call hE8 (f := 75) (vs := [.pointer (some ⟨b37, 4, none⟩), .int .u32 k, .slice xA x.length xc]) (d := 60) (by kernel_rfl) Tryz.call75 ((hT.move hWq3.step).set hp408 (by kernel_rfl) hsort hu hxo hk) ?_)
    rintro e_ wq5 ⟨rfl, hS5, r, hT5⟩
    refine ⟨_, rfl, fun aq7 hE9 => wpOps_nil (block_normal (then_normal ?_))⟩
    have hE10 := (hE9.pick (ks := [2, 3, 49, 50, 51]) (env' := [(2, .v (.pointer (some ⟨b29, 0, none⟩))), (3, .v (.pointer (some ⟨b37, 0, none⟩))), (49, .v (.slice A10 u5.length c11)), (50, .v (.int .i64 ((u5.length : Nat) : Int))), (51, .v (.int .i64 ((j : Nat) : Int)))]) (by kernel_rfl)).cutTb 0 (by kernel_rfl)
    refine go_region [0, 1] (by kernel_rfl) (go_rn [0, 1] [] [(2, .v (.pointer (some ⟨b29, 0, none⟩))), (3, .v (.pointer (some ⟨b37, 0, none⟩))), (49, .v (.slice A10 u5.length c11)), (50, .v (.int .i64 ((u5.length : Nat) : Int))), (51, .v (.int .i64 (IntKind.i64.wrap (((j : Nat) : Int) + 1))))] (WOk.start wq5 Nil) hE10 fun aq8 hE11 => wpOps_nil (then_normal ?_))
    rw [wrap_succ (by omega)] at hE11
    exact ⟨u5.length - (j + 1), by omega, j + 1, some r, rfl, by omega, hE11, hT5⟩
  · obtain rfl : j = u5.length := by have := of_decide_eq_false hc; omega
    refine wp_exit (then_exit (then_exit (block_exit ?_)))
    rw [List.take_length] at hT
    obtain ⟨hW414, hF415⟩ := hT.tab hW402 2 [⟨b21, 0, [.int .i64 n1, .slice A6 s2.length c7, .bool b3, .slice A8 l4.length c9, .slice A10 u5.length c11], true⟩, ⟨b29, 0, [.string ByteArray.empty, .pointer none, .int .i32 0, .slice none 0 0, .map none], true⟩, ⟨b37, 0, [.string (bs s53), .pointer A120, .int .i32 (IntKind.i32.wrap n141), .slice A396 ((lst (Tree.at_ (Tree.mk n1 s2 b3 l4 u5) 3)).length) c397, .map m_], true⟩] rfl
    have hM416 := hT.mapImm hW402 hW414 hF415 hsort (tags_range h17)
    have hE417 := (hE3.retable [⟨b21, 0, [.int .i64 n1, .slice A6 s2.length c7, .bool b3, .slice A8 l4.length c9, .slice A10 u5.length c11], true⟩, ⟨b29, 0, [.string ByteArray.empty, .pointer none, .int .i32 0, .slice none 0 0, .map none], true⟩, ⟨b37, 0, [.string (bs s53), .pointer A120, .int .i32 (IntKind.i32.wrap n141), .slice A396 ((lst (Tree.at_ (Tree.mk n1 s2 b3 l4 u5) 3)).length) c397, .map m_], true⟩]).recast 2 (.v (.pointer (some ⟨b29, 0, none⟩))) (.p 1 0) rfl rfl (Nat.le_of_ble_eq_true (n := 2) rfl)
    have hE418 := hE417.recast 3 (.v (.pointer (some ⟨b37, 0, none⟩))) (.p 2 0) rfl rfl (Nat.le_of_ble_eq_true (n := 3) rfl)
    have hE419 : EnvOk 63 [⟨b21, 0, [.int .i64 n1, .slice A6 s2.length c7, .bool b3, .slice A8 l4.length c9, .slice A10 u5.length c11], true⟩, ⟨b29, 0, [.string ByteArray.empty, .pointer none, .int .i32 0, .slice none 0 0, .map none], true⟩, ⟨b37, 0, [.string (bs s53), .pointer A120, .int .i32 (IntKind.i32.wrap n141), .slice A396 ((lst (Tree.at_ (Tree.mk n1 s2 b3 l4 u5) 3)).length) c397, .map m_], true⟩] [(2, .p 1 0), (3, .p 2 0)] _ := hE418.pk
    refine then_normal ?_
    refine go_seq_region [0, 1] (by kernel_rfl) ?_
    refine go_rn [0] [1] [(2, .p 1 0), (62, .v (.agg #[.string (bs s53), .pointer A120, .int .i32 (IntKind.i32.wrap n141), .slice A396 ((lst (Tree.at_ (Tree.mk n1 s2 b3 l4 u5) 3)).length) c397, .map m_]))] hW414 hE419 fun a420 hE421 => ?_
    clear hE419
    refine of_op (wpOp_store hW414 hE421 (oi := 1) (cs := [.string (bs s53), .pointer A120, .int .i32 (IntKind.i32.wrap n141), .slice A396 ((lst (Tree.at_ (Tree.mk n1 s2 b3 l4 u5) 3)).length) c397, .map m_]) (by kernel_rfl) fun w422 hF423 hW424 hE425 => ?_)
    clear hE421 hW414
    refine wpOps_nil ?_
    refine then_normal ?_
    refine wp_ret ?_
    refine leave hE425 hW424.cells (v := .agg #[.string (bs s53), .pointer A120, .int .i32 (IntKind.i32.wrap n141), .slice A396 ((lst (Tree.at_ (Tree.mk n1 s2 b3 l4 u5) 3)).length) c397, .map m_]) (by kernel_rfl) ?_
    refine ⟨dvP m_ u5 [dvS (bs s53), dvT A120 (bs (octOf (Tree.at_ (Tree.mk n1 s2 b3 l4 u5) 1))), dvN (IntKind.i32.wrap n141), dvL A396 (lst (Tree.at_ (Tree.mk n1 s2 b3 l4 u5) 3)).length c397 f398], rfl, ?_, ?_, hW424.step⟩
    · unfold okOffsetFetchRequestGroup
      exact ⟨by show ByteArray.size (bs s53) ≤ 1000000; rw [bs_size]; have h_ := cj0; rw [ht69] at h_; exact h_, ⟨fun ad h => by
      obtain ⟨b, o, g1, g2⟩ := hr122 ad h
      exact ⟨b, o, g1, ((g2.move (Fr.trans (Fr.trans (Fr.trans (Fr.trans (Fr.trans (Fr.trans hF131 hF164) hF168) hF201) hF403) hF415) hF423).step immM (Fr.trans (Fr.trans (Fr.trans (Fr.trans (Fr.trans (Fr.trans hF131 hF164) hF168) hF201) hF403) hF415) hF423).to').move (Step.refl _ Nil) nilM immOut)⟩, by show ByteArray.size (bs (octOf (Tree.at_ (Tree.mk n1 s2 b3 l4 u5) 1))) ≤ 1000000; rw [bs_size]; exact cj1⟩, trivial, ⟨((hL400.move (Fr.trans hF415 hF423).step immM (Fr.trans hF415 hF423).to').move (Step.refl _ Nil) nilM immOut).slots, cj3, ((hL400.move (Fr.trans hF415 hF423).step immM (Fr.trans hF415 hF423).to').move (Step.refl _ Nil) nilM immOut).each⟩, ((hM416.move hF423.step immM hF423.to').move (Step.refl _ Nil) nilM immOut), cU.2.1, cU.2.2, trivial⟩
    · unfold relOffsetFetchRequestGroup
      exact ⟨by rw [ht69]; rfl, ⟨rfl, hn119⟩, by rw [ht158]; rfl, ⟨hn399, rfl, hL400.rel_⟩, rfl, trivial⟩

def makeOffsetFetchRequest (v : Int) (T : Tree) : Bs := tOffsetFetchRequest (IntKind.i16.wrap v) T
set_option maxHeartbeats 4000000 in
theorem mOffsetFetchRequest (v : Int) (ct : List Value) (t : Tree) (w : World) (F : Nat → Nat → Prop) (ht : TreeR w F ct t) (hc : canOffsetFetchRequest t) (hroom : (makeOffsetFetchRequest v t).length + 16 ≤ 1099511627776) :
    Calls Tryz.prog 22 #[.int .i64 v, .agg ct.toArray] w (FreshB w 5 (makeOffsetFetchRequest v t)) := by
  obtain ⟨n1, s2, b3, l4, u5, A6, c7, A8, c9, A10, c11, xs12, rfl, rfl, h14, h15, h16, h17⟩ := ht.open_
  have hsm19 := h14.small
  have hsm20 := h15.small
  unfold canOffsetFetchRequest at hc
  obtain ⟨cj0, ⟨cj1, cj1e⟩, ⟨cj2, cj2e⟩, cj3, cU, _⟩ := hc
  have hsort := cU.1
  replace hsort : Sorted u5 := hsort
  have hul : u5.length ≤ 1000000 := cU.2.1
  refine enter (n := 17) Tryz.func22 rfl Tryz.ntmps22 (by kernel_rfl) fun a hE => ?_
  have hW := WOk.start w Nil
  refine go_seq_region [0, 1] (by kernel_rfl) ?_
  refine of_op (wpOp_box hW hE (d := 3) (cs := [.int .i64 n1, .slice A6 s2.length c7, .bool b3, .slice A8 l4.length c9, .slice A10 u5.length c11]) (by kernel_rfl) fun b21 a22 w23 hb24 hz25 hF26 hW27 hE28 => ?_)
  clear hE hW
  refine go_rn [1] [] [(0, .v (.int .i64 v)), (3, .p 0 0)] hW27 hE28 fun a29 hE30 => ?_
  clear hE28
  refine wpOps_nil ?_
  refine then_normal ?_
  refine go_seq_region [0, 1, 2] (by kernel_rfl) ?_
  refine go_rn [0] [1, 2] [(0, .v (.int .i64 v)), (3, .p 0 0), (6, .v (.agg #[.int .i16 0, .string ByteArray.empty, .slice none 0 0, .slice none 0 0, .bool false, .map none]))] hW27 hE30 fun a31 hE32 => ?_
  clear hE30
  refine of_op (wpOp_box hW27 hE32 (d := 7) (cs := [.int .i16 0, .string ByteArray.empty, .slice none 0 0, .slice none 0 0, .bool false, .map none]) (by kernel_rfl) fun b33 a34 w35 hb36 hz37 hF38 hW39 hE40 => ?_)
  clear hE32 hW27
  refine go_rn [2] [] [(0, .v (.int .i64 v)), (3, .p 0 0), (5, .p 1 0)] hW39 hE40 fun a41 hE42 => ?_
  clear hE40
  refine wpOps_nil ?_
  refine then_normal ?_
  refine go_seq_region [0, 1, 2, 3] (by kernel_rfl) ?_
  refine go_rn [0, 1, 2] [3] [(3, .p 0 0), (5, .p 1 0), (8, .p 1 0), (10, .v (.int .i16 (IntKind.i16.wrap v)))] hW39 hE42 fun a43 hE44 => ?_
  clear hE42
  refine of_op (wpOp_inline hE44 (f := 51) (vs := [.pointer (some ⟨b33, 0, none⟩), .int .i16 (IntKind.i16.wrap v)]) (d := 11) (n' := 8) (by kernel_rfl) Tryz.call51 Tryz.func51 rfl Tryz.ntmps51 (by kernel_rfl) fun a45 hE46 => ?_)
  have hE47 := hE46.recast 0 (.v (.pointer (some ⟨b33, 0, none⟩))) (.p 1 0) rfl rfl (Nat.le_of_ble_eq_true (n := 2) rfl)
  refine go_region [0, 1, 2, 3, 4] (by kernel_rfl) ?_
  refine go_rn [0, 1, 2, 3] [4] [(5, .v (.int .i16 (IntKind.i16.wrap v))), (7, .p 1 0)] hW39 hE47 fun a48 hE49 => ?_
  clear hE47
  refine of_op (wpOp_store hW39 hE49 (oi := 1) (cs := [.int .i16 (IntKind.i16.wrap v), .string ByteArray.empty, .slice none 0 0, .slice none 0 0, .bool false, .map none]) (by kernel_rfl) fun w50 hF51 hW52 hE53 => ?_)
  clear hE49 hW39
  refine wpOps_nil ?_
  refine leave_end hE53 hW52.cells (v := .tuple #[]) (by kernel_rfl) ?_
  refine ⟨_, rfl, fun a54 hE55 => ?_⟩
  have hE56 : EnvOk 17 [⟨b21, 0, [.int .i64 n1, .slice A6 s2.length c7, .bool b3, .slice A8 l4.length c9, .slice A10 u5.length c11], true⟩, ⟨b33, 0, [.int .i16 (IntKind.i16.wrap v), .string ByteArray.empty, .slice none 0 0, .slice none 0 0, .bool false, .map none], true⟩] [(11, .v (.tuple #[])), (3, .p 0 0), (5, .p 1 0), (8, .p 1 0), (10, .v (.int .i16 (IntKind.i16.wrap v)))] _ := hE55.places (⟨rfl, rfl, ⟨rfl, rfl, trivial⟩⟩)
  refine wpOps_nil ?_
  refine then_normal ?_
  refine go_seq_region [0, 1, 2] (by kernel_rfl) ?_
  refine go_rn [0, 1] [2] [(5, .p 1 0), (12, .p 1 0), (13, .v (.agg #[.int .i64 n1, .slice A6 s2.length c7, .bool b3, .slice A8 l4.length c9, .slice A10 u5.length c11]))] hW52 hE56 fun a57 hE58 => ?_
  clear hE56
  refine of_op (wpOp_inline hE58 (f := 52) (vs := [.pointer (some ⟨b33, 0, none⟩), .agg #[.int .i64 n1, .slice A6 s2.length c7, .bool b3, .slice A8 l4.length c9, .slice A10 u5.length c11]]) (d := 14) (n' := 105) (by kernel_rfl) Tryz.call52 Tryz.func52 rfl Tryz.ntmps52 (by kernel_rfl) fun a59 hE60 => ?_)
  have hE61 := hE60.recast 0 (.v (.pointer (some ⟨b33, 0, none⟩))) (.p 1 0) rfl rfl (Nat.le_of_ble_eq_true (n := 2) rfl)
  refine go_seq_region [0] (by kernel_rfl) ?_
  refine of_op (wpOp_box hW52 hE61 (d := 3) (cs := [.int .i64 n1, .slice A6 s2.length c7, .bool b3, .slice A8 l4.length c9, .slice A10 u5.length c11]) (by kernel_rfl) fun b62 a63 w64 hb65 hz66 hF67 hW68 hE69 => ?_)
  clear hE61 hW52
  refine wpOps_nil ?_
  refine then_normal ?_
  refine go_seq_region [0, 1, 2, 3, 4, 5, 6, 7] (by kernel_rfl) ?_
  refine go_rn [0, 1] [2, 3, 4, 5, 6, 7] [(0, .p 1 0), (3, .p 2 0), (10, .p 1 0), (11, .v (.agg #[.int .i64 n1, .slice A6 s2.length c7, .bool b3, .slice A8 l4.length c9, .slice A10 u5.length c11]))] hW68 hE69 fun a70 hE71 => ?_
  clear hE69
  refine of_op (wpOp_call hE71 (f := 73) (vs := [.agg #[.int .i64 n1, .slice A6 s2.length c7, .bool b3, .slice A8 l4.length c9, .slice A10 u5.length c11], .int .i64 0]) (d := 12) (by kernel_rfl) Tryz.call73 (iAt _ _ 0 _ _ (ht.move hW68.step nilM hW68.imm)) ?_)
  rintro e_ w75 ⟨cs74, rfl, hr73, hs72⟩
  have hr76 := hr73.move hs72 nilM (fun b o h_ hb_ => hW68.laid (G := F) hs72 b o (.inl h_) (Nat.lt_of_lt_of_le hb_ hs72.size))
  obtain ⟨n77, s78, b79, l80, u81, A82, c83, A84, c85, A86, c87, xs88, ht94, hcs89, h90, h91, h92, h93⟩ := hr76.open_
  rw [hcs89] at hr76
  have hsm95 := h90.small
  have hsm96 := h91.small
  rw [hcs89]
  refine ⟨_, rfl, fun a97 hE98 => ?_⟩
  have hW99 := hW68.next_nil hs72
  have hF100 := hW68.frN hs72
  clear hE71
  refine go_rn [3] [4, 5, 6, 7] [(0, .p 1 0), (3, .p 2 0), (10, .p 1 0), (13, .v (.slice A82 s78.length c83))] hW99 hE98 fun a101 hE102 => ?_
  clear hE98
  refine of_op (wpOp_conv hE102 (src := 22) (dst := 9) (e := 5) (d := 14) (by kernel_rfl) (by kernel_rfl) (by kernel_rfl) (by kernel_rfl) h90 fun a103 hE104 => ?_)
  clear hE102
  refine go_rn [5, 6] [7] [(0, .p 1 0), (3, .p 2 0), (14, .v (.string (bs s78))), (16, .p 1 1)] hW99 hE104 fun a105 hE106 => ?_
  clear hE104
  refine of_op (wpOp_store hW99 hE106 (oi := 1) (cs := [.int .i16 (IntKind.i16.wrap v), .string (bs s78), .slice none 0 0, .slice none 0 0, .bool false, .map none]) (by kernel_rfl) fun w107 hF108 hW109 hE110 => ?_)
  clear hE106 hW99
  refine wpOps_nil ?_
  refine then_normal ?_
  refine wp_seq ?_
  refine go_seq_region [0, 1, 2, 3] (by kernel_rfl) ?_
  refine go_rn [0] [1, 2, 3] [(0, .p 1 0), (3, .p 2 0), (17, .v (.agg #[.int .i64 n1, .slice A6 s2.length c7, .bool b3, .slice A8 l4.length c9, .slice A10 u5.length c11]))] hW109 hE110 fun a111 hE112 => ?_
  clear hE110
  refine of_op (wpOp_call hE112 (f := 73) (vs := [.agg #[.int .i64 n1, .slice A6 s2.length c7, .bool b3, .slice A8 l4.length c9, .slice A10 u5.length c11], .int .i64 1]) (d := 18) (by kernel_rfl) Tryz.call73 (iAt _ _ 1 _ _ (ht.move hW109.step nilM hW109.imm)) ?_)
  rintro e_ w116 ⟨cs115, rfl, hr114, hs113⟩
  have hr117 := hr114.move hs113 nilM (fun b o h_ hb_ => hW109.laid (G := F) hs113 b o (.inl h_) (Nat.lt_of_lt_of_le hb_ hs113.size))
  obtain ⟨n118, s119, b120, l121, u122, A123, c124, A125, c126, A127, c128, xs129, ht135, hcs130, h131, h132, h133, h134⟩ := hr117.open_
  rw [hcs130] at hr117
  have hsm136 := h131.small
  have hsm137 := h132.small
  rw [hcs130]
  refine ⟨_, rfl, fun a138 hE139 => ?_⟩
  have hW140 := hW109.next_nil hs113
  have hF141 := hW109.frN hs113
  clear hE112
  refine go_rn [2, 3] [] [(0, .p 1 0), (3, .p 2 0), (20, .v (.bool (!b120)))] hW140 hE139 fun a142 hE143 => ?_
  clear hE139
  refine wpOps_nil ?_
  refine then_normal ?_
  refine wp_join (Mid := fun a_ w_ => ∃ (A_ : Option Addr) (c_ : Nat) (f_ : Nat → DV), A_.isNone = Tree.null (Tree.at_ (Tree.mk n1 s2 b3 l4 u5) 1) ∧ LstR w_ (Imm F w w_ [⟨b21, 0, [.int .i64 n1, .slice A6 s2.length c7, .bool b3, .slice A8 l4.length c9, .slice A10 u5.length c11], true⟩, ⟨b33, 0, [.int .i16 (IntKind.i16.wrap v), .string (bs s78), .slice A_ ((lst (Tree.at_ (Tree.mk n1 s2 b3 l4 u5) 1)).length) c_, .slice none 0 0, .bool false, .map none], true⟩, ⟨b62, 0, [.int .i64 n1, .slice A6 s2.length c7, .bool b3, .slice A8 l4.length c9, .slice A10 u5.length c11], true⟩] []) 3 clOffsetFetchRequestTopic okOffsetFetchRequestTopic relOffsetFetchRequestTopic A_ c_ f_ (lst (Tree.at_ (Tree.mk n1 s2 b3 l4 u5) 1)) ∧ LInv hW140 105 [⟨b21, 0, [.int .i64 n1, .slice A6 s2.length c7, .bool b3, .slice A8 l4.length c9, .slice A10 u5.length c11], true⟩, ⟨b33, 0, [.int .i16 (IntKind.i16.wrap v), .string (bs s78), .slice A_ ((lst (Tree.at_ (Tree.mk n1 s2 b3 l4 u5) 1)).length) c_, .slice none 0 0, .bool false, .map none], true⟩, ⟨b62, 0, [.int .i64 n1, .slice A6 s2.length c7, .bool b3, .slice A8 l4.length c9, .slice A10 u5.length c11], true⟩] [] [(0, .p 1 0), (3, .p 2 0)] a_ w_) ?_ ?_
  ·
    refine cond_of hE143 (b := !b120) (by kernel_rfl) (fun hc144 => ?_) (fun hc144 => ?_)
    ·
      have hnull_ : Tree.null (Tree.at_ (Tree.mk n1 s2 b3 l4 u5) 1) = false := by rw [ht135]; show b120 = false; simpa using hc144
      refine go_seq_region [0, 1, 2, 3, 4, 5, 6, 7, 8] (by kernel_rfl) ?_
      refine go_rn [0, 1] [2, 3, 4, 5, 6, 7, 8] [(0, .p 1 0), (3, .p 2 0), (21, .p 1 0), (22, .v (.agg #[.int .i64 n1, .slice A6 s2.length c7, .bool b3, .slice A8 l4.length c9, .slice A10 u5.length c11]))] hW140 hE143 fun a146 hE147 => ?_
      clear hE143
      refine of_op (wpOp_call hE147 (f := 73) (vs := [.agg #[.int .i64 n1, .slice A6 s2.length c7, .bool b3, .slice A8 l4.length c9, .slice A10 u5.length c11], .int .i64 1]) (d := 23) (by kernel_rfl) Tryz.call73 (iAt _ _ 1 _ _ (ht.move hW140.step nilM hW140.imm)) ?_)
      rintro e_ w151 ⟨cs150, rfl, hr149, hs148⟩
      have hr152 := hr149.move hs148 nilM (fun b o h_ hb_ => hW140.laid (G := F) hs148 b o (.inl h_) (Nat.lt_of_lt_of_le hb_ hs148.size))
      obtain ⟨n153, s154, b155, l156, u157, A158, c159, A160, c161, A162, c163, xs164, ht170, hcs165, h166, h167, h168, h169⟩ := hr152.open_
      rw [hcs165] at hr152
      have hsm171 := h166.small
      have hsm172 := h167.small
      rw [hcs165]
      refine ⟨_, rfl, fun a173 hE174 => ?_⟩
      have hW175 := hW140.next_nil hs148
      have hF176 := hW140.frN hs148
      clear hE147
      have hl3_ : lst (Tree.at_ (Tree.mk n1 s2 b3 l4 u5) 1) = l156 := by rw [lst_of hnull_, ht170]; rfl
      have hb177 : l156.length ≤ 1000000 := by have h_ := cj1; rw [hl3_] at h_; exact h_
      refine go_rn [3, 4] [5, 6, 7, 8] [(0, .p 1 0), (3, .p 2 0), (21, .p 1 0), (25, .v (.int .i64 ((l156.length : Nat) : Int)))] hW175 hE174 fun a178 hE179 => ?_
      clear hE174
      refine of_op (wpOp_make0 hW175 hE179 (d := 26) (j := l156.length) (t := 78) (e := 145) (size := 3) (bytes := 48) (by kernel_rfl) (by kernel_rfl) rfl (rfl) (by omega) fun b180 a181 w182 hb183 hz184 hF185 hW186 hE187 => ?_)
      clear hE179 hW175
      refine go_rn [6, 7] [8] [(0, .p 1 0), (3, .p 2 0), (26, .v (.slice (some ⟨b180, 0, none⟩) 0 l156.length)), (28, .p 1 2)] hW186 hE187 fun a188 hE189 => ?_
      clear hE187
      refine of_op (wpOp_store hW186 hE189 (oi := 1) (cs := [.int .i16 (IntKind.i16.wrap v), .string (bs s78), .slice (some ⟨b180, 0, none⟩) 0 l156.length, .slice none 0 0, .bool false, .map none]) (by kernel_rfl) fun w190 hF191 hW192 hE193 => ?_)
      clear hE189 hW186
      refine wpOps_nil ?_
      refine then_normal ?_
      refine go_seq_region [0, 1, 2, 3, 4] (by kernel_rfl) ?_
      refine go_rn [0] [1, 2, 3, 4] [(0, .p 1 0), (3, .p 2 0), (29, .v (.agg #[.int .i64 n1, .slice A6 s2.length c7, .bool b3, .slice A8 l4.length c9, .slice A10 u5.length c11]))] hW192 hE193 fun a194 hE195 => ?_
      clear hE193
      refine of_op (wpOp_call hE195 (f := 73) (vs := [.agg #[.int .i64 n1, .slice A6 s2.length c7, .bool b3, .slice A8 l4.length c9, .slice A10 u5.length c11], .int .i64 1]) (d := 30) (by kernel_rfl) Tryz.call73 (iAt _ _ 1 _ _ (ht.move hW192.step nilM hW192.imm)) ?_)
      rintro e_ w199 ⟨cs198, rfl, hr197, hs196⟩
      have hr200 := hr197.move hs196 nilM (fun b o h_ hb_ => hW192.laid (G := F) hs196 b o (.inl h_) (Nat.lt_of_lt_of_le hb_ hs196.size))
      obtain ⟨n201, s202, b203, l204, u205, A206, c207, A208, c209, A210, c211, xs212, ht218, hcs213, h214, h215, h216, h217⟩ := hr200.open_
      rw [hcs213] at hr200
      have hsm219 := h214.small
      have hsm220 := h215.small
      rw [hcs213]
      refine ⟨_, rfl, fun a221 hE222 => ?_⟩
      have hW223 := hW192.next_nil hs196
      have hF224 := hW192.frN hs196
      clear hE195
      have hl3_ : lst (Tree.at_ (Tree.mk n1 s2 b3 l4 u5) 1) = l204 := by rw [lst_of hnull_, ht218]; rfl
      have hb225 : l204.length ≤ 1000000 := by have h_ := cj1; rw [hl3_] at h_; exact h_
      refine go_rn [2, 3, 4] [] [(0, .p 1 0), (3, .p 2 0), (31, .v (.slice A208 l204.length c209)), (32, .v (.int .i64 ((l204.length : Nat) : Int))), (33, .v (.int .i64 0))] hW223 hE222 fun a226 hE227 => ?_
      clear hE222
      refine wpOps_nil ?_
      refine then_normal ?_
      refine wp_block ?_
      refine wp_loop_ghost (fun n_ a_ w_ => ∃ (k : Nat) (A_ : Option Addr) (c_ : Nat) (xs_ : List Value) (ds_ : List DV), n_ = l204.length - k ∧ k ≤ l204.length ∧ (A_.isNone = false) ∧ (RowL w_ (Imm F w w_ [⟨b21, 0, [.int .i64 n1, .slice A6 s2.length c7, .bool b3, .slice A8 l4.length c9, .slice A10 u5.length c11], true⟩, ⟨b33, 0, [.int .i16 (IntKind.i16.wrap v), .string (bs s78), .slice A_ k c_, .slice none 0 0, .bool false, .map none], true⟩, ⟨b62, 0, [.int .i64 n1, .slice A6 s2.length c7, .bool b3, .slice A8 l4.length c9, .slice A10 u5.length c11], true⟩] [⟨A_, c_, 145, 3, k, xs_⟩]) 3 clOffsetFetchRequestTopic okOffsetFetchRequestTopic relOffsetFetchRequestTopic xs_ ds_ (l204.take k)) ∧ LInv hW223 105 [⟨b21, 0, [.int .i64 n1, .slice A6 s2.length c7, .bool b3, .slice A8 l4.length c9, .slice A10 u5.length c11], true⟩, ⟨b33, 0, [.int .i16 (IntKind.i16.wrap v), .string (bs s78), .slice A_ k c_, .slice none 0 0, .bool false, .map none], true⟩, ⟨b62, 0, [.int .i64 n1, .slice A6 s2.length c7, .bool b3, .slice A8 l4.length c9, .slice A10 u5.length c11], true⟩] [⟨A_, c_, 145, 3, k, xs_⟩] [(0, .p 1 0), (3, .p 2 0), (31, .v (.slice A208 l204.length c209)), (32, .v (.int .i64 ((l204.length : Nat) : Int))), (33, .v (.int .i64 ((k : Nat) : Int)))] a_ w_) (l204.length) ⟨0, (some ⟨b180, 0, none⟩), l156.length, [], [], by omega, by omega, rfl, RowL.nil mvOffsetFetchRequestTopic, hE227.pk, hW223, Fr.refl _ _ _⟩ ?_
      clear hE227
      rintro n228 a229 w230 ⟨k, A_, c_, xs_, ds_, hn233, hk234, hA, hR, hE231, hW232, hF235⟩
      refine go_sp [(0, .p 1 0), (3, .p 2 0), (31, .v (.slice A208 l204.length c209)), (32, .v (.int .i64 ((l204.length : Nat) : Int))), (33, .v (.int .i64 ((k : Nat) : Int))), (34, .v (.bool (decide (((k : Nat) : Int) < ((l204.length : Nat) : Int)))))] hW232 hE231 fun a236 hE237 => ?_
      clear hE231
      refine wp_seq ?_
      refine cond_of hE237 (b := decide (((k : Nat) : Int) < ((l204.length : Nat) : Int))) (by kernel_rfl) (fun hc238 => ?_) (fun hc238 => ?_)
      ·
        have hf239 := of_decide_eq_true hc238
        refine wp_skip ?_
        refine then_normal ?_
        refine wp_seq ?_
        refine wp_block ?_
        refine go_seq_region [0, 1, 2, 3] (by kernel_rfl) ?_
        obtain ⟨b240, o241, hA242, hl243, hat244⟩ := Slots.get h215 (i := k) (by omega)
        obtain ⟨x245, he246⟩ : ∃ x, l204[k]? = some x := ⟨_, List.getElem?_eq_getElem (by omega)⟩
        have hr247 := h216 k x245 he246
        obtain ⟨n248, s249, b250, l251, u252, A253, c254, A255, c256, A257, c258, xs259, rfl, hcs260, h261, h262, h263, h264⟩ := hr247.open_
        rw [hcs260] at hr247
        have hsm266 := h261.small
        have hsm267 := h262.small
        rw [hcs260] at hat244
        refine of_op (wpOp_index hE237 (t := 36) (A := A208) (m := l204.length) (q := ((k : Nat) : Int)) (d := 35) (by kernel_rfl) (e := 39) (size := 5) (bytes := 88) (by kernel_rfl) hA242 rfl (by omega) fun a268 hE269 => ?_)
        clear hE237
        refine of_op (wpOp_load hE269 (t := 39) (b := b240) (o := o241 + k * 5) (d := 36) (by kernel_rfl) (cs := [.int .i64 n248, .slice A253 s249.length c254, .bool b250, .slice A255 l251.length c256, .slice A257 u252.length c258]) (v := .agg #[.int .i64 n248, .slice A253 s249.length c254, .bool b250, .slice A255 l251.length c256, .slice A257 u252.length c258]) (by kernel_rfl) (AtF.move hat244 hF235.step immM hF235.to').at_ fun a270 hE271 => ?_)
        clear hE269
        refine of_op (wpOp_alloc hW232 hE271 (d := 5) (cs := [.int .i64 0, .slice none 0 0, .bool false, .slice none 0 0, .slice none 0 0]) (by kernel_rfl) fun b272 a273 w274 hb275 hz276 hF277 hW278 hE279 => ?_)
        clear hE271 hW232
        refine of_op (wpOp_store hW278 hE279 (oi := 3) (cs := [.int .i64 n248, .slice A253 s249.length c254, .bool b250, .slice A255 l251.length c256, .slice A257 u252.length c258]) (by kernel_rfl) fun w280 hF281 hW282 hE283 => ?_)
        clear hE279 hW278
        refine wpOps_nil ?_
        refine then_normal ?_
        refine go_drawK 11 (by kernel_rfl) hW282 fun w284 hF285 hW286 hT287 => ?_
        clear hW282
        refine go_rnD [0, 1, 2, 3, 4, 5] [(0, .p 1 0), (3, .p 2 0), (31, .v (.slice A208 l204.length c209)), (32, .v (.int .i64 ((l204.length : Nat) : Int))), (33, .v (.int .i64 ((k : Nat) : Int))), (37, .p 1 0), (41, .v (.slice A_ k c_)), (42, .v (.agg #[.int .i64 n248, .slice A253 s249.length c254, .bool b250, .slice A255 l251.length c256, .slice A257 u252.length c258]))] 6 (panicFree_block (panicFree_then (panicFree_then (panicFree_block (panicFree_then panicFree_body))))) (fun _ h => h.cells) hT287 hE283 fun a288 hE289 => ?_
        clear hE283
        refine anyC_op (i := 6) (by kernel_rfl) (wpOp_call hE289 (f := 105) (vs := [.agg #[.int .i64 n248, .slice A253 s249.length c254, .bool b250, .slice A255 l251.length c256, .slice A257 u252.length c258]]) (d := 43) (by kernel_rfl) Tryz.call105 (eOffsetFetchRequestTopic _ _ _ _ (hr247.move (Fr.trans (Fr.trans (Fr.trans hF235 hF277) hF281) hF285).step immM (Fr.trans (Fr.trans (Fr.trans hF235 hF277) hF281) hF285).to') (cj1e _ (by rw [hl3_]; exact List.mem_of_getElem? he246))) ?_)
        rintro e_ w295 ⟨D293, rfl, hk291, hrel292, hs290⟩
        have hk294 := mvOffsetFetchRequestTopic _ (Step.refl _ Nil) nilM (hW286.laid (G := F) hs290) hk291
        refine ⟨_, rfl, fun a296 hE297 => ?_⟩
        have hW298 := hW286.next_nil hs290
        have hF299 := hW286.frN hs290
        clear hE289
        have hT300 := TT.ofW hF299 hW298
        refine ⟨fun _ => hT300, ?_⟩
        refine anyC_op (i := 7) (by kernel_rfl) (wpOp_lit hW298 hE297 (e := 145) (size := 3) (len := 1) (cs := [.string ((D293.f 0).s), .slice ((D293.f 1).A) ((D293.f 1).l) ((D293.f 1).c), .map D293.m]) (d := 44) (by kernel_rfl) (by kernel_rfl) fun b301 a302 w303 hb304 hz305 hF306 hW307 hE308 => ?_)
        clear hE297 hW298
        have hT309 := TT.ofW (Fr.trans hF299 hF306) hW307
        refine ⟨fun _ => hT309, ?_⟩
        refine anyC_op (i := 8) (by kernel_rfl) (wpOp_append hW307 hE308 (k := 0) (d := 45) (t := 78) (e := 145) (size := 3) (bytes := 48) (A := A_) (As := (some ⟨b301, 0, none⟩)) (m0 := k) (c := c_) (m := 1) (cs := 1) (xs := xs_) (news := [.string ((D293.f 0).s), .slice ((D293.f 1).A) ((D293.f 1).l) ((D293.f 1).c), .map D293.m]) (by kernel_rfl) (by kernel_rfl) rfl (own_src (hW307.own 1 _ rfl) (allOne_ok (by kernel_rfl))) (own_cap (hW307.own 1 _ rfl)) (by omega) fun A310 c311 a312 w313 hF314 hW315 hE316 => ?_)
        clear hE308 hW307
        have hT317 := TT.ofW (Fr.trans (Fr.trans hF299 hF306) hF314) hW315
        refine ⟨fun _ => hT317, ?_⟩
        refine anyC_op (i := 9) (by kernel_rfl) (wpOp_pure [0, 3, 31, 32, 33, 45, 46] hW315.cells hE316 (env' := [(0, .p 1 0), (3, .p 2 0), (31, .v (.slice A208 l204.length c209)), (32, .v (.int .i64 ((l204.length : Nat) : Int))), (33, .v (.int .i64 ((k : Nat) : Int))), (45, .v (.slice A310 (k + 1) c311)), (46, .p 1 0)]) (by kernel_rfl) fun a318 hE319 => ?_)
        clear hE316
        have hT320 := TT.ofW (Fr.trans (Fr.trans hF299 hF306) hF314) hW315
        refine ⟨fun _ => hT320, ?_⟩
        refine go_rnD [10] [(0, .p 1 0), (3, .p 2 0), (31, .v (.slice A208 l204.length c209)), (32, .v (.int .i64 ((l204.length : Nat) : Int))), (33, .v (.int .i64 ((k : Nat) : Int))), (45, .v (.slice A310 (k + 1) c311)), (47, .p 1 2)] 1 (panicFree_block (panicFree_then (panicFree_then (panicFree_block (panicFree_then panicFree_body))))) (fun _ h => h.cells) hT320 hE319 fun a321 hE322 => ?_
        clear hE319
        refine anyC_op (i := 11) (by kernel_rfl) (wpOp_store hW315 hE322 (oi := 1) (cs := [.int .i16 (IntKind.i16.wrap v), .string (bs s78), .slice A310 (k + 1) c311, .slice none 0 0, .bool false, .map none]) (by kernel_rfl) fun w323 hF324 hW325 hE326 => ?_)
        clear hE322 hW315
        refine ⟨fun h => absurd rfl h, ?_⟩
        refine anyC_done (by kernel_rfl) ?_ _
        refine block_normal ?_
        refine then_normal ?_
        refine go_region [0, 1] (by kernel_rfl) ?_
        refine go_rn [0, 1] [] [(0, .p 1 0), (3, .p 2 0), (31, .v (.slice A208 l204.length c209)), (32, .v (.int .i64 ((l204.length : Nat) : Int))), (33, .v (.int .i64 (IntKind.i64.wrap (((k : Nat) : Int) + 1))))] hW325 hE326 fun a327 hE328 => ?_
        clear hE326
        refine wpOps_nil ?_
        refine then_normal ?_
        obtain ⟨hE329, hW330, hF331⟩ := hW325.cutB hE328 3 [⟨b21, 0, [.int .i64 n1, .slice A6 s2.length c7, .bool b3, .slice A8 l4.length c9, .slice A10 u5.length c11], true⟩, ⟨b33, 0, [.int .i16 (IntKind.i16.wrap v), .string (bs s78), .slice A310 (k + 1) c311, .slice none 0 0, .bool false, .map none], true⟩, ⟨b62, 0, [.int .i64 n1, .slice A6 s2.length c7, .bool b3, .slice A8 l4.length c9, .slice A10 u5.length c11], true⟩] [(0, .p 1 0), (3, .p 2 0), (31, .v (.slice A208 l204.length c209)), (32, .v (.int .i64 ((l204.length : Nat) : Int))), (33, .v (.int .i64 (IntKind.i64.wrap (((k : Nat) : Int) + 1))))]
        obtain ⟨hW332, hF333⟩ := hW330.cutR 1 [⟨A310, c311, 145, 3, k + 1, xs_ ++ [.string ((D293.f 0).s), .slice ((D293.f 1).A) ((D293.f 1).l) ((D293.f 1).c), .map D293.m]⟩]
        have he334 : IntKind.i64.wrap (((k : Nat) : Int) + 1) = ((k + 1 : Nat) : Int) := wrap_succ (by omega)
        rw [he334] at hE329
        exact ⟨l204.length - (k + 1), by omega, k + 1, A310, c311, xs_ ++ [Value.string ((D293.f 0).s), .slice ((D293.f 1).A) ((D293.f 1).l) ((D293.f 1).c), .map D293.m], (ds_ ++ [D293]), rfl, by omega, own_some hW332 (k := 0) rfl (by omega), RowL.snoc (d := D293) (hR.move (Fr.trans (Fr.trans (Fr.trans (Fr.trans (Fr.trans (Fr.trans (Fr.trans (Fr.trans hF277 hF281) hF285) hF299) hF306) hF314) hF324) hF331) hF333).step immM (Fr.trans (Fr.trans (Fr.trans (Fr.trans (Fr.trans (Fr.trans (Fr.trans (Fr.trans hF277 hF281) hF285) hF299) hF306) hF314) hF324) hF331) hF333).to') he246 rfl (mvOffsetFetchRequestTopic _ (Fr.trans (Fr.trans (Fr.trans (Fr.trans hF306 hF314) hF324) hF331) hF333).step immM (Fr.trans (Fr.trans (Fr.trans (Fr.trans hF306 hF314) hF324) hF331) hF333).to' hk294) hrel292, hE329.pk, hW332, (Fr.trans (Fr.trans (Fr.trans (Fr.trans (Fr.trans (Fr.trans (Fr.trans (Fr.trans (Fr.trans hF235 hF277) hF281) hF285) hF299) hF306) hF314) hF324) hF331) hF333)⟩
      ·
        have hf335 := of_decide_eq_false hc238
        refine wp_exit ?_
        refine then_exit ?_
        refine then_exit ?_
        refine block_exit ?_
        refine then_normal ?_
        have hk_ : k = (lst (Tree.at_ (Tree.mk n1 s2 b3 l4 u5) 1)).length := by rw [hl3_]; omega
        subst k
        have hL_ := LstR.of hW232 (k := 0) (rs' := []) rfl hR (by rw [hl3_]) oneOffsetFetchRequestTopic (by omega)
        rw [← hl3_] at hL_
        obtain ⟨hW336, hF337⟩ := hW232.cutR 0 []
        exact ⟨_, _, _, by rw [hnull_]; exact hA, hL_, hE237.pk, hW336, (Fr.trans (Fr.trans (Fr.trans (Fr.trans (Fr.trans hF176 hF185) hF191) hF224) hF235) hF337)⟩
    ·
      refine wp_skip ?_
      refine then_normal ?_
      have hn_ : Tree.null (Tree.at_ (Tree.mk n1 s2 b3 l4 u5) 1) = true := by rw [ht135]; show b120 = true; simpa using hc144
      have hl_ := lst_no hn_
      exact ⟨none, 0, fun _ => dv0, by rw [hn_]; rfl, by rw [hl_]; exact LstR.nil mvOffsetFetchRequestTopic, by rw [hl_]; exact ⟨hE143.pk, hW140, Fr.refl _ _ _⟩⟩
  rintro a347 w348 ⟨A339, c340, f341, hn342, hL343, hE344, hW345, hF346⟩
  refine wp_seq ?_
  refine go_seq_region [0, 1, 2, 3] (by kernel_rfl) ?_
  refine go_rn [0] [1, 2, 3] [(0, .p 1 0), (3, .p 2 0), (49, .v (.agg #[.int .i64 n1, .slice A6 s2.length c7, .bool b3, .slice A8 l4.length c9, .slice A10 u5.length c11]))] hW345 hE344 fun a349 hE350 => ?_
  clear hE344
  refine of_op (wpOp_call hE350 (f := 73) (vs := [.agg #[.int .i64 n1, .slice A6 s2.length c7, .bool b3, .slice A8 l4.length c9, .slice A10 u5.length c11], .int .i64 2]) (d := 50) (by kernel_rfl) Tryz.call73 (iAt _ _ 2 _ _ (ht.move hW345.step nilM hW345.imm)) ?_)
  rintro e_ w354 ⟨cs353, rfl, hr352, hs351⟩
  have hr355 := hr352.move hs351 nilM (fun b o h_ hb_ => hW345.laid (G := F) hs351 b o (.inl h_) (Nat.lt_of_lt_of_le hb_ hs351.size))
  obtain ⟨n356, s357, b358, l359, u360, A361, c362, A363, c364, A365, c366, xs367, ht373, hcs368, h369, h370, h371, h372⟩ := hr355.open_
  rw [hcs368] at hr355
  have hsm374 := h369.small
  have hsm375 := h370.small
  rw [hcs368]
  refine ⟨_, rfl, fun a376 hE377 => ?_⟩
  have hW378 := hW345.next_nil hs351
  have hF379 := hW345.frN hs351
  clear hE350
  refine go_rn [2, 3] [] [(0, .p 1 0), (3, .p 2 0), (52, .v (.bool (!b358)))] hW378 hE377 fun a380 hE381 => ?_
  clear hE377
  refine wpOps_nil ?_
  refine then_normal ?_
  refine wp_join (Mid := fun a_ w_ => ∃ (A_ : Option Addr) (c_ : Nat) (f_ : Nat → DV), A_.isNone = Tree.null (Tree.at_ (Tree.mk n1 s2 b3 l4 u5) 2) ∧ LstR w_ (Imm F w w_ [⟨b21, 0, [.int .i64 n1, .slice A6 s2.length c7, .bool b3, .slice A8 l4.length c9, .slice A10 u5.length c11], true⟩, ⟨b33, 0, [.int .i16 (IntKind.i16.wrap v), .string (bs s78), .slice A339 ((lst (Tree.at_ (Tree.mk n1 s2 b3 l4 u5) 1)).length) c340, .slice A_ ((lst (Tree.at_ (Tree.mk n1 s2 b3 l4 u5) 2)).length) c_, .bool false, .map none], true⟩, ⟨b62, 0, [.int .i64 n1, .slice A6 s2.length c7, .bool b3, .slice A8 l4.length c9, .slice A10 u5.length c11], true⟩] []) 5 clOffsetFetchRequestGroup okOffsetFetchRequestGroup relOffsetFetchRequestGroup A_ c_ f_ (lst (Tree.at_ (Tree.mk n1 s2 b3 l4 u5) 2)) ∧ LInv hW378 105 [⟨b21, 0, [.int .i64 n1, .slice A6 s2.length c7, .bool b3, .slice A8 l4.length c9, .slice A10 u5.length c11], true⟩, ⟨b33, 0, [.int .i16 (IntKind.i16.wrap v), .string (bs s78), .slice A339 ((lst (Tree.at_ (Tree.mk n1 s2 b3 l4 u5) 1)).length) c340, .slice A_ ((lst (Tree.at_ (Tree.mk n1 s2 b3 l4 u5) 2)).length) c_, .bool false, .map none], true⟩, ⟨b62, 0, [.int .i64 n1, .slice A6 s2.length c7, .bool b3, .slice A8 l4.length c9, .slice A10 u5.length c11], true⟩] [] [(0, .p 1 0), (3, .p 2 0)] a_ w_) ?_ ?_
  ·
    refine cond_of hE381 (b := !b358) (by kernel_rfl) (fun hc382 => ?_) (fun hc382 => ?_)
    ·
      have hnull_ : Tree.null (Tree.at_ (Tree.mk n1 s2 b3 l4 u5) 2) = false := by rw [ht373]; show b358 = false; simpa using hc382
      refine go_seq_region [0, 1, 2, 3, 4, 5, 6, 7, 8] (by kernel_rfl) ?_
      refine go_rn [0, 1] [2, 3, 4, 5, 6, 7, 8] [(0, .p 1 0), (3, .p 2 0), (53, .p 1 0), (54, .v (.agg #[.int .i64 n1, .slice A6 s2.length c7, .bool b3, .slice A8 l4.length c9, .slice A10 u5.length c11]))] hW378 hE381 fun a384 hE385 => ?_
      clear hE381
      refine of_op (wpOp_call hE385 (f := 73) (vs := [.agg #[.int .i64 n1, .slice A6 s2.length c7, .bool b3, .slice A8 l4.length c9, .slice A10 u5.length c11], .int .i64 2]) (d := 55) (by kernel_rfl) Tryz.call73 (iAt _ _ 2 _ _ (ht.move hW378.step nilM hW378.imm)) ?_)
      rintro e_ w389 ⟨cs388, rfl, hr387, hs386⟩
      have hr390 := hr387.move hs386 nilM (fun b o h_ hb_ => hW378.laid (G := F) hs386 b o (.inl h_) (Nat.lt_of_lt_of_le hb_ hs386.size))
      obtain ⟨n391, s392, b393, l394, u395, A396, c397, A398, c399, A400, c401, xs402, ht408, hcs403, h404, h405, h406, h407⟩ := hr390.open_
      rw [hcs403] at hr390
      have hsm409 := h404.small
      have hsm410 := h405.small
      rw [hcs403]
      refine ⟨_, rfl, fun a411 hE412 => ?_⟩
      have hW413 := hW378.next_nil hs386
      have hF414 := hW378.frN hs386
      clear hE385
      have hl3_ : lst (Tree.at_ (Tree.mk n1 s2 b3 l4 u5) 2) = l394 := by rw [lst_of hnull_, ht408]; rfl
      have hb415 : l394.length ≤ 1000000 := by have h_ := cj2; rw [hl3_] at h_; exact h_
      refine go_rn [3, 4] [5, 6, 7, 8] [(0, .p 1 0), (3, .p 2 0), (53, .p 1 0), (57, .v (.int .i64 ((l394.length : Nat) : Int)))] hW413 hE412 fun a416 hE417 => ?_
      clear hE412
      refine of_op (wpOp_make0 hW413 hE417 (d := 58) (j := l394.length) (t := 79) (e := 149) (size := 5) (bytes := 64) (by kernel_rfl) (by kernel_rfl) rfl (rfl) (by omega) fun b418 a419 w420 hb421 hz422 hF423 hW424 hE425 => ?_)
      clear hE417 hW413
      refine go_rn [6, 7] [8] [(0, .p 1 0), (3, .p 2 0), (58, .v (.slice (some ⟨b418, 0, none⟩) 0 l394.length)), (60, .p 1 3)] hW424 hE425 fun a426 hE427 => ?_
      clear hE425
      refine of_op (wpOp_store hW424 hE427 (oi := 1) (cs := [.int .i16 (IntKind.i16.wrap v), .string (bs s78), .slice A339 ((lst (Tree.at_ (Tree.mk n1 s2 b3 l4 u5) 1)).length) c340, .slice (some ⟨b418, 0, none⟩) 0 l394.length, .bool false, .map none]) (by kernel_rfl) fun w428 hF429 hW430 hE431 => ?_)
      clear hE427 hW424
      refine wpOps_nil ?_
      refine then_normal ?_
      refine go_seq_region [0, 1, 2, 3, 4] (by kernel_rfl) ?_
      refine go_rn [0] [1, 2, 3, 4] [(0, .p 1 0), (3, .p 2 0), (61, .v (.agg #[.int .i64 n1, .slice A6 s2.length c7, .bool b3, .slice A8 l4.length c9, .slice A10 u5.length c11]))] hW430 hE431 fun a432 hE433 => ?_
      clear hE431
      refine of_op (wpOp_call hE433 (f := 73) (vs := [.agg #[.int .i64 n1, .slice A6 s2.length c7, .bool b3, .slice A8 l4.length c9, .slice A10 u5.length c11], .int .i64 2]) (d := 62) (by kernel_rfl) Tryz.call73 (iAt _ _ 2 _ _ (ht.move hW430.step nilM hW430.imm)) ?_)
      rintro e_ w437 ⟨cs436, rfl, hr435, hs434⟩
      have hr438 := hr435.move hs434 nilM (fun b o h_ hb_ => hW430.laid (G := F) hs434 b o (.inl h_) (Nat.lt_of_lt_of_le hb_ hs434.size))
      obtain ⟨n439, s440, b441, l442, u443, A444, c445, A446, c447, A448, c449, xs450, ht456, hcs451, h452, h453, h454, h455⟩ := hr438.open_
      rw [hcs451] at hr438
      have hsm457 := h452.small
      have hsm458 := h453.small
      rw [hcs451]
      refine ⟨_, rfl, fun a459 hE460 => ?_⟩
      have hW461 := hW430.next_nil hs434
      have hF462 := hW430.frN hs434
      clear hE433
      have hl3_ : lst (Tree.at_ (Tree.mk n1 s2 b3 l4 u5) 2) = l442 := by rw [lst_of hnull_, ht456]; rfl
      have hb463 : l442.length ≤ 1000000 := by have h_ := cj2; rw [hl3_] at h_; exact h_
      refine go_rn [2, 3, 4] [] [(0, .p 1 0), (3, .p 2 0), (63, .v (.slice A446 l442.length c447)), (64, .v (.int .i64 ((l442.length : Nat) : Int))), (65, .v (.int .i64 0))] hW461 hE460 fun a464 hE465 => ?_
      clear hE460
      refine wpOps_nil ?_
      refine then_normal ?_
      refine wp_block ?_
      refine wp_loop_ghost (fun n_ a_ w_ => ∃ (k : Nat) (A_ : Option Addr) (c_ : Nat) (xs_ : List Value) (ds_ : List DV), n_ = l442.length - k ∧ k ≤ l442.length ∧ (A_.isNone = false) ∧ (RowL w_ (Imm F w w_ [⟨b21, 0, [.int .i64 n1, .slice A6 s2.length c7, .bool b3, .slice A8 l4.length c9, .slice A10 u5.length c11], true⟩, ⟨b33, 0, [.int .i16 (IntKind.i16.wrap v), .string (bs s78), .slice A339 ((lst (Tree.at_ (Tree.mk n1 s2 b3 l4 u5) 1)).length) c340, .slice A_ k c_, .bool false, .map none], true⟩, ⟨b62, 0, [.int .i64 n1, .slice A6 s2.length c7, .bool b3, .slice A8 l4.length c9, .slice A10 u5.length c11], true⟩] [⟨A_, c_, 149, 5, k, xs_⟩]) 5 clOffsetFetchRequestGroup okOffsetFetchRequestGroup relOffsetFetchRequestGroup xs_ ds_ (l442.take k)) ∧ LInv hW461 105 [⟨b21, 0, [.int .i64 n1, .slice A6 s2.length c7, .bool b3, .slice A8 l4.length c9, .slice A10 u5.length c11], true⟩, ⟨b33, 0, [.int .i16 (IntKind.i16.wrap v), .string (bs s78), .slice A339 ((lst (Tree.at_ (Tree.mk n1 s2 b3 l4 u5) 1)).length) c340, .slice A_ k c_, .bool false, .map none], true⟩, ⟨b62, 0, [.int .i64 n1, .slice A6 s2.length c7, .bool b3, .slice A8 l4.length c9, .slice A10 u5.length c11], true⟩] [⟨A_, c_, 149, 5, k, xs_⟩] [(0, .p 1 0), (3, .p 2 0), (63, .v (.slice A446 l442.length c447)), (64, .v (.int .i64 ((l442.length : Nat) : Int))), (65, .v (.int .i64 ((k : Nat) : Int)))] a_ w_) (l442.length) ⟨0, (some ⟨b418, 0, none⟩), l394.length, [], [], by omega, by omega, rfl, RowL.nil mvOffsetFetchRequestGroup, hE465.pk, hW461, Fr.refl _ _ _⟩ ?_
      clear hE465
      rintro n466 a467 w468 ⟨k, A_, c_, xs_, ds_, hn471, hk472, hA, hR, hE469, hW470, hF473⟩
      refine go_sp [(0, .p 1 0), (3, .p 2 0), (63, .v (.slice A446 l442.length c447)), (64, .v (.int .i64 ((l442.length : Nat) : Int))), (65, .v (.int .i64 ((k : Nat) : Int))), (66, .v (.bool (decide (((k : Nat) : Int) < ((l442.length : Nat) : Int)))))] hW470 hE469 fun a474 hE475 => ?_
      clear hE469
      refine wp_seq ?_
      refine cond_of hE475 (b := decide (((k : Nat) : Int) < ((l442.length : Nat) : Int))) (by kernel_rfl) (fun hc476 => ?_) (fun hc476 => ?_)
      ·
        have hf477 := of_decide_eq_true hc476
        refine wp_skip ?_
        refine then_normal ?_
        refine wp_seq ?_
        refine wp_block ?_
        refine go_seq_region [0, 1, 2, 3] (by kernel_rfl) ?_
        obtain ⟨b478, o479, hA480, hl481, hat482⟩ := Slots.get h453 (i := k) (by omega)
        obtain ⟨x483, he484⟩ : ∃ x, l442[k]? = some x := ⟨_, List.getElem?_eq_getElem (by omega)⟩
        have hr485 := h454 k x483 he484
        obtain ⟨n486, s487, b488, l489, u490, A491, c492, A493, c494, A495, c496, xs497, rfl, hcs498, h499, h500, h501, h502⟩ := hr485.open_
        rw [hcs498] at hr485
        have hsm504 := h499.small
        have hsm505 := h500.small
        rw [hcs498] at hat482
        refine of_op (wpOp_index hE475 (t := 36) (A := A446) (m := l442.length) (q := ((k : Nat) : Int)) (d := 67) (by kernel_rfl) (e := 39) (size := 5) (bytes := 88) (by kernel_rfl) hA480 rfl (by omega) fun a506 hE507 => ?_)
        clear hE475
        refine of_op (wpOp_load hE507 (t := 39) (b := b478) (o := o479 + k * 5) (d := 68) (by kernel_rfl) (cs := [.int .i64 n486, .slice A491 s487.length c492, .bool b488, .slice A493 l489.length c494, .slice A495 u490.length c496]) (v := .agg #[.int .i64 n486, .slice A491 s487.length c492, .bool b488, .slice A493 l489.length c494, .slice A495 u490.length c496]) (by kernel_rfl) (AtF.move hat482 hF473.step immM hF473.to').at_ fun a508 hE509 => ?_)
        clear hE507
        refine of_op (wpOp_alloc hW470 hE509 (d := 7) (cs := [.int .i64 0, .slice none 0 0, .bool false, .slice none 0 0, .slice none 0 0]) (by kernel_rfl) fun b510 a511 w512 hb513 hz514 hF515 hW516 hE517 => ?_)
        clear hE509 hW470
        refine of_op (wpOp_store hW516 hE517 (oi := 3) (cs := [.int .i64 n486, .slice A491 s487.length c492, .bool b488, .slice A493 l489.length c494, .slice A495 u490.length c496]) (by kernel_rfl) fun w518 hF519 hW520 hE521 => ?_)
        clear hE517 hW516
        refine wpOps_nil ?_
        refine then_normal ?_
        refine go_drawK 11 (by kernel_rfl) hW520 fun w522 hF523 hW524 hT525 => ?_
        clear hW520
        refine go_rnD [0, 1, 2, 3, 4, 5] [(0, .p 1 0), (3, .p 2 0), (63, .v (.slice A446 l442.length c447)), (64, .v (.int .i64 ((l442.length : Nat) : Int))), (65, .v (.int .i64 ((k : Nat) : Int))), (69, .p 1 0), (73, .v (.slice A_ k c_)), (74, .v (.agg #[.int .i64 n486, .slice A491 s487.length c492, .bool b488, .slice A493 l489.length c494, .slice A495 u490.length c496]))] 6 (panicFree_block (panicFree_then (panicFree_then (panicFree_block (panicFree_then panicFree_body))))) (fun _ h => h.cells) hT525 hE521 fun a526 hE527 => ?_
        clear hE521
        refine anyC_op (i := 6) (by kernel_rfl) (wpOp_call hE527 (f := 106) (vs := [.agg #[.int .i64 n486, .slice A491 s487.length c492, .bool b488, .slice A493 l489.length c494, .slice A495 u490.length c496]]) (d := 75) (by kernel_rfl) Tryz.call106 (eOffsetFetchRequestGroup _ _ _ _ (hr485.move (Fr.trans (Fr.trans (Fr.trans hF473 hF515) hF519) hF523).step immM (Fr.trans (Fr.trans (Fr.trans hF473 hF515) hF519) hF523).to') (cj2e _ (by rw [hl3_]; exact List.mem_of_getElem? he484))) ?_)
        rintro e_ w533 ⟨D531, rfl, hk529, hrel530, hs528⟩
        have hk532 := mvOffsetFetchRequestGroup _ (Step.refl _ Nil) nilM (hW524.laid (G := F) hs528) hk529
        refine ⟨_, rfl, fun a534 hE535 => ?_⟩
        have hW536 := hW524.next_nil hs528
        have hF537 := hW524.frN hs528
        clear hE527
        have hT538 := TT.ofW hF537 hW536
        refine ⟨fun _ => hT538, ?_⟩
        refine anyC_op (i := 7) (by kernel_rfl) (wpOp_lit hW536 hE535 (e := 149) (size := 5) (len := 1) (cs := [.string ((D531.f 0).s), .pointer ((D531.f 1).A), .int .i32 ((D531.f 2).n), .slice ((D531.f 3).A) ((D531.f 3).l) ((D531.f 3).c), .map D531.m]) (d := 76) (by kernel_rfl) (by kernel_rfl) fun b539 a540 w541 hb542 hz543 hF544 hW545 hE546 => ?_)
        clear hE535 hW536
        have hT547 := TT.ofW (Fr.trans hF537 hF544) hW545
        refine ⟨fun _ => hT547, ?_⟩
        refine anyC_op (i := 8) (by kernel_rfl) (wpOp_append hW545 hE546 (k := 0) (d := 77) (t := 79) (e := 149) (size := 5) (bytes := 64) (A := A_) (As := (some ⟨b539, 0, none⟩)) (m0 := k) (c := c_) (m := 1) (cs := 1) (xs := xs_) (news := [.string ((D531.f 0).s), .pointer ((D531.f 1).A), .int .i32 ((D531.f 2).n), .slice ((D531.f 3).A) ((D531.f 3).l) ((D531.f 3).c), .map D531.m]) (by kernel_rfl) (by kernel_rfl) rfl (own_src (hW545.own 1 _ rfl) (allOne_ok (by kernel_rfl))) (own_cap (hW545.own 1 _ rfl)) (by omega) fun A548 c549 a550 w551 hF552 hW553 hE554 => ?_)
        clear hE546 hW545
        have hT555 := TT.ofW (Fr.trans (Fr.trans hF537 hF544) hF552) hW553
        refine ⟨fun _ => hT555, ?_⟩
        refine anyC_op (i := 9) (by kernel_rfl) (wpOp_pure [0, 3, 63, 64, 65, 77, 78] hW553.cells hE554 (env' := [(0, .p 1 0), (3, .p 2 0), (63, .v (.slice A446 l442.length c447)), (64, .v (.int .i64 ((l442.length : Nat) : Int))), (65, .v (.int .i64 ((k : Nat) : Int))), (77, .v (.slice A548 (k + 1) c549)), (78, .p 1 0)]) (by kernel_rfl) fun a556 hE557 => ?_)
        clear hE554
        have hT558 := TT.ofW (Fr.trans (Fr.trans hF537 hF544) hF552) hW553
        refine ⟨fun _ => hT558, ?_⟩
        refine go_rnD [10] [(0, .p 1 0), (3, .p 2 0), (63, .v (.slice A446 l442.length c447)), (64, .v (.int .i64 ((l442.length : Nat) : Int))), (65, .v (.int .i64 ((k : Nat) : Int))), (77, .v (.slice A548 (k + 1) c549)), (79, .p 1 3)] 1 (panicFree_block (panicFree_then (panicFree_then (panicFree_block (panicFree_then panicFree_body))))) (fun _ h => h.cells) hT558 hE557 fun a559 hE560 => ?_
        clear hE557
        refine anyC_op (i := 11) (by kernel_rfl) (wpOp_store hW553 hE560 (oi := 1) (cs := [.int .i16 (IntKind.i16.wrap v), .string (bs s78), .slice A339 ((lst (Tree.at_ (Tree.mk n1 s2 b3 l4 u5) 1)).length) c340, .slice A548 (k + 1) c549, .bool false, .map none]) (by kernel_rfl) fun w561 hF562 hW563 hE564 => ?_)
        clear hE560 hW553
        refine ⟨fun h => absurd rfl h, ?_⟩
        refine anyC_done (by kernel_rfl) ?_ _
        refine block_normal ?_
        refine then_normal ?_
        refine go_region [0, 1] (by kernel_rfl) ?_
        refine go_rn [0, 1] [] [(0, .p 1 0), (3, .p 2 0), (63, .v (.slice A446 l442.length c447)), (64, .v (.int .i64 ((l442.length : Nat) : Int))), (65, .v (.int .i64 (IntKind.i64.wrap (((k : Nat) : Int) + 1))))] hW563 hE564 fun a565 hE566 => ?_
        clear hE564
        refine wpOps_nil ?_
        refine then_normal ?_
        obtain ⟨hE567, hW568, hF569⟩ := hW563.cutB hE566 3 [⟨b21, 0, [.int .i64 n1, .slice A6 s2.length c7, .bool b3, .slice A8 l4.length c9, .slice A10 u5.length c11], true⟩, ⟨b33, 0, [.int .i16 (IntKind.i16.wrap v), .string (bs s78), .slice A339 ((lst (Tree.at_ (Tree.mk n1 s2 b3 l4 u5) 1)).length) c340, .slice A548 (k + 1) c549, .bool false, .map none], true⟩, ⟨b62, 0, [.int .i64 n1, .slice A6 s2.length c7, .bool b3, .slice A8 l4.length c9, .slice A10 u5.length c11], true⟩] [(0, .p 1 0), (3, .p 2 0), (63, .v (.slice A446 l442.length c447)), (64, .v (.int .i64 ((l442.length : Nat) : Int))), (65, .v (.int .i64 (IntKind.i64.wrap (((k : Nat) : Int) + 1))))]
        obtain ⟨hW570, hF571⟩ := hW568.cutR 1 [⟨A548, c549, 149, 5, k + 1, xs_ ++ [.string ((D531.f 0).s), .pointer ((D531.f 1).A), .int .i32 ((D531.f 2).n), .slice ((D531.f 3).A) ((D531.f 3).l) ((D531.f 3).c), .map D531.m]⟩]
        have he572 : IntKind.i64.wrap (((k : Nat) : Int) + 1) = ((k + 1 : Nat) : Int) := wrap_succ (by omega)
        rw [he572] at hE567
        exact ⟨l442.length - (k + 1), by omega, k + 1, A548, c549, xs_ ++ [Value.string ((D531.f 0).s), .pointer ((D531.f 1).A), .int .i32 ((D531.f 2).n), .slice ((D531.f 3).A) ((D531.f 3).l) ((D531.f 3).c), .map D531.m], (ds_ ++ [D531]), rfl, by omega, own_some hW570 (k := 0) rfl (by omega), RowL.snoc (d := D531) (hR.move (Fr.trans (Fr.trans (Fr.trans (Fr.trans (Fr.trans (Fr.trans (Fr.trans (Fr.trans hF515 hF519) hF523) hF537) hF544) hF552) hF562) hF569) hF571).step immM (Fr.trans (Fr.trans (Fr.trans (Fr.trans (Fr.trans (Fr.trans (Fr.trans (Fr.trans hF515 hF519) hF523) hF537) hF544) hF552) hF562) hF569) hF571).to') he484 rfl (mvOffsetFetchRequestGroup _ (Fr.trans (Fr.trans (Fr.trans (Fr.trans hF544 hF552) hF562) hF569) hF571).step immM (Fr.trans (Fr.trans (Fr.trans (Fr.trans hF544 hF552) hF562) hF569) hF571).to' hk532) hrel530, hE567.pk, hW570, (Fr.trans (Fr.trans (Fr.trans (Fr.trans (Fr.trans (Fr.trans (Fr.trans (Fr.trans (Fr.trans hF473 hF515) hF519) hF523) hF537) hF544) hF552) hF562) hF569) hF571)⟩
      ·
        have hf573 := of_decide_eq_false hc476
        refine wp_exit ?_
        refine then_exit ?_
        refine then_exit ?_
        refine block_exit ?_
        refine then_normal ?_
        have hk_ : k = (lst (Tree.at_ (Tree.mk n1 s2 b3 l4 u5) 2)).length := by rw [hl3_]; omega
        subst k
        have hL_ := LstR.of hW470 (k := 0) (rs' := []) rfl hR (by rw [hl3_]) oneOffsetFetchRequestGroup (by omega)
        rw [← hl3_] at hL_
        obtain ⟨hW574, hF575⟩ := hW470.cutR 0 []
        exact ⟨_, _, _, by rw [hnull_]; exact hA, hL_, hE475.pk, hW574, (Fr.trans (Fr.trans (Fr.trans (Fr.trans (Fr.trans hF414 hF423) hF429) hF462) hF473) hF575)⟩
    ·
      refine wp_skip ?_
      refine then_normal ?_
      have hn_ : Tree.null (Tree.at_ (Tree.mk n1 s2 b3 l4 u5) 2) = true := by rw [ht373]; show b358 = true; simpa using hc382
      have hl_ := lst_no hn_
      exact ⟨none, 0, fun _ => dv0, by rw [hn_]; rfl, by rw [hl_]; exact LstR.nil mvOffsetFetchRequestGroup, by rw [hl_]; exact ⟨hE381.pk, hW378, Fr.refl _ _ _⟩⟩
  rintro a585 w586 ⟨A577, c578, f579, hn580, hL581, hE582, hW583, hF584⟩
  refine go_seq_region [0, 1, 2, 3, 4, 5, 6, 7, 8] (by kernel_rfl) ?_
  refine go_rn [0, 1] [2, 3, 4, 5, 6, 7, 8] [(0, .p 1 0), (3, .p 2 0), (81, .p 1 0), (82, .v (.agg #[.int .i64 n1, .slice A6 s2.length c7, .bool b3, .slice A8 l4.length c9, .slice A10 u5.length c11]))] hW583 hE582 fun a587 hE588 => ?_
  clear hE582
  refine of_op (wpOp_call hE588 (f := 73) (vs := [.agg #[.int .i64 n1, .slice A6 s2.length c7, .bool b3, .slice A8 l4.length c9, .slice A10 u5.length c11], .int .i64 3]) (d := 83) (by kernel_rfl) Tryz.call73 (iAt _ _ 3 _ _ (ht.move hW583.step nilM hW583.imm)) ?_)
  rintro e_ w592 ⟨cs591, rfl, hr590, hs589⟩
  have hr593 := hr590.move hs589 nilM (fun b o h_ hb_ => hW583.laid (G := F) hs589 b o (.inl h_) (Nat.lt_of_lt_of_le hb_ hs589.size))
  obtain ⟨n594, s595, b596, l597, u598, A599, c600, A601, c602, A603, c604, xs605, ht611, hcs606, h607, h608, h609, h610⟩ := hr593.open_
  rw [hcs606] at hr593
  have hsm612 := h607.small
  have hsm613 := h608.small
  rw [hcs606]
  refine ⟨_, rfl, fun a614 hE615 => ?_⟩
  have hW616 := hW583.next_nil hs589
  have hF617 := hW583.frN hs589
  clear hE588
  refine go_rn [3, 4, 5, 6, 7] [8] [(0, .p 1 0), (3, .p 2 0), (86, .v (.bool ((IntKind.i64.wrap (BitVec.ofInt 64 n594 &&& BitVec.ofInt 64 1).toNat) == 1))), (88, .p 1 4)] hW616 hE615 fun a618 hE619 => ?_
  clear hE615
  refine of_op (wpOp_store hW616 hE619 (oi := 1) (cs := [.int .i16 (IntKind.i16.wrap v), .string (bs s78), .slice A339 ((lst (Tree.at_ (Tree.mk n1 s2 b3 l4 u5) 1)).length) c340, .slice A577 ((lst (Tree.at_ (Tree.mk n1 s2 b3 l4 u5) 2)).length) c578, .bool ((IntKind.i64.wrap (BitVec.ofInt 64 n594 &&& BitVec.ofInt 64 1).toNat) == 1), .map none]) (by kernel_rfl) fun w620 hF621 hW622 hE623 => ?_)
  clear hE619 hW616
  refine wpOps_nil ?_
  refine then_normal ?_
  refine go_sp [(0, .p 1 0), (90, .v (.slice A10 u5.length c11)), (91, .v (.int .i64 ((u5.length : Nat) : Int))), (92, .v (.int .i64 0))] hW622 hE623 fun a624 hE625 => ?_
  clear hE623
  refine wp_block ?_
  have hp626 := new_of hW622 1 rfl (by kernel_rfl)
  have hE630 := hE625.recast 0 (.p 1 0) (.v (.pointer (some ⟨b33, 0, none⟩))) rfl rfl trivial
  have hE628 := (hE630.pick (ks := [0, 90, 91, 92]) (env' := [(0, .v (.pointer (some ⟨b33, 0, none⟩))), (90, .v (.slice A10 u5.length c11)), (91, .v (.int .i64 ((u5.length : Nat) : Int))), (92, .v (.int .i64 0))]) (by kernel_rfl)).cutTb 0 (by kernel_rfl)
  refine wp_loop_ghost (fun q a_ w_ => ∃ (j : Nat) (m_ : Option Nat), q = u5.length - j ∧ j ≤ u5.length ∧ EnvOk 105 [] [(0, .v (.pointer (some ⟨b33, 0, none⟩))), (90, .v (.slice A10 u5.length c11)), (91, .v (.int .i64 ((u5.length : Nat) : Int))), (92, .v (.int .i64 ((j : Nat) : Int)))] a_ ∧ TL w w620 w_ F b33 5 [.int .i16 (IntKind.i16.wrap v), .string (bs s78), .slice A339 ((lst (Tree.at_ (Tree.mk n1 s2 b3 l4 u5) 1)).length) c340, .slice A577 ((lst (Tree.at_ (Tree.mk n1 s2 b3 l4 u5) 2)).length) c578, .bool ((IntKind.i64.wrap (BitVec.ofInt 64 n594 &&& BitVec.ofInt 64 1).toNat) == 1), .map none] m_ (u5.take j)) u5.length
    ⟨0, none, by omega, by omega, hE628, TL.start hW622 1 rfl rfl⟩ ?_
  rintro q aq wq ⟨j, m_, rfl, hj, hE2, hT⟩
  have hWq := WOk.start wq Nil
  refine go_sp [(0, .v (.pointer (some ⟨b33, 0, none⟩))), (90, .v (.slice A10 u5.length c11)), (91, .v (.int .i64 ((u5.length : Nat) : Int))), (92, .v (.int .i64 ((j : Nat) : Int))), (93, .v (.bool (decide (((j : Nat) : Int) < ((u5.length : Nat) : Int)))))] hWq hE2 fun aq2 hE3 => wp_seq ?_
  refine cond_of hE3 (b := decide (((j : Nat) : Int) < ((u5.length : Nat) : Int))) (by kernel_rfl) (fun hc => ?_) (fun hc => ?_)
  · have hlt : j < u5.length := by have := of_decide_eq_true hc; omega
    refine wp_skip (then_normal (wp_seq (wp_block ?_)))
    obtain ⟨⟨k, x⟩, hu⟩ : ∃ y, u5[j]? = some y := ⟨_, List.getElem?_eq_getElem hlt⟩
    obtain ⟨bb, bo, xA, xc, hA, hat, hxo, hk⟩ := tag_at h17 hu
    refine go_seq_region [0, 1, 2, 3] (by kernel_rfl) ?_
    refine of_op (wpOp_index hE3 (t := 37) (e := 64) (size := 2) (bytes := 32) (d := 94) (b := bb) (o := bo) (m := u5.length) (j := j) (by kernel_rfl) (by kernel_rfl) hA rfl hlt fun aq3 hE4 => ?_)
    refine of_op (wpOp_load hE4 (t := 64) (d := 95) (cs := [.int .u32 k, .slice xA x.length xc]) (v := .agg #[.int .u32 k, .slice xA x.length xc]) (by kernel_rfl) (by kernel_rfl) (hat.step_nil hT.step) fun aq4 hE5 => ?_)
    refine of_op (wpOp_alloc hWq hE5 (d := 9) (cs := [.int .u32 0, .slice none 0 0]) (by kernel_rfl) fun bx aq5 wq2 hbx hbx0 hFq2 hWq2 hE6 => ?_)
    refine of_op (wpOp_store hWq2 hE6 (oi := 0) (cs := [.int .u32 k, .slice xA x.length xc]) (by kernel_rfl) fun wq3 hFq3 hWq3 hE7 => wpOps_nil (then_normal ?_))
    have hWq4 := hWq3.drew
    refine region_draw (fun wz => CellsOk wz [⟨bx, 0, [.int .u32 k, .slice xA x.length xc], true⟩]) 8 (by kernel_rfl) ?_
    refine go_rnD [0, 1, 2, 3, 4, 5, 6] [(0, .v (.pointer (some ⟨b33, 0, none⟩))), (90, .v (.slice A10 u5.length c11)), (91, .v (.int .i64 ((u5.length : Nat) : Int))), (92, .v (.int .i64 ((j : Nat) : Int))), (98, .v (.pointer (some ⟨b33, 5, none⟩))), (100, .v (.int .u32 k)), (102, .v (.slice xA x.length xc))] 1 (panicFree_block (panicFree_then (panicFree_then (panicFree_block panicFree_body)))) (fun _ h => h) hWq4.cells hE7 fun aq6 hE8 => ?_
    refine anyC_op (i := 7) (by kernel_rfl) (wpOp_call hE8 (f := 75) (vs := [.pointer (some ⟨b33, 5, none⟩), .int .u32 k, .slice xA x.length xc]) (d := 103) (by kernel_rfl) Tryz.call75 ((hT.move hWq4.step).set hp626 (by kernel_rfl) hsort hu hxo hk) ?_)
    rintro e_ wq5 ⟨rfl, hS5, r, hT5⟩
    refine ⟨_, rfl, fun aq7 hE9 => ⟨fun _ => hT.keeps (off := 5) (by kernel_rfl) hS5 hWq4.cells (fun ob hm => by rw [List.mem_singleton.1 hm]; exact Nat.le_of_eq hbx.symm), anyC_done (by kernel_rfl) (block_normal (then_normal ?_)) _⟩⟩
    have hE10 := (hE9.pick (ks := [0, 90, 91, 92]) (env' := [(0, .v (.pointer (some ⟨b33, 0, none⟩))), (90, .v (.slice A10 u5.length c11)), (91, .v (.int .i64 ((u5.length : Nat) : Int))), (92, .v (.int .i64 ((j : Nat) : Int)))]) (by kernel_rfl)).cutTb 0 (by kernel_rfl)
    refine go_region [0, 1] (by kernel_rfl) (go_rn [0, 1] [] [(0, .v (.pointer (some ⟨b33, 0, none⟩))), (90, .v (.slice A10 u5.length c11)), (91, .v (.int .i64 ((u5.length : Nat) : Int))), (92, .v (.int .i64 (IntKind.i64.wrap (((j : Nat) : Int) + 1))))] (WOk.start wq5 Nil) hE10 fun aq8 hE11 => wpOps_nil (then_normal ?_))
    rw [wrap_succ (by omega)] at hE11
    exact ⟨u5.length - (j + 1), by omega, j + 1, some r, rfl, by omega, hE11, hT5⟩
  · obtain rfl : j = u5.length := by have := of_decide_eq_false hc; omega
    refine wp_exit (then_exit (then_exit (block_exit ?_)))
    rw [List.take_length] at hT
    obtain ⟨hW631, hF632⟩ := hT.tab hW622 1 [⟨b21, 0, [.int .i64 n1, .slice A6 s2.length c7, .bool b3, .slice A8 l4.length c9, .slice A10 u5.length c11], true⟩, ⟨b33, 0, [.int .i16 (IntKind.i16.wrap v), .string (bs s78), .slice A339 ((lst (Tree.at_ (Tree.mk n1 s2 b3 l4 u5) 1)).length) c340, .slice A577 ((lst (Tree.at_ (Tree.mk n1 s2 b3 l4 u5) 2)).length) c578, .bool ((IntKind.i64.wrap (BitVec.ofInt 64 n594 &&& BitVec.ofInt 64 1).toNat) == 1), .map m_], true⟩, ⟨b62, 0, [.int .i64 n1, .slice A6 s2.length c7, .bool b3, .slice A8 l4.length c9, .slice A10 u5.length c11], true⟩] rfl
    have hM633 := hT.mapImm hW622 hW631 hF632 hsort (tags_range h17)
    have hE634 : EnvOk 105 [⟨b21, 0, [.int .i64 n1, .slice A6 s2.length c7, .bool b3, .slice A8 l4.length c9, .slice A10 u5.length c11], true⟩, ⟨b33, 0, [.int .i16 (IntKind.i16.wrap v), .string (bs s78), .slice A339 ((lst (Tree.at_ (Tree.mk n1 s2 b3 l4 u5) 1)).length) c340, .slice A577 ((lst (Tree.at_ (Tree.mk n1 s2 b3 l4 u5) 2)).length) c578, .bool ((IntKind.i64.wrap (BitVec.ofInt 64 n594 &&& BitVec.ofInt 64 1).toNat) == 1), .map m_], true⟩, ⟨b62, 0, [.int .i64 n1, .slice A6 s2.length c7, .bool b3, .slice A8 l4.length c9, .slice A10 u5.length c11], true⟩] [] _ := (hE3.retable [⟨b21, 0, [.int .i64 n1, .slice A6 s2.length c7, .bool b3, .slice A8 l4.length c9, .slice A10 u5.length c11], true⟩, ⟨b33, 0, [.int .i16 (IntKind.i16.wrap v), .string (bs s78), .slice A339 ((lst (Tree.at_ (Tree.mk n1 s2 b3 l4 u5) 1)).length) c340, .slice A577 ((lst (Tree.at_ (Tree.mk n1 s2 b3 l4 u5) 2)).length) c578, .bool ((IntKind.i64.wrap (BitVec.ofInt 64 n594 &&& BitVec.ofInt 64 1).toNat) == 1), .map m_], true⟩, ⟨b62, 0, [.int .i64 n1, .slice A6 s2.length c7, .bool b3, .slice A8 l4.length c9, .slice A10 u5.length c11], true⟩]).pk
    refine leave_end hE634 hW631.cells (v := .tuple #[]) (by kernel_rfl) ?_
    refine ⟨_, rfl, fun a635 hE636 => ?_⟩
    have hE637 : EnvOk 17 [⟨b21, 0, [.int .i64 n1, .slice A6 s2.length c7, .bool b3, .slice A8 l4.length c9, .slice A10 u5.length c11], true⟩, ⟨b33, 0, [.int .i16 (IntKind.i16.wrap v), .string (bs s78), .slice A339 ((lst (Tree.at_ (Tree.mk n1 s2 b3 l4 u5) 1)).length) c340, .slice A577 ((lst (Tree.at_ (Tree.mk n1 s2 b3 l4 u5) 2)).length) c578, .bool ((IntKind.i64.wrap (BitVec.ofInt 64 n594 &&& BitVec.ofInt 64 1).toNat) == 1), .map m_], true⟩, ⟨b62, 0, [.int .i64 n1, .slice A6 s2.length c7, .bool b3, .slice A8 l4.length c9, .slice A10 u5.length c11], true⟩] [(14, .v (.tuple #[])), (5, .p 1 0), (12, .p 1 0), (13, .v (.agg #[.int .i64 n1, .slice A6 s2.length c7, .bool b3, .slice A8 l4.length c9, .slice A10 u5.length c11]))] _ := hE636.places (⟨rfl, rfl, ⟨rfl, rfl, trivial⟩⟩)
    refine wpOps_nil ?_
    refine then_normal ?_
    refine go_seq_region [0, 1, 2] (by kernel_rfl) ?_
    refine go_rn [0] [1, 2] [(15, .p 1 0)] hW631 hE637 fun a638 hE639 => ?_
    clear hE637
    have hrel_ : relOffsetFetchRequest (dvP m_ u5 [dvS (bs s78), dvL A339 (lst (Tree.at_ (Tree.mk n1 s2 b3 l4 u5) 1)).length c340 f341, dvL A577 (lst (Tree.at_ (Tree.mk n1 s2 b3 l4 u5) 2)).length c578 f579, dvB ((IntKind.i64.wrap (BitVec.ofInt 64 n594 &&& BitVec.ofInt 64 1).toNat) == 1)]) (Tree.mk n1 s2 b3 l4 u5) := by
      unfold relOffsetFetchRequest
      exact ⟨by rw [ht94]; rfl, ⟨hn342, rfl, hL343.rel_⟩, ⟨hn580, rfl, hL581.rel_⟩, by rw [ht611]; exact bool_rel _, rfl, trivial⟩
    have he_ : aOffsetFetchRequest (IntKind.i16.wrap v) (dvP m_ u5 [dvS (bs s78), dvL A339 (lst (Tree.at_ (Tree.mk n1 s2 b3 l4 u5) 1)).length c340 f341, dvL A577 (lst (Tree.at_ (Tree.mk n1 s2 b3 l4 u5) 2)).length c578 f579, dvB ((IntKind.i64.wrap (BitVec.ofInt 64 n594 &&& BitVec.ofInt 64 1).toNat) == 1)]) = makeOffsetFetchRequest v (Tree.mk n1 s2 b3 l4 u5) := atOffsetFetchRequest _ _ _ hrel_
    rw [← he_] at hroom ⊢
    have hok_ : okOffsetFetchRequest wq (fun _ _ => True) (dvP m_ u5 [dvS (bs s78), dvL A339 (lst (Tree.at_ (Tree.mk n1 s2 b3 l4 u5) 1)).length c340 f341, dvL A577 (lst (Tree.at_ (Tree.mk n1 s2 b3 l4 u5) 2)).length c578 f579, dvB ((IntKind.i64.wrap (BitVec.ofInt 64 n594 &&& BitVec.ofInt 64 1).toNat) == 1)]) := by
      unfold okOffsetFetchRequest
      exact ⟨by show ByteArray.size (bs s78) ≤ 1000000; rw [bs_size]; have h_ := cj0; rw [ht94] at h_; exact h_, ⟨((hL343.move (Fr.trans (Fr.trans (Fr.trans (Fr.trans hF379 hF584) hF617) hF621) hF632).step immM (Fr.trans (Fr.trans (Fr.trans (Fr.trans hF379 hF584) hF617) hF621) hF632).to').move (Step.refl _ Nil) nilM (fun _ _ _ _ => trivial)).slots, cj1, ((hL343.move (Fr.trans (Fr.trans (Fr.trans (Fr.trans hF379 hF584) hF617) hF621) hF632).step immM (Fr.trans (Fr.trans (Fr.trans (Fr.trans hF379 hF584) hF617) hF621) hF632).to').move (Step.refl _ Nil) nilM (fun _ _ _ _ => trivial)).each⟩, ⟨((hL581.move (Fr.trans (Fr.trans hF617 hF621) hF632).step immM (Fr.trans (Fr.trans hF617 hF621) hF632).to').move (Step.refl _ Nil) nilM (fun _ _ _ _ => trivial)).slots, cj2, ((hL581.move (Fr.trans (Fr.trans hF617 hF621) hF632).step immM (Fr.trans (Fr.trans hF617 hF621) hF632).to').move (Step.refl _ Nil) nilM (fun _ _ _ _ => trivial)).each⟩, trivial, (hM633.move (Step.refl _ Nil) nilM (fun _ _ _ _ => trivial)), cU.2.1, cU.2.2, trivial⟩
    refine of_op (wpOp_call hE639 (f := 53) (vs := [.pointer (some ⟨b33, 0, none⟩), .slice none 0 0]) (d := 16) (by kernel_rfl) Tryz.call53 (kOffsetFetchRequest (IntKind.i16.wrap v) (dvP m_ u5 [dvS (bs s78), dvL A339 (lst (Tree.at_ (Tree.mk n1 s2 b3 l4 u5) 1)).length c340 f341, dvL A577 (lst (Tree.at_ (Tree.mk n1 s2 b3 l4 u5) 2)).length c578 f579, dvB ((IntKind.i64.wrap (BitVec.ofInt 64 n594 &&& BitVec.ofInt 64 1).toNat) == 1)]) b33 0 none 0 [] _ _ (fun j v hj => ⟨trivial, hW631.cells 1 _ rfl j v hj⟩) hok_ none_blk (World.ownsRow_nil _ 0 _ _) (by simpa using hroom)) ?_)
    rintro e_ wz ⟨A', c', rfl, ho, hs, hn⟩
    refine ⟨_, rfl, fun az hEz => ?_⟩
    have hEy := (hEz.pick (ks := [16]) (env' := [(16, .v (.slice A' (([] ++ aOffsetFetchRequest (IntKind.i16.wrap v) (dvP m_ u5 [dvS (bs s78), dvL A339 (lst (Tree.at_ (Tree.mk n1 s2 b3 l4 u5) 1)).length c340 f341, dvL A577 (lst (Tree.at_ (Tree.mk n1 s2 b3 l4 u5) 2)).length c578 f579, dvB ((IntKind.i64.wrap (BitVec.ofInt 64 n594 &&& BitVec.ofInt 64 1).toNat) == 1)])).length) c'))]) (by kernel_rfl)).cutTb 0 (by kernel_rfl)
    have hWz := WOk.start wz Nil
    refine go_rn [2] [] [(4, .v (.slice A' (([] ++ aOffsetFetchRequest (IntKind.i16.wrap v) (dvP m_ u5 [dvS (bs s78), dvL A339 (lst (Tree.at_ (Tree.mk n1 s2 b3 l4 u5) 1)).length c340 f341, dvL A577 (lst (Tree.at_ (Tree.mk n1 s2 b3 l4 u5) 2)).length c578 f579, dvB ((IntKind.i64.wrap (BitVec.ofInt 64 n594 &&& BitVec.ofInt 64 1).toNat) == 1)])).length) c'))] hWz hEy fun a640 hE641 => ?_
    clear hEy
    refine wpOps_nil ?_
    refine then_normal ?_
    refine wp_ret ?_
    refine leave hE641 hWz.cells (v := .slice A' (([] ++ aOffsetFetchRequest (IntKind.i16.wrap v) (dvP m_ u5 [dvS (bs s78), dvL A339 (lst (Tree.at_ (Tree.mk n1 s2 b3 l4 u5) 1)).length c340 f341, dvL A577 (lst (Tree.at_ (Tree.mk n1 s2 b3 l4 u5) 2)).length c578 f579, dvB ((IntKind.i64.wrap (BitVec.ofInt 64 n594 &&& BitVec.ofInt 64 1).toNat) == 1)])).length) c') (by kernel_rfl) ?_
    exact fresh_of_app hW631.step ⟨A', c', rfl, ho, hs, hn⟩

theorem xOffsetFetchRequest (w : World) : Calls Tryz.prog 20 #[] w (Gives w (.int .i64 10)) := by
  refine enter (n := 4) Tryz.func20 rfl Tryz.ntmps20 (by kernel_rfl) fun a hE => ?_
  have hW := WOk.start w Nil
  refine go_sp [] hW hE fun a1 hE2 => ?_
  clear hE
  refine go_seq_region [0, 1, 2, 3] (by kernel_rfl) ?_
  refine of_op (wpOp_inline hE2 (f := 47) (vs := []) (d := 1) (n' := 3) (by kernel_rfl) Tryz.call47 Tryz.func47 rfl Tryz.ntmps47 (by kernel_rfl) fun a3 hE4 => ?_)
  refine go_sp [] hW hE4 fun a5 hE6 => ?_
  clear hE4
  refine go_seq_region [0] (by kernel_rfl) ?_
  refine of_op (wpOp_alloc hW hE6 (d := 1) (cs := [.int .i16 0, .string ByteArray.empty, .slice none 0 0, .slice none 0 0, .bool false, .map none]) (by kernel_rfl) fun b7 a8 w9 hb10 hz11 hF12 hW13 hE14 => ?_)
  clear hE6 hW
  refine wpOps_nil ?_
  refine then_normal ?_
  refine go_seq_region [0] (by kernel_rfl) ?_
  refine of_op (wpOp_inline hE14 (f := 103) (vs := [.pointer (some ⟨b7, 0, none⟩)]) (d := 2) (n' := 2) (by kernel_rfl) Tryz.call103 Tryz.func103 rfl Tryz.ntmps103 (by kernel_rfl) fun a15 hE16 => ?_)
  have hE17 := hE16.recast 0 (.v (.pointer (some ⟨b7, 0, none⟩))) (.p 0 0) rfl rfl (Nat.le_of_ble_eq_true (n := 1) rfl)
  refine wp_skip ?_
  refine leave_end hE17 hW13.cells (v := .tuple #[]) (by kernel_rfl) ?_
  refine ⟨_, rfl, fun a18 hE19 => ?_⟩
  have hE20 : EnvOk 3 [⟨b7, 0, [.int .i16 0, .string ByteArray.empty, .slice none 0 0, .slice none 0 0, .bool false, .map none], true⟩] [(2, .v (.tuple #[])), (1, .p 0 0)] _ := hE19.places (⟨rfl, rfl, trivial⟩)
  refine wpOps_nil ?_
  refine then_normal ?_
  refine go_sp [(0, .p 0 0)] hW13 hE20 fun a21 hE22 => ?_
  clear hE20
  refine wp_ret ?_
  refine leave hE22 hW13.cells (v := .pointer (some ⟨b7, 0, none⟩)) (by kernel_rfl) ?_
  refine ⟨_, rfl, fun a23 hE24 => ?_⟩
  have hE25 : EnvOk 4 [⟨b7, 0, [.int .i16 0, .string ByteArray.empty, .slice none 0 0, .slice none 0 0, .bool false, .map none], true⟩] [(1, .v (.pointer (some ⟨b7, 0, none⟩)))] _ := hE24.places (trivial)
  refine of_op (wpOp_inline hE25 (f := 48) (vs := [.pointer (some ⟨b7, 0, none⟩)]) (d := 2) (n' := 3) (by kernel_rfl) Tryz.call48 Tryz.func48 rfl Tryz.ntmps48 (by kernel_rfl) fun a26 hE27 => ?_)
  refine go_sp [] hW13 hE27 fun a28 hE29 => ?_
  clear hE27
  refine go_sp [(2, .v (.int .i16 10))] hW13 hE29 fun a30 hE31 => ?_
  clear hE29
  refine wp_ret ?_
  refine leave hE31 hW13.cells (v := .int .i16 10) (by kernel_rfl) ?_
  refine ⟨_, rfl, fun a32 hE33 => ?_⟩
  have hE34 : EnvOk 4 [⟨b7, 0, [.int .i16 0, .string ByteArray.empty, .slice none 0 0, .slice none 0 0, .bool false, .map none], true⟩] [(2, .v (.int .i16 10)), (1, .v (.pointer (some ⟨b7, 0, none⟩)))] _ := hE33.places (⟨rfl, rfl, trivial⟩)
  refine go_rn [2, 3] [] [(0, .v (.int .i64 10))] hW13 hE34 fun a35 hE36 => ?_
  clear hE34
  refine wpOps_nil ?_
  refine then_normal ?_
  refine wp_ret ?_
  refine leave hE36 hW13.cells (v := .int .i64 10) (by kernel_rfl) ?_
  exact ⟨rfl, hW13.step⟩

theorem sOffsetFetchRequest_depth : depths sOffsetFetchRequestF ≤ 8 := by simp [sOffsetFetchRequestF, Fld.depth.depths, Fld.depth]
theorem sOffsetFetchRequest_plain : plains sOffsetFetchRequestF := by simp [sOffsetFetchRequestF, Fld.plain.plains, Fld.plain]

theorem lawOffsetFetchRequest (x : Int) (hx : 0 ≤ x) (hx' : x < 256) (ct : List Value) (t : Tree) (w : World) (F : Nat → Nat → Prop) (ht : TreeR w F ct t) (hroom : (writeB 8 sOffsetFetchRequestF sOffsetFetchRequestX (Int.tmod x (10 + 1)) t).length ≤ 1099511627776) (hcan : canOffsetFetchRequest (fitT (Int.tmod x (10 + 1)) 8 sOffsetFetchRequestF t)) (hmade : (makeOffsetFetchRequest (Int.tmod x (10 + 1)) (fitT (Int.tmod x (10 + 1)) 8 sOffsetFetchRequestF t)).length + 16 ≤ 1099511627776) (hpure : makeOffsetFetchRequest (Int.tmod x (10 + 1)) (fitT (Int.tmod x (10 + 1)) 8 sOffsetFetchRequestF t) = writeB 8 sOffsetFetchRequestF sOffsetFetchRequestX (Int.tmod x (10 + 1)) t) :
    Calls Tryz.prog 5 #[.int .u8 x, .agg ct.toArray] w (Gives w (.bool true)) := by
  obtain ⟨n1, s2, b3, l4, u5, A6, c7, A8, c9, A10, c11, xs12, rfl, rfl, h14, h15, h16, h17⟩ := ht.open_
  have hsm19 := h14.small
  have hsm20 := h15.small
  refine enter (n := 31) Tryz.func5 rfl Tryz.ntmps5 (by kernel_rfl) fun a hE => ?_
  have hW := WOk.start w Nil
  refine go_seq_region [0, 1] (by kernel_rfl) ?_
  refine of_op (wpOp_box hW hE (d := 3) (cs := [.int .i64 n1, .slice A6 s2.length c7, .bool b3, .slice A8 l4.length c9, .slice A10 u5.length c11]) (by kernel_rfl) fun b21 a22 w23 hb24 hz25 hF26 hW27 hE28 => ?_)
  clear hE hW
  refine go_rn [1] [] [(0, .v (.int .u8 x)), (3, .p 0 0)] hW27 hE28 fun a29 hE30 => ?_
  clear hE28
  refine wpOps_nil ?_
  refine then_normal ?_
  refine wp_seq ?_
  refine go_seq_region [0, 1, 2] (by kernel_rfl) ?_
  refine go_rn [0] [1, 2] [(0, .v (.int .u8 x)), (3, .p 0 0), (8, .v (.agg #[.int .i64 n1, .slice A6 s2.length c7, .bool b3, .slice A8 l4.length c9, .slice A10 u5.length c11]))] hW27 hE30 fun a31 hE32 => ?_
  clear hE30
  refine of_op (wpOp_call hE32 (f := 8) (vs := [.agg #[.int .i64 n1, .slice A6 s2.length c7, .bool b3, .slice A8 l4.length c9, .slice A10 u5.length c11]]) (d := 9) (by kernel_rfl) Tryz.call8 (lFits1 _ _ _ _ (ht.move hW27.step nilM hW27.imm)) ?_)
  rintro e_ w35 ⟨b34, rfl, hs33⟩
  refine ⟨_, rfl, fun a36 hE37 => ?_⟩
  have hW38 := hW27.next_nil hs33
  have hF39 := hW27.frN hs33
  clear hE32 hW27
  refine go_rn [2] [] [(0, .v (.int .u8 x)), (3, .p 0 0), (10, .v (.bool (!b34)))] hW38 hE37 fun a40 hE41 => ?_
  clear hE37
  refine wpOps_nil ?_
  refine then_normal ?_
  refine cond_of hE41 (b := !b34) (by kernel_rfl) (fun hc42 => ?_) (fun hc42 => ?_)
  ·
    refine go_sp [(4, .v (.bool true))] hW38 hE41 fun a44 hE45 => ?_
    clear hE41
    refine wp_ret ?_
    refine then_ret ?_
    refine leave hE45 hW38.cells (v := .bool true) (by kernel_rfl) ?_
    exact ⟨rfl, hW38.step⟩
  ·
    refine wp_skip ?_
    refine then_normal ?_
    refine go_seq_region [0, 1] (by kernel_rfl) ?_
    refine of_op (wpOp_call hE41 (f := 20) (vs := []) (d := 11) (by kernel_rfl) Tryz.call20 (xOffsetFetchRequest _) ?_)
    rintro e_ w48 ⟨rfl, hs47⟩
    refine ⟨_, rfl, fun a49 hE50 => ?_⟩
    have hW51 := hW38.next_nil hs47
    have hF52 := hW38.frN hs47
    clear hE41 hW38
    refine go_rn [1] [] [(0, .v (.int .u8 x)), (3, .p 0 0), (5, .v (.int .i64 10))] hW51 hE50 fun a53 hE54 => ?_
    clear hE50
    refine wpOps_nil ?_
    refine then_normal ?_
    refine wp_seq ?_
    refine go_sp [(0, .v (.int .u8 x)), (3, .p 0 0), (5, .v (.int .i64 10)), (13, .v (.bool false))] hW51 hE54 fun a55 hE56 => ?_
    clear hE54
    refine cond_false hE56 (b := false) (by kernel_rfl) rfl ?_
    refine wp_skip ?_
    refine then_normal ?_
    refine go_seq_region [0, 1, 2, 3, 4, 5, 6] (by kernel_rfl) ?_
    refine of_op (wpOp_call hE56 (f := 21) (vs := []) (d := 14) (by kernel_rfl) Tryz.call21 (sOffsetFetchRequest _ (Imm F w w48 [⟨b21, 0, [.int .i64 n1, .slice A6 s2.length c7, .bool b3, .slice A8 l4.length c9, .slice A10 u5.length c11], true⟩] [])) ?_)
    rintro e_ w61 ⟨A59, c60, rfl, hr58, hs57⟩
    obtain ⟨xs62, h63, h64⟩ := hr58.move (Step.refl _ Nil) nilM (hW51.laid (G := F) hs57)
    refine ⟨_, rfl, fun a65 hE66 => ?_⟩
    have hW67 := hW51.next_nil hs57
    have hF68 := hW51.frN hs57
    clear hE56
    refine go_rn [1, 2] [3, 4, 5, 6] [(3, .p 0 0), (14, .v (.agg #[.slice A59 sOffsetFetchRequestF.length c60, .int .i64 sOffsetFetchRequestX])), (15, .v (.int .u8 x)), (16, .v (.int .i64 10))] hW67 hE66 fun a69 hE70 => ?_
    clear hE66
    refine of_op (wpOp_call hE70 (f := 11) (vs := [.int .u8 x, .int .i64 10]) (d := 17) (by kernel_rfl) Tryz.call11 (lVersion x 10 hx hx' (by decide) (by decide) _) ?_)
    rintro e_ w72 ⟨rfl, hs71⟩
    refine ⟨_, rfl, fun a73 hE74 => ?_⟩
    have hW75 := hW67.next_nil hs71
    have hF76 := hW67.frN hs71
    clear hE70 hW67
    refine of_op (wpOp_alloc hW75 hE74 (d := 6) (cs := [.slice none 0 0, .int .i64 0]) (by kernel_rfl) fun b77 a78 w79 hb80 hz81 hF82 hW83 hE84 => ?_)
    clear hE74 hW75
    refine of_op (wpOp_store hW83 hE84 (oi := 1) (cs := [.slice A59 sOffsetFetchRequestF.length c60, .int .i64 sOffsetFetchRequestX]) (by kernel_rfl) fun w85 hF86 hW87 hE88 => ?_)
    clear hE84 hW83
    refine go_rn [6] [] [(3, .p 0 0), (6, .p 1 0), (7, .v (.int .i64 (Int.tmod x (10 + 1))))] hW87 hE88 fun a89 hE90 => ?_
    clear hE88
    refine wpOps_nil ?_
    refine then_normal ?_
    refine go_seq_drawK 13 (by kernel_rfl) hW87 fun w91 hF92 hW93 hT94 => ?_
    clear hW87
    refine go_rnD [0, 1, 2, 3, 4, 8, 9, 10] [(18, .v (.int .i64 (Int.tmod x (10 + 1)))), (20, .v (.slice A59 sOffsetFetchRequestF.length c60)), (21, .v (.int .i64 (Int.tmod x (10 + 1)))), (22, .v (.agg #[.int .i64 n1, .slice A6 s2.length c7, .bool b3, .slice A8 l4.length c9, .slice A10 u5.length c11])), (26, .v (.agg #[.slice A59 sOffsetFetchRequestF.length c60, .int .i64 sOffsetFetchRequestX])), (27, .v (.int .i64 (Int.tmod x (10 + 1)))), (28, .v (.agg #[.int .i64 n1, .slice A6 s2.length c7, .bool b3, .slice A8 l4.length c9, .slice A10 u5.length c11]))] 6 (panicFree_then panicFree_body) (fun _ h => h.cells) hT94 hE90 fun a95 hE96 => ?_
    clear hE90
    refine anyC_op (i := 5) (by kernel_rfl) (wpOp_call hE96 (f := 15) (vs := [.slice A59 sOffsetFetchRequestF.length c60, .int .i64 (Int.tmod x (10 + 1)), .agg #[.int .i64 n1, .slice A6 s2.length c7, .bool b3, .slice A8 l4.length c9, .slice A10 u5.length c11]]) (d := 23) (by kernel_rfl) Tryz.call15 (sFitOK _ _ _ sOffsetFetchRequestF (Int.tmod x (10 + 1)) _ (Tree.mk n1 s2 b3 l4 u5) _ _ ⟨xs62, (h63.move (Fr.trans (Fr.trans (Fr.trans hF76 hF82) hF86) hF92).step immM (Fr.trans (Fr.trans (Fr.trans hF76 hF82) hF86) hF92).to'), (fun i_ x_ h_ => ((h64 i_ x_ h_).move (Fr.trans (Fr.trans (Fr.trans hF76 hF82) hF86) hF92).step immM (Fr.trans (Fr.trans (Fr.trans hF76 hF82) hF86) hF92).to'))⟩ sOffsetFetchRequest_plain sOffsetFetchRequest_depth (ht.move hW93.step nilM hW93.imm)) ?_)
    rintro e_ w100 ⟨cs99, rfl, hr98, hs97⟩
    have hr101 := hr98.move (Step.refl _ Nil) nilM (hW93.laid (G := F) hs97)
    obtain ⟨n102, s103, b104, l105, u106, A107, c108, A109, c110, A111, c112, xs113, ht119, hcs114, h115, h116, h117, h118⟩ := hr101.open_
    rw [hcs114] at hr101
    have hsm120 := h115.small
    have hsm121 := h116.small
    rw [hcs114]
    refine ⟨_, rfl, fun a122 hE123 => ?_⟩
    have hW124 := hW93.next_nil hs97
    have hF125 := hW93.frN hs97
    clear hE96
    have hT126 := TT.ofW hF125 hW124
    refine ⟨fun _ => hT126, ?_⟩
    refine anyC_op (i := 6) (by kernel_rfl) (wpOp_call hE123 (f := 14) (vs := [.agg #[.int .i64 n102, .slice A107 s103.length c108, .bool b104, .slice A109 l105.length c110, .slice A111 u106.length c112]]) (d := 24) (by kernel_rfl) Tryz.call14 (lGiven _ _ _ _ _ hr101 (Nat.le_refl _)) ?_)
    rintro e_ w130 ⟨cs129, rfl, hr128, hs127⟩
    have hr131 := hr128.move (Step.refl _ Nil) nilM (hW124.laid (G := F) hs127)
    obtain ⟨n132, s133, b134, l135, u136, A137, c138, A139, c140, A141, c142, xs143, ht149, hcs144, h145, h146, h147, h148⟩ := hr131.open_
    rw [hcs144] at hr131
    have hsm150 := h145.small
    have hsm151 := h146.small
    rw [hcs144]
    refine ⟨_, rfl, fun a152 hE153 => ?_⟩
    have hW154 := hW124.next_nil hs127
    have hF155 := hW124.frN hs127
    clear hE123
    have hT156 := TT.ofW (Fr.trans hF125 hF155) hW154
    refine ⟨fun _ => hT156, ?_⟩
    refine anyC_op (i := 7) (by kernel_rfl) (wpOp_call hE153 (f := 22) (vs := [.int .i64 (Int.tmod x (10 + 1)), .agg #[.int .i64 n132, .slice A137 s133.length c138, .bool b134, .slice A139 l135.length c140, .slice A141 u136.length c142]]) (d := 25) (by kernel_rfl) Tryz.call22 (mOffsetFetchRequest (Int.tmod x (10 + 1)) _ (fitT (Int.tmod x (10 + 1)) 8 sOffsetFetchRequestF (Tree.mk n1 s2 b3 l4 u5)) _ _ hr131 hcan hmade) ?_)
    rintro e_ w161 ⟨A159, c160, rfl, ho158, hs157⟩
    refine ⟨_, rfl, fun a162 hE163 => ?_⟩
    obtain ⟨hW164, hF165⟩ := hW154.frFresh hs157 (brow A159 c160 5 (makeOffsetFetchRequest (Int.tmod x (10 + 1)) (fitT (Int.tmod x (10 + 1)) 8 sOffsetFetchRequestF (Tree.mk n1 s2 b3 l4 u5)))) (Nat.le_refl _) ho158
    clear hE153 hW154
    have hT166 := TT.ofW (Fr.trans (Fr.trans hF125 hF155) hF165) hW164
    refine ⟨fun _ => hT166, ?_⟩
    refine anyC_op (i := 11) (by kernel_rfl) (wpOp_call hE163 (f := 16) (vs := [.agg #[.slice A59 sOffsetFetchRequestF.length c60, .int .i64 sOffsetFetchRequestX], .int .i64 (Int.tmod x (10 + 1)), .agg #[.int .i64 n1, .slice A6 s2.length c7, .bool b3, .slice A8 l4.length c9, .slice A10 u5.length c11]]) (d := 29) (by kernel_rfl) Tryz.call16 (sWrite _ _ sOffsetFetchRequestF sOffsetFetchRequestX (Int.tmod x (10 + 1)) _ (Tree.mk n1 s2 b3 l4 u5) _ _ ⟨xs62, (h63.move (Fr.trans (Fr.trans (Fr.trans (Fr.trans (Fr.trans (Fr.trans hF76 hF82) hF86) hF92) hF125) hF155) hF165).step immM (Fr.trans (Fr.trans (Fr.trans (Fr.trans (Fr.trans (Fr.trans hF76 hF82) hF86) hF92) hF125) hF155) hF165).to'), (fun i_ x_ h_ => ((h64 i_ x_ h_).move (Fr.trans (Fr.trans (Fr.trans (Fr.trans (Fr.trans (Fr.trans hF76 hF82) hF86) hF92) hF125) hF155) hF165).step immM (Fr.trans (Fr.trans (Fr.trans (Fr.trans (Fr.trans (Fr.trans hF76 hF82) hF86) hF92) hF125) hF155) hF165).to'))⟩ sOffsetFetchRequest_depth (ht.move hW164.step nilM hW164.imm) hroom) ?_)
    rintro e_ w171 ⟨A169, c170, rfl, ho168, hs167⟩
    refine ⟨_, rfl, fun a172 hE173 => ?_⟩
    obtain ⟨hW174, hF175⟩ := hW164.frFresh hs167 (brow A169 c170 5 (writeB 8 sOffsetFetchRequestF sOffsetFetchRequestX (Int.tmod x (10 + 1)) (Tree.mk n1 s2 b3 l4 u5))) (Nat.le_refl _) ho168
    clear hE163 hW164
    have hT176 := TT.ofW (Fr.trans (Fr.trans (Fr.trans hF125 hF155) hF165) hF175) hW174
    refine ⟨fun _ => hT176, ?_⟩
    refine anyC_op (i := 12) (by kernel_rfl) (wpOp_call hE173 (f := 12) (vs := [.slice A159 ((makeOffsetFetchRequest (Int.tmod x (10 + 1)) (fitT (Int.tmod x (10 + 1)) 8 sOffsetFetchRequestF (Tree.mk n1 s2 b3 l4 u5))).length) c160, .slice A169 ((writeB 8 sOffsetFetchRequestF sOffsetFetchRequestX (Int.tmod x (10 + 1)) (Tree.mk n1 s2 b3 l4 u5)).length) c170]) (d := 30) (by kernel_rfl) Tryz.call12 (sSame _ _ _ _ (makeOffsetFetchRequest (Int.tmod x (10 + 1)) (fitT (Int.tmod x (10 + 1)) 8 sOffsetFetchRequestF (Tree.mk n1 s2 b3 l4 u5))) (writeB 8 sOffsetFetchRequestF sOffsetFetchRequestX (Int.tmod x (10 + 1)) (Tree.mk n1 s2 b3 l4 u5)) _ _ (octs_own (hW174.own 0 _ rfl) (by first | omega | (simp only [be_length]; exact Nat.le_trans (widthI_le _) (by decide)) | (have := hroom; omega) | (have := hmade; omega)) (F := fun _ _ => True) (fun _ _ _ => trivial)) (octs_own (hW174.own 1 _ rfl) (by first | omega | (simp only [be_length]; exact Nat.le_trans (widthI_le _) (by decide)) | (have := hroom; omega) | (have := hmade; omega)) (F := fun _ _ => True) (fun _ _ _ => trivial))) ?_)
    rintro e_ w178 ⟨rfl, hs177⟩
    refine ⟨_, rfl, fun a179 hE180 => ?_⟩
    have hW181 := hW174.next_nil hs177
    have hF182 := hW174.frN hs177
    clear hE173 hW174
    have hT183 := TT.ofW (Fr.trans (Fr.trans (Fr.trans (Fr.trans hF125 hF155) hF165) hF175) hF182) hW181
    refine ⟨fun _ => hT183, ?_⟩
    refine anyC_op (i := 13) (by kernel_rfl) (wpOp_pure [4] hW181.cells hE180 (env' := [(4, .v (.bool (decide (makeOffsetFetchRequest (Int.tmod x (10 + 1)) (fitT (Int.tmod x (10 + 1)) 8 sOffsetFetchRequestF (Tree.mk n1 s2 b3 l4 u5)) = writeB 8 sOffsetFetchRequestF sOffsetFetchRequestX (Int.tmod x (10 + 1)) (Tree.mk n1 s2 b3 l4 u5)))))]) (by kernel_rfl) fun a184 hE185 => ?_)
    clear hE180
    refine ⟨fun h => absurd rfl h, ?_⟩
    refine anyC_done (by kernel_rfl) ?_ _
    refine then_normal ?_
    refine wp_ret ?_
    refine leave hE185 hW181.cells (v := .bool (decide (makeOffsetFetchRequest (Int.tmod x (10 + 1)) (fitT (Int.tmod x (10 + 1)) 8 sOffsetFetchRequestF (Tree.mk n1 s2 b3 l4 u5)) = writeB 8 sOffsetFetchRequestF sOffsetFetchRequestX (Int.tmod x (10 + 1)) (Tree.mk n1 s2 b3 l4 u5)))) (by kernel_rfl) ?_
    exact ⟨by rw [hpure]; simp, hW181.step⟩

theorem closeOffsetFetchRequest (x : Int) (hx : 0 ≤ x ∧ x ≤ 255) (ct : List Value) (t : Tree) (w : World) (F : Nat → Nat → Prop) (ht : TreeR w F ct t) (hsz : t.size ≤ 8388608) : Calls Tryz.prog 5 #[.int .u8 x, .agg ct.toArray] w (Gives w (.bool true)) := by
  obtain ⟨g0, g1⟩ := ver_ok (m := 10 + 1) hx.1 hx.2 (by decide) (by decide)
  have hp : makeOffsetFetchRequest (Int.tmod x (10 + 1)) (fitT (Int.tmod x (10 + 1)) 8 sOffsetFetchRequestF t) = writeB 8 sOffsetFetchRequestF sOffsetFetchRequestX (Int.tmod x (10 + 1)) t := by unfold makeOffsetFetchRequest; rw [i16_small g0 g1]; exact pureOffsetFetchRequest (Int.tmod x (10 + 1)) g0 g1 t
  have h1 := writeB_le 8 sOffsetFetchRequestF sOffsetFetchRequestX (Int.tmod x (10 + 1)) t
  have h2 : costL sOffsetFetchRequestF ≤ 131000 := by decide +kernel
  have h3 := Nat.mul_le_mul h2 hsz
  exact lawOffsetFetchRequest x hx.1 (by omega) ct t w F ht (by omega) (canfitOffsetFetchRequest (Int.tmod x (10 + 1)) t) (by rw [hp]; omega) hp

end Go.Proofs.YtbjopfcbpobnpaaGreat.ME

/- FnMakeOffsetFetchRequest: the statement: of every version and every tree of the bulk that the statement speaks of the law returns true, and leaves its arguments as they are. Own work. -/
namespace Go.Proofs.YtbjopfcbpobnpaaGreat.ME
open Go
open Go.ChangeShapes Go.WideShapes Go.ChangeAt Go.RowKit
set_option linter.unusedVariables false
set_option linter.unusedSimpArgs false

theorem ownKnob_ : ownKnob Tryz.prog.godebug = none := by kernel_rfl
theorem laidOut_ : laidOutB Tryz.prog = true := by kernel_rfl
theorem treeTys : TreeTys Tryz.prog 26 23 24 63 22 2 4 61 5 := ⟨by kernel_rfl, by kernel_rfl, by kernel_rfl, by kernel_rfl, by kernel_rfl, by kernel_rfl, by kernel_rfl, by kernel_rfl, by kernel_rfl, by kernel_rfl⟩
theorem open_two {H : Type} {enc : TypeId × Value → H} {P : Program} {W : World} {base b' : Nat} {sp : Nat → Bool} {hd : Bool} {t0 t1 : TypeId} {v0 v1 : Value} {d0 : DataW H} {p0 : List MemPlace} (hu : P.underlying t0 = some (.int .u8))
    (hval : ∀ (j : Nat) (t : TypeId) (v : Value), #[t0, t1][j]? = some t → #[v0, v1][j]? = some v → Value.okWide P W .any base t v) (h : DataW.Trod enc P W b' sp hd t0 v0 d0 p0) : ∃ x, v0 = .int .u8 x ∧ d0 = .lit (.int .u8 x) ∧ p0 = [] ∧ (Lit.int .u8 x).wf = true :=
  open_int hu (hval 0 t0 v0 rfl rfl) h
theorem agg_of {v : Value} {cs : List Value} (h : v.cells.toList = cs) (h5 : cs.length = 5) : v = .agg cs.toArray := by
  subst h
  cases v <;> first | (simp [Value.cells] at h5; done) | simp [Value.cells]

theorem contract_ (H : Type) (enc : TypeId × Value → H) (W : World) (base : Nat) (args : Array Value) (ds gs : List (DataW H)) (before : List MemPlace)
    (hval : ∀ (j : Nat) t v, Tryz.f5.params[j]? = some t → args[j]? = some v → Value.okWide Tryz.prog W .any base t v)
    (hW : DataW.Whole enc Tryz.prog Tryz.f5.params.toList Rows.fnMakeOffsetFetchRequestSpec.vars false W args.toList ds gs before) (hk : Rows.uptoSmall H (ds ++ gs) = true) :
    Calls Tryz.prog 5 args W fun e W' => ∃ v, e = .returned v ∧ Rows.fnMakeOffsetFetchRequestSpec.post enc Tryz.prog Tryz.f5 false true false false W args v W' := by
  have hW' := hW
  obtain ⟨p, q, hA0, hV, rfl, hfz, hnd⟩ := hW
  have hA : DataW.TrodAll enc Tryz.prog W 0 (fun _ => true) true Tryz.f5.params.toList args.toList ds p := hA0
  rw [Tryz.params5] at hA hval
  obtain ⟨v0, v1, d0, d1, p0, p1, rfl, rfl, rfl, h0, h1⟩ := trodAll_two hA
  obtain ⟨rfl, rfl⟩ := trodVars_none hV
  obtain ⟨x, rfl, rfl, rfl, w0⟩ := open_two Tryz.underlying5 @hval h0
  have hx : 0 ≤ x ∧ x ≤ 255 := by simpa [Lit.wf, IntKind.min, IntKind.max, IntKind.signed, IntKind.bits] using w0
  have hb : Rows.uptoBulk d1 ≤ 1048576 := by
    have h : Rows.uptoBulkAll ([DataW.lit (H := H) (.int .u8 x), d1] ++ []) ≤ 1048576 := of_decide_eq_true hk
    simp only [List.append_nil, Rows.uptoBulkAll] at h
    omega
  obtain ⟨fuel, hf⟩ := h1
  obtain ⟨t, ht, hsz⟩ := trod_tree treeTys fuel _ _ hf hb
  replace hsz : t.size ≤ 8388608 := Nat.le_trans hsz (by show 8 * Rows.uptoBulk d1 ≤ 8388608; omega)
  have hagg := agg_of rfl ht.five
  generalize v1.cells.toList = ct at ht hagg
  subst hagg
  clear hf
  refine (closeOffsetFetchRequest x hx _ t W (fun _ _ => True) ht hsz).mono fun e W' h => ?_
  obtain ⟨rfl, hs⟩ := h
  exact ⟨_, rfl, post_step hW' hs laidOut_ (by rw [Tryz.params5]; decide +kernel) rfl rfl rfl (fun _ _ _ => trodAll_cons_mk (shut_bool Tryz.underlying4 _) trodAll_mk0)⟩

set_option maxRecDepth 100000 in
theorem lifted_ (os : Os) (started : os.Started) (H : Type) (enc : TypeId × Value → H) (F : Stop.Interp) :
    ReturnsInHanded {} Tryz.checked os 5 .any ((Rows.OpenSpec.upto Rows.fnMakeOffsetFetchRequestSpec).pre6 enc Tryz.prog Tryz.f5 Rows.fnMakeOffsetFetchRequestUptoRow.domain false) (((Rows.OpenSpec.upto Rows.fnMakeOffsetFetchRequestSpec).at F).post enc Tryz.prog Tryz.f5 false true false false) := by
  refine returnsInHanded_of_cond (C := Tryz.checked) (s := Rows.OpenSpec.upto Rows.fnMakeOffsetFetchRequestSpec) (k := Rows.uptoSmall) rfl ownKnob_ started (by kernel_rfl) Tryz.func5
    (OpenSpec.witness (enc := enc) (C := Tryz.checked) (s := Rows.OpenSpec.upto Rows.fnMakeOffsetFetchRequestSpec) (k := Rows.uptoSmall) rfl false ⟨#[], #[.int .u8 0, .agg #[.int .i64 0, .slice none 0 0, .bool false, .slice none 0 0, .slice none 0 0]], []⟩ 8 (by kernel_rfl) (by kernel_rfl) (by kernel_rfl)
      (x := ([.lit (.int .u8 0), .agg [.lit (.int .i64 0), .nil, .lit (.bool false), .nil, .nil]], [], [])) (by kernel_rfl) rfl (by kernel_rfl)) ?_
  intro W base args ds gs before hval hW _ hk _
  exact contract_ H enc W base args ds gs before @hval hW hk

theorem holds_ : Rows.FnMakeOffsetFetchRequestUptoSaid :=
  OpenClaim.holds_of_cond 5 Tryz.f5 rfl rfl rfl rfl rfl rfl rfl ⟨rfl, rfl, rfl, rfl, rfl⟩ rfl rfl rfl rfl rfl (by kernel_rfl) Tryz.func5 (by kernel_rfl)
    (of_decide_eq_true (by kernel_rfl)) (by unfold Func.isWrapper; first | (rw [if_pos (by decide +kernel)]; kernel_rfl) | (rw [if_neg (by decide +kernel)]; exact ⟨rfl, rfl⟩))
    (fun os started H enc _ F => lifted_ os started H enc F)
end Go.Proofs.YtbjopfcbpobnpaaGreat.ME
namespace Go.Proofs.YtbjopfcbpobnpaaGreat
/-- the statement -/
theorem fnMakeOffsetFetchRequest_holds : Rows.FnMakeOffsetFetchRequestUptoSaid := ME.holds_
end Go.Proofs.YtbjopfcbpobnpaaGreat
