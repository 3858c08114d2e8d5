/- The texts of a claim, put together: the engine, the contracts, the law. Own work. -/
import Derived.Test.YtnhgfbgdoelfoaaGreatDoorWbP3
import Derived.Test.YtnhgfbgdoelfoaaGreatDoorProg
import Derived.Deep.LoopGhost
/- Printed by tools/rd.py. Own work. -/
namespace Go.Proofs.YtnhgfbgdoelfoaaGreatDoor.ME
open Go
open Go.RowKit
set_option linter.unusedVariables false
set_option linter.unusedSimpArgs false
set_option maxRecDepth 20000

theorem rBE16 {A : Option Addr} {c : Nat} (s : Bs) {w : World} {F : Nat → Nat → Prop} (ho : Octs w F A c s) (hl : 2 ≤ s.length) :
    Calls Tryz.prog 193 #[.agg #[], .slice A s.length c] w (Gives w (.int .u16 (be16 s))) := by
  refine enter (n := 18) Tryz.func193 rfl Tryz.ntmps193 (by kernel_rfl) fun a hE => ?_
  have hW := WOk.start w Nil
  have ob0 := oc_lt s 0
  have ob1 := oc_lt s 1
  refine go_seq_region [0, 1] (by kernel_rfl) ?_
  refine of_op (wpOp_box hW hE (d := 2) (cs := []) (by kernel_rfl) fun b1 a2 w3 hb4 hz5 hF6 hW7 hE8 => ?_)
  clear hE hW
  refine go_rn [1] [] [(1, .v (.slice A s.length c))] hW7 hE8 fun a9 hE10 => ?_
  clear hE8
  refine wpOps_nil ?_
  refine then_normal ?_
  refine go_seq_region [0, 1, 2] (by kernel_rfl) ?_
  refine go_rn [0] [1, 2] [(1, .v (.slice A s.length c)), (5, .v (.slice A s.length c))] hW7 hE10 fun a11 hE12 => ?_
  clear hE10
  obtain ⟨b13, o14, hA15, hl16, hat17⟩ := Slots.get ho (i := 1) (by omega)
  refine of_op (wpOp_index hE12 (t := 22) (A := A) (m := s.length) (q := 1) (d := 6) (by kernel_rfl) (e := 5) (size := 1) (bytes := 1) (j := 1) (by kernel_rfl) hA15 rfl (by omega) fun a18 hE19 => ?_)
  clear hE12
  refine of_op (wpOp_load hE19 (t := 5) (b := b13) (o := o14 + 1 * 1) (d := 7) (by kernel_rfl) (cs := [.int .u8 ((s.getD 1 0).toNat : Int)]) (v := .int .u8 ((s.getD 1 0).toNat : Int)) (by kernel_rfl) (AtF.move hat17 hW7.step nilM keepF).at_ fun a20 hE21 => ?_)
  clear hE19
  refine wpOps_nil ?_
  refine then_normal ?_
  refine go_seq_drawQ (by kernel_rfl) hW7 fun w22 hF23 hW24 => ?_
  clear hW7
  refine go_rnD [0, 4] [(8, .v (.slice A s.length c)), (12, .v (.slice A s.length c))] 9 (panicFree_then panicFree_body) (fun _ h => h ▸ hW24.cells) rfl hE21 fun a25 hE26 => ?_
  clear hE21
  refine takeC_index hE26 (i := 1) (t := 22) (A := A) (m := s.length) (q := 1) (d := 9) (by kernel_rfl) (e := 5) (size := 1) (bytes := 1) (j := 1) (by kernel_rfl) hA15 rfl (by omega) (by kernel_rfl) (by kernel_rfl) (panicFree_then panicFree_body) rfl fun a27 hE28 => ?_
  clear hE26
  refine takeC_load hE28 (i := 2) (t := 5) (b := b13) (o := o14 + 1 * 1) (d := 10) (by kernel_rfl) (cs := [.int .u8 ((s.getD 1 0).toNat : Int)]) (v := .int .u8 ((s.getD 1 0).toNat : Int)) (by kernel_rfl) (fun w' h' => h' ▸ (AtF.move hat17 hW24.step nilM keepF).at_) (by kernel_rfl) (by kernel_rfl) (panicFree_then panicFree_body) rfl fun a29 hE30 => ?_
  clear hE28
  refine go_rnD [3] [(11, .v (.int .u16 (IntKind.u16.wrap ((s.getD 1 0).toNat : Int)))), (12, .v (.slice A s.length c))] 6 (panicFree_then panicFree_body) (fun _ h => h ▸ hW24.cells) rfl hE30 fun a31 hE32 => ?_
  clear hE30
  obtain ⟨b33, o34, hA35, hl36, hat37⟩ := Slots.get ho (i := 0) (by omega)
  refine takeC_index hE32 (i := 5) (t := 22) (A := A) (m := s.length) (q := 0) (d := 13) (by kernel_rfl) (e := 5) (size := 1) (bytes := 1) (j := 0) (by kernel_rfl) hA35 rfl (by omega) (by kernel_rfl) (by kernel_rfl) (panicFree_then panicFree_body) rfl fun a38 hE39 => ?_
  clear hE32
  refine takeC_load hE39 (i := 6) (t := 5) (b := b33) (o := o34 + 0 * 1) (d := 14) (by kernel_rfl) (cs := [.int .u8 ((s.getD 0 0).toNat : Int)]) (v := .int .u8 ((s.getD 0 0).toNat : Int)) (by kernel_rfl) (fun w' h' => h' ▸ (AtF.move hat37 hW24.step nilM keepF).at_) (by kernel_rfl) (by kernel_rfl) (panicFree_then panicFree_body) rfl fun a40 hE41 => ?_
  clear hE39
  refine go_rnD [7, 8, 9, 10] [(4, .v (.int .u16 (IntKind.u16.wrap (BitVec.ofInt 16 (IntKind.u16.wrap ((s.getD 1 0).toNat : Int)) ||| BitVec.ofInt 16 (IntKind.u16.wrap ((IntKind.u16.wrap ((s.getD 0 0).toNat : Int)) * 256))).toNat)))] 0 (panicFree_then panicFree_body) (fun _ h => h ▸ hW24.cells) rfl hE41 fun a42 hE43 => ?_
  clear hE41
  refine anyC_done (by kernel_rfl) ?_ _
  refine then_normal ?_
  refine wp_ret ?_
  refine leave hE43 hW24.cells (v := .int .u16 (IntKind.u16.wrap (BitVec.ofInt 16 (IntKind.u16.wrap ((s.getD 1 0).toNat : Int)) ||| BitVec.ofInt 16 (IntKind.u16.wrap ((IntKind.u16.wrap ((s.getD 0 0).toNat : Int)) * 256))).toNat)) (by kernel_rfl) ?_
  exact ⟨congrArg Ending.returned (congrArg (Value.int IntKind.u16) (u16_le (oc s 0) (oc s 1) ob0 ob1)), hW24.step⟩

theorem rBE32 {A : Option Addr} {c : Nat} (s : Bs) {w : World} {F : Nat → Nat → Prop} (ho : Octs w F A c s) (hl : 4 ≤ s.length) :
    Calls Tryz.prog 191 #[.agg #[], .slice A s.length c] w (Gives w (.int .u32 (be32 s))) := by
  refine enter (n := 30) Tryz.func191 rfl Tryz.ntmps191 (by kernel_rfl) fun a hE => ?_
  have hW := WOk.start w Nil
  have ob0 := oc_lt s 0
  have ob1 := oc_lt s 1
  have ob2 := oc_lt s 2
  have ob3 := oc_lt s 3
  refine go_seq_region [0, 1] (by kernel_rfl) ?_
  refine of_op (wpOp_box hW hE (d := 2) (cs := []) (by kernel_rfl) fun b1 a2 w3 hb4 hz5 hF6 hW7 hE8 => ?_)
  clear hE hW
  refine go_rn [1] [] [(1, .v (.slice A s.length c))] hW7 hE8 fun a9 hE10 => ?_
  clear hE8
  refine wpOps_nil ?_
  refine then_normal ?_
  refine go_seq_region [0, 1, 2] (by kernel_rfl) ?_
  refine go_rn [0] [1, 2] [(1, .v (.slice A s.length c)), (5, .v (.slice A s.length c))] hW7 hE10 fun a11 hE12 => ?_
  clear hE10
  obtain ⟨b13, o14, hA15, hl16, hat17⟩ := Slots.get ho (i := 3) (by omega)
  refine of_op (wpOp_index hE12 (t := 22) (A := A) (m := s.length) (q := 3) (d := 6) (by kernel_rfl) (e := 5) (size := 1) (bytes := 1) (j := 3) (by kernel_rfl) hA15 rfl (by omega) fun a18 hE19 => ?_)
  clear hE12
  refine of_op (wpOp_load hE19 (t := 5) (b := b13) (o := o14 + 3 * 1) (d := 7) (by kernel_rfl) (cs := [.int .u8 ((s.getD 3 0).toNat : Int)]) (v := .int .u8 ((s.getD 3 0).toNat : Int)) (by kernel_rfl) (AtF.move hat17 hW7.step nilM keepF).at_ fun a20 hE21 => ?_)
  clear hE19
  refine wpOps_nil ?_
  refine then_normal ?_
  refine go_seq_drawQ (by kernel_rfl) hW7 fun w22 hF23 hW24 => ?_
  clear hW7
  refine go_rnD [0, 4, 10, 16] [(8, .v (.slice A s.length c)), (12, .v (.slice A s.length c)), (18, .v (.slice A s.length c)), (24, .v (.slice A s.length c))] 19 (panicFree_then panicFree_body) (fun _ h => h ▸ hW24.cells) rfl hE21 fun a25 hE26 => ?_
  clear hE21
  refine takeC_index hE26 (i := 1) (t := 22) (A := A) (m := s.length) (q := 3) (d := 9) (by kernel_rfl) (e := 5) (size := 1) (bytes := 1) (j := 3) (by kernel_rfl) hA15 rfl (by omega) (by kernel_rfl) (by kernel_rfl) (panicFree_then panicFree_body) rfl fun a27 hE28 => ?_
  clear hE26
  refine takeC_load hE28 (i := 2) (t := 5) (b := b13) (o := o14 + 3 * 1) (d := 10) (by kernel_rfl) (cs := [.int .u8 ((s.getD 3 0).toNat : Int)]) (v := .int .u8 ((s.getD 3 0).toNat : Int)) (by kernel_rfl) (fun w' h' => h' ▸ (AtF.move hat17 hW24.step nilM keepF).at_) (by kernel_rfl) (by kernel_rfl) (panicFree_then panicFree_body) rfl fun a29 hE30 => ?_
  clear hE28
  refine go_rnD [3] [(11, .v (.int .u32 (IntKind.u32.wrap ((s.getD 3 0).toNat : Int)))), (12, .v (.slice A s.length c)), (18, .v (.slice A s.length c)), (24, .v (.slice A s.length c))] 16 (panicFree_then panicFree_body) (fun _ h => h ▸ hW24.cells) rfl hE30 fun a31 hE32 => ?_
  clear hE30
  obtain ⟨b33, o34, hA35, hl36, hat37⟩ := Slots.get ho (i := 2) (by omega)
  refine takeC_index hE32 (i := 5) (t := 22) (A := A) (m := s.length) (q := 2) (d := 13) (by kernel_rfl) (e := 5) (size := 1) (bytes := 1) (j := 2) (by kernel_rfl) hA35 rfl (by omega) (by kernel_rfl) (by kernel_rfl) (panicFree_then panicFree_body) rfl fun a38 hE39 => ?_
  clear hE32
  refine takeC_load hE39 (i := 6) (t := 5) (b := b33) (o := o34 + 2 * 1) (d := 14) (by kernel_rfl) (cs := [.int .u8 ((s.getD 2 0).toNat : Int)]) (v := .int .u8 ((s.getD 2 0).toNat : Int)) (by kernel_rfl) (fun w' h' => h' ▸ (AtF.move hat37 hW24.step nilM keepF).at_) (by kernel_rfl) (by kernel_rfl) (panicFree_then panicFree_body) rfl fun a40 hE41 => ?_
  clear hE39
  refine go_rnD [7, 8, 9] [(17, .v (.int .u32 (IntKind.u32.wrap (BitVec.ofInt 32 (IntKind.u32.wrap ((s.getD 3 0).toNat : Int)) ||| BitVec.ofInt 32 (IntKind.u32.wrap ((IntKind.u32.wrap ((s.getD 2 0).toNat : Int)) * 256))).toNat))), (18, .v (.slice A s.length c)), (24, .v (.slice A s.length c))] 11 (panicFree_then panicFree_body) (fun _ h => h ▸ hW24.cells) rfl hE41 fun a42 hE43 => ?_
  clear hE41
  obtain ⟨b44, o45, hA46, hl47, hat48⟩ := Slots.get ho (i := 1) (by omega)
  refine takeC_index hE43 (i := 11) (t := 22) (A := A) (m := s.length) (q := 1) (d := 19) (by kernel_rfl) (e := 5) (size := 1) (bytes := 1) (j := 1) (by kernel_rfl) hA46 rfl (by omega) (by kernel_rfl) (by kernel_rfl) (panicFree_then panicFree_body) rfl fun a49 hE50 => ?_
  clear hE43
  refine takeC_load hE50 (i := 12) (t := 5) (b := b44) (o := o45 + 1 * 1) (d := 20) (by kernel_rfl) (cs := [.int .u8 ((s.getD 1 0).toNat : Int)]) (v := .int .u8 ((s.getD 1 0).toNat : Int)) (by kernel_rfl) (fun w' h' => h' ▸ (AtF.move hat48 hW24.step nilM keepF).at_) (by kernel_rfl) (by kernel_rfl) (panicFree_then panicFree_body) rfl fun a51 hE52 => ?_
  clear hE50
  refine go_rnD [13, 14, 15] [(23, .v (.int .u32 (IntKind.u32.wrap (BitVec.ofInt 32 (IntKind.u32.wrap (BitVec.ofInt 32 (IntKind.u32.wrap ((s.getD 3 0).toNat : Int)) ||| BitVec.ofInt 32 (IntKind.u32.wrap ((IntKind.u32.wrap ((s.getD 2 0).toNat : Int)) * 256))).toNat) ||| BitVec.ofInt 32 (IntKind.u32.wrap ((IntKind.u32.wrap ((s.getD 1 0).toNat : Int)) * 65536))).toNat))), (24, .v (.slice A s.length c))] 6 (panicFree_then panicFree_body) (fun _ h => h ▸ hW24.cells) rfl hE52 fun a53 hE54 => ?_
  clear hE52
  obtain ⟨b55, o56, hA57, hl58, hat59⟩ := Slots.get ho (i := 0) (by omega)
  refine takeC_index hE54 (i := 17) (t := 22) (A := A) (m := s.length) (q := 0) (d := 25) (by kernel_rfl) (e := 5) (size := 1) (bytes := 1) (j := 0) (by kernel_rfl) hA57 rfl (by omega) (by kernel_rfl) (by kernel_rfl) (panicFree_then panicFree_body) rfl fun a60 hE61 => ?_
  clear hE54
  refine takeC_load hE61 (i := 18) (t := 5) (b := b55) (o := o56 + 0 * 1) (d := 26) (by kernel_rfl) (cs := [.int .u8 ((s.getD 0 0).toNat : Int)]) (v := .int .u8 ((s.getD 0 0).toNat : Int)) (by kernel_rfl) (fun w' h' => h' ▸ (AtF.move hat59 hW24.step nilM keepF).at_) (by kernel_rfl) (by kernel_rfl) (panicFree_then panicFree_body) rfl fun a62 hE63 => ?_
  clear hE61
  refine go_rnD [19, 20, 21, 22] [(4, .v (.int .u32 (IntKind.u32.wrap (BitVec.ofInt 32 (IntKind.u32.wrap (BitVec.ofInt 32 (IntKind.u32.wrap (BitVec.ofInt 32 (IntKind.u32.wrap ((s.getD 3 0).toNat : Int)) ||| BitVec.ofInt 32 (IntKind.u32.wrap ((IntKind.u32.wrap ((s.getD 2 0).toNat : Int)) * 256))).toNat) ||| BitVec.ofInt 32 (IntKind.u32.wrap ((IntKind.u32.wrap ((s.getD 1 0).toNat : Int)) * 65536))).toNat) ||| BitVec.ofInt 32 (IntKind.u32.wrap ((IntKind.u32.wrap ((s.getD 0 0).toNat : Int)) * 16777216))).toNat)))] 0 (panicFree_then panicFree_body) (fun _ h => h ▸ hW24.cells) rfl hE63 fun a64 hE65 => ?_
  clear hE63
  refine anyC_done (by kernel_rfl) ?_ _
  refine then_normal ?_
  refine wp_ret ?_
  refine leave hE65 hW24.cells (v := .int .u32 (IntKind.u32.wrap (BitVec.ofInt 32 (IntKind.u32.wrap (BitVec.ofInt 32 (IntKind.u32.wrap (BitVec.ofInt 32 (IntKind.u32.wrap ((s.getD 3 0).toNat : Int)) ||| BitVec.ofInt 32 (IntKind.u32.wrap ((IntKind.u32.wrap ((s.getD 2 0).toNat : Int)) * 256))).toNat) ||| BitVec.ofInt 32 (IntKind.u32.wrap ((IntKind.u32.wrap ((s.getD 1 0).toNat : Int)) * 65536))).toNat) ||| BitVec.ofInt 32 (IntKind.u32.wrap ((IntKind.u32.wrap ((s.getD 0 0).toNat : Int)) * 16777216))).toNat)) (by kernel_rfl) ?_
  exact ⟨congrArg Ending.returned (congrArg (Value.int IntKind.u32) (u32_le (oc s 0) (oc s 1) (oc s 2) (oc s 3) ob0 ob1 ob2 ob3)), hW24.step⟩

theorem rInt16 (x : Int) (rest : Bs)  {br : Nat} {A : Option Addr} {m c : Nat} {w : World} {F : Nat → Nat → Prop} (hst : Str w br [.slice A m c, .bool false]) (hr : RdS w F A m c (be 2 x ++ rest)) (hFd : ∀ b o, F b o → ¬ RdM br b o) :
    Calls Tryz.prog 161 #[.pointer (some ⟨br, 0, none⟩)] w (RdPost w br F rest fun v w' => v = .int .i16 (IntKind.i16.wrap x)) := by
  obtain ⟨hm, ho⟩ := hr
  subst hm
  have hle := ho.le
  refine enter (n := 32) Tryz.func161 rfl Tryz.ntmps161 (by kernel_rfl) fun a hE => ?_
  have hW : WOk w (RdM br) w [⟨br, 0, [.slice A ((be 2 x ++ rest).length) c, .bool false], true⟩] [] := WOk.startStr hst
  have hE1 := (hE.grow ⟨br, 0, [.slice A ((be 2 x ++ rest).length) c, .bool false], true⟩).recast 0 (.v (.pointer (some ⟨br, 0, none⟩))) (.p 0 0) rfl rfl (Nat.le_of_ble_eq_true (n := 1) rfl)
  refine go_sp [(0, .p 0 0)] hW hE1 fun a1 hE2 => ?_
  clear hE1
  refine wp_seq ?_
  refine go_sp [(0, .p 0 0), (9, .v (.bool (decide ((((be 2 x ++ rest).length : Nat) : Int) < 2))))] hW hE2 fun a3 hE4 => ?_
  clear hE2
  refine cond_false hE4 (b := decide ((((be 2 x ++ rest).length : Nat) : Int) < 2)) (by kernel_rfl) (decide_eq_false (by first | omega | (simp only [List.length_append, be_length, List.length_cons, List.length_nil] at *; omega))) ?_
  refine wp_skip ?_
  refine then_normal ?_
  refine go_seq_drawK 7 (by kernel_rfl) hW fun w5 hF6 hW7 hT8 => ?_
  clear hW
  refine go_rnD [1, 2, 3, 4] [(0, .p 0 0), (20, .v (.slice A ((be 2 x ++ rest).length) c))] 4 (panicFree_then panicFree_body) (fun _ h => h.cells) hT8 hE4 fun a9 hE10 => ?_
  clear hE4
  refine takeC_load hE10 (i := 0) (t := 217) (b := 1) (o := 0) (d := 16) (by kernel_rfl) (cs := []) (v := .agg #[]) (by kernel_rfl) (fun w' h' => (fun j_ v_ h_ => by simp at h_)) (by kernel_rfl) (by kernel_rfl) (panicFree_then panicFree_body) hT8 fun a11 hE12 => ?_
  clear hE10
  refine anyC_op (i := 5) (by kernel_rfl) (wpOp_call hE12 (f := 193) (vs := [.agg #[], .slice A ((be 2 x ++ rest).length) c]) (d := 21) (by kernel_rfl) Tryz.call193 (rBE16 _ (ho.move hW7.step (fun b_ o_ h_ _ => hFd b_ o_ h_) (hW7.immM hFd)) (by first | omega | (simp only [List.length_append, be_length, List.length_cons, List.length_nil] at *; omega))) ?_)
  rintro e_ w14 ⟨rfl, hs13⟩
  refine ⟨_, rfl, fun a15 hE16 => ?_⟩
  have hW17 := hW7.next_nil hs13
  have hF18 := hW7.frN hs13
  clear hE12
  have hT19 := TT.ofW hF18 hW17
  refine ⟨fun _ => hT19, ?_⟩
  refine go_rnD [6] [(0, .p 0 0), (22, .v (.int .i16 (IntKind.i16.wrap (be16 (be 2 x ++ rest)))))] 1 (panicFree_then panicFree_body) (fun _ h => h.cells) hT19 hE16 fun a20 hE21 => ?_
  clear hE16
  refine anyC_op (i := 7) (by kernel_rfl) (wpOp_pure [0, 3] hW17.cells hE21 (env' := [(0, .p 0 0), (3, .v (.int .i16 (IntKind.i16.wrap (be16 (be 2 x ++ rest)))))]) (by kernel_rfl) fun a22 hE23 => ?_)
  clear hE21
  refine ⟨fun h => absurd rfl h, ?_⟩
  refine anyC_done (by kernel_rfl) ?_ _
  refine then_normal ?_
  refine go_seq_region [0, 1, 2, 3, 4, 5, 6, 7, 8] (by kernel_rfl) ?_
  refine go_rn [0, 1, 2, 3, 4] [5, 6, 7, 8] [(3, .v (.int .i16 (IntKind.i16.wrap (be16 (be 2 x ++ rest))))), (23, .p 0 0), (27, .v (.slice A ((be 2 x ++ rest).length) c))] hW17 hE23 fun a24 hE25 => ?_
  clear hE23
  refine of_op (wpOp_cut_lo hE25 (t := 22) (A := A) (m := ((be 2 x ++ rest).length)) (cp := c) (q := 2) (d := 28) (j := 2) (by kernel_rfl) (e := 5) (bytes := 1) (by kernel_rfl) (rfl) (by first | omega | (simp only [List.length_append, be_length, List.length_cons, List.length_nil] at *; omega)) fun a26 hE27 => ?_)
  clear hE25
  refine go_rn [6, 7] [8] [(3, .v (.int .i16 (IntKind.i16.wrap (be16 (be 2 x ++ rest))))), (28, .v (.slice (cutA A c 2) (((be 2 x ++ rest).length) - 2) (c - 2))), (30, .p 0 0)] hW17 hE27 fun a28 hE29 => ?_
  clear hE27
  refine of_op (wpOp_store hW17 hE29 (oi := 0) (cs := [.slice (cutA A c 2) (((be 2 x ++ rest).length) - 2) (c - 2), .bool false]) (by kernel_rfl) fun w30 hF31 hW32 hE33 => ?_)
  clear hE29 hW17
  refine wpOps_nil ?_
  refine then_normal ?_
  refine go_sp [(2, .v (.int .i16 (IntKind.i16.wrap (be16 (be 2 x ++ rest)))))] hW32 hE33 fun a34 hE35 => ?_
  clear hE33
  refine wp_ret ?_
  refine leave hE35 hW32.cells (v := .int .i16 (IntKind.i16.wrap (be16 (be 2 x ++ rest)))) (by kernel_rfl) ?_
  exact ⟨_, _, _, _, rfl, Str.of hW32 0 rfl, RdS.drop (s := be 2 x) ⟨rfl, ho.move hW32.step (fun b_ o_ h_ _ => hFd b_ o_ h_) keepF⟩ (by simp only [be_length, List.length_cons, List.length_nil]), hW32.step, by rw [be16_be, i16_u16]⟩

theorem rInt32 (x : Int) (rest : Bs)  {br : Nat} {A : Option Addr} {m c : Nat} {w : World} {F : Nat → Nat → Prop} (hst : Str w br [.slice A m c, .bool false]) (hr : RdS w F A m c (be 4 x ++ rest)) (hFd : ∀ b o, F b o → ¬ RdM br b o) :
    Calls Tryz.prog 153 #[.pointer (some ⟨br, 0, none⟩)] w (RdPost w br F rest fun v w' => v = .int .i32 (IntKind.i32.wrap x)) := by
  obtain ⟨hm, ho⟩ := hr
  subst hm
  have hle := ho.le
  refine enter (n := 32) Tryz.func153 rfl Tryz.ntmps153 (by kernel_rfl) fun a hE => ?_
  have hW : WOk w (RdM br) w [⟨br, 0, [.slice A ((be 4 x ++ rest).length) c, .bool false], true⟩] [] := WOk.startStr hst
  have hE1 := (hE.grow ⟨br, 0, [.slice A ((be 4 x ++ rest).length) c, .bool false], true⟩).recast 0 (.v (.pointer (some ⟨br, 0, none⟩))) (.p 0 0) rfl rfl (Nat.le_of_ble_eq_true (n := 1) rfl)
  refine go_sp [(0, .p 0 0)] hW hE1 fun a1 hE2 => ?_
  clear hE1
  refine wp_seq ?_
  refine go_sp [(0, .p 0 0), (9, .v (.bool (decide ((((be 4 x ++ rest).length : Nat) : Int) < 4))))] hW hE2 fun a3 hE4 => ?_
  clear hE2
  refine cond_false hE4 (b := decide ((((be 4 x ++ rest).length : Nat) : Int) < 4)) (by kernel_rfl) (decide_eq_false (by first | omega | (simp only [List.length_append, be_length, List.length_cons, List.length_nil] at *; omega))) ?_
  refine wp_skip ?_
  refine then_normal ?_
  refine go_seq_drawK 7 (by kernel_rfl) hW fun w5 hF6 hW7 hT8 => ?_
  clear hW
  refine go_rnD [1, 2, 3, 4] [(0, .p 0 0), (20, .v (.slice A ((be 4 x ++ rest).length) c))] 4 (panicFree_then panicFree_body) (fun _ h => h.cells) hT8 hE4 fun a9 hE10 => ?_
  clear hE4
  refine takeC_load hE10 (i := 0) (t := 217) (b := 1) (o := 0) (d := 16) (by kernel_rfl) (cs := []) (v := .agg #[]) (by kernel_rfl) (fun w' h' => (fun j_ v_ h_ => by simp at h_)) (by kernel_rfl) (by kernel_rfl) (panicFree_then panicFree_body) hT8 fun a11 hE12 => ?_
  clear hE10
  refine anyC_op (i := 5) (by kernel_rfl) (wpOp_call hE12 (f := 191) (vs := [.agg #[], .slice A ((be 4 x ++ rest).length) c]) (d := 21) (by kernel_rfl) Tryz.call191 (rBE32 _ (ho.move hW7.step (fun b_ o_ h_ _ => hFd b_ o_ h_) (hW7.immM hFd)) (by first | omega | (simp only [List.length_append, be_length, List.length_cons, List.length_nil] at *; omega))) ?_)
  rintro e_ w14 ⟨rfl, hs13⟩
  refine ⟨_, rfl, fun a15 hE16 => ?_⟩
  have hW17 := hW7.next_nil hs13
  have hF18 := hW7.frN hs13
  clear hE12
  have hT19 := TT.ofW hF18 hW17
  refine ⟨fun _ => hT19, ?_⟩
  refine go_rnD [6] [(0, .p 0 0), (22, .v (.int .i32 (IntKind.i32.wrap (be32 (be 4 x ++ rest)))))] 1 (panicFree_then panicFree_body) (fun _ h => h.cells) hT19 hE16 fun a20 hE21 => ?_
  clear hE16
  refine anyC_op (i := 7) (by kernel_rfl) (wpOp_pure [0, 3] hW17.cells hE21 (env' := [(0, .p 0 0), (3, .v (.int .i32 (IntKind.i32.wrap (be32 (be 4 x ++ rest)))))]) (by kernel_rfl) fun a22 hE23 => ?_)
  clear hE21
  refine ⟨fun h => absurd rfl h, ?_⟩
  refine anyC_done (by kernel_rfl) ?_ _
  refine then_normal ?_
  refine go_seq_region [0, 1, 2, 3, 4, 5, 6, 7, 8] (by kernel_rfl) ?_
  refine go_rn [0, 1, 2, 3, 4] [5, 6, 7, 8] [(3, .v (.int .i32 (IntKind.i32.wrap (be32 (be 4 x ++ rest))))), (23, .p 0 0), (27, .v (.slice A ((be 4 x ++ rest).length) c))] hW17 hE23 fun a24 hE25 => ?_
  clear hE23
  refine of_op (wpOp_cut_lo hE25 (t := 22) (A := A) (m := ((be 4 x ++ rest).length)) (cp := c) (q := 4) (d := 28) (j := 4) (by kernel_rfl) (e := 5) (bytes := 1) (by kernel_rfl) (rfl) (by first | omega | (simp only [List.length_append, be_length, List.length_cons, List.length_nil] at *; omega)) fun a26 hE27 => ?_)
  clear hE25
  refine go_rn [6, 7] [8] [(3, .v (.int .i32 (IntKind.i32.wrap (be32 (be 4 x ++ rest))))), (28, .v (.slice (cutA A c 4) (((be 4 x ++ rest).length) - 4) (c - 4))), (30, .p 0 0)] hW17 hE27 fun a28 hE29 => ?_
  clear hE27
  refine of_op (wpOp_store hW17 hE29 (oi := 0) (cs := [.slice (cutA A c 4) (((be 4 x ++ rest).length) - 4) (c - 4), .bool false]) (by kernel_rfl) fun w30 hF31 hW32 hE33 => ?_)
  clear hE29 hW17
  refine wpOps_nil ?_
  refine then_normal ?_
  refine go_sp [(2, .v (.int .i32 (IntKind.i32.wrap (be32 (be 4 x ++ rest)))))] hW32 hE33 fun a34 hE35 => ?_
  clear hE33
  refine wp_ret ?_
  refine leave hE35 hW32.cells (v := .int .i32 (IntKind.i32.wrap (be32 (be 4 x ++ rest)))) (by kernel_rfl) ?_
  exact ⟨_, _, _, _, rfl, Str.of hW32 0 rfl, RdS.drop (s := be 4 x) ⟨rfl, ho.move hW32.step (fun b_ o_ h_ _ => hFd b_ o_ h_) keepF⟩ (by simp only [be_length, List.length_cons, List.length_nil]), hW32.step, by rw [be32_be, i32_u32]⟩

theorem rUv1 {A : Option Addr} {c : Nat} (s : Bs) {w : World} {F : Nat → Nat → Prop} (ho : Octs w F A c s) (hl : 1 ≤ s.length) (d0 : Nat) (h0 : oc s 0 = d0) (g0 : d0 < 128) :
    Calls Tryz.prog 195 #[.slice A s.length c] w (Gives w (.tuple #[.int .u32 ((d0 : Nat) : Int), .int .i64 1])) := by
  refine enter (n := 87) Tryz.func195 rfl Tryz.ntmps195 (by kernel_rfl) fun a hE => ?_
  have hW := WOk.start w Nil
  refine go_sp [(0, .v (.slice A s.length c))] hW hE fun a1 hE2 => ?_
  clear hE
  refine wp_scope_straight ?_
  refine go_sp [(0, .v (.slice A s.length c))] hW hE2 fun a3 hE4 => ?_
  clear hE2
  refine go_sp [(0, .v (.slice A s.length c))] hW hE4 fun a5 hE6 => ?_
  clear hE4
  refine wp_seq ?_
  refine go_sp [(0, .v (.slice A s.length c)), (8, .v (.bool (decide (((s.length : Nat) : Int) < 1))))] hW hE6 fun a7 hE8 => ?_
  clear hE6
  refine cond_false hE8 (b := decide (((s.length : Nat) : Int) < 1)) (by kernel_rfl) (decide_eq_false (by omega)) ?_
  refine wp_skip ?_
  refine then_normal ?_
  refine go_seq_region [0, 1, 2, 3, 4, 5] (by kernel_rfl) ?_
  refine go_rn [0] [1, 2, 3, 4, 5] [(0, .v (.slice A s.length c)), (9, .v (.slice A s.length c))] hW hE8 fun a9 hE10 => ?_
  clear hE8
  obtain ⟨b11, o12, hA13, hl14, hat15⟩ := Slots.get ho (i := 0) (by first | omega | (simp only [List.length_append, be_length, List.length_cons, List.length_nil] at *; omega))
  refine of_op (wpOp_index hE10 (t := 22) (A := A) (m := s.length) (q := 0) (d := 10) (by kernel_rfl) (e := 5) (size := 1) (bytes := 1) (j := 0) (by kernel_rfl) hA13 rfl (by first | omega | (simp only [List.length_append, be_length, List.length_cons, List.length_nil] at *; omega)) fun a16 hE17 => ?_)
  clear hE10
  refine of_op (wpOp_load hE17 (t := 5) (b := b11) (o := o12 + 0 * 1) (d := 11) (by kernel_rfl) (cs := [.int .u8 ((s.getD 0 0).toNat : Int)]) (v := .int .u8 ((s.getD 0 0).toNat : Int)) (by kernel_rfl) (AtF.move hat15 hW.step nilM keepF).at_ fun a18 hE19 => ?_)
  clear hE17
  refine go_rn [3, 4, 5] [] [(0, .v (.slice A s.length c)), (4, .v (.int .u32 (IntKind.u32.wrap (IntKind.u8.wrap (BitVec.ofInt 8 ((s.getD 0 0).toNat : Int) &&& BitVec.ofInt 8 127).toNat))))] hW hE19 fun a20 hE21 => ?_
  clear hE19
  refine wpOps_nil ?_
  refine then_normal ?_
  refine wp_seq ?_
  refine go_seq_region [0, 1, 2, 3, 4] (by kernel_rfl) ?_
  refine go_rn [0] [1, 2, 3, 4] [(0, .v (.slice A s.length c)), (4, .v (.int .u32 (IntKind.u32.wrap (IntKind.u8.wrap (BitVec.ofInt 8 ((s.getD 0 0).toNat : Int) &&& BitVec.ofInt 8 127).toNat)))), (14, .v (.slice A s.length c))] hW hE21 fun a22 hE23 => ?_
  clear hE21
  refine of_op (wpOp_index hE23 (t := 22) (A := A) (m := s.length) (q := 0) (d := 15) (by kernel_rfl) (e := 5) (size := 1) (bytes := 1) (j := 0) (by kernel_rfl) hA13 rfl (by first | omega | (simp only [List.length_append, be_length, List.length_cons, List.length_nil] at *; omega)) fun a24 hE25 => ?_)
  clear hE23
  refine of_op (wpOp_load hE25 (t := 5) (b := b11) (o := o12 + 0 * 1) (d := 16) (by kernel_rfl) (cs := [.int .u8 ((s.getD 0 0).toNat : Int)]) (v := .int .u8 ((s.getD 0 0).toNat : Int)) (by kernel_rfl) (AtF.move hat15 hW.step nilM keepF).at_ fun a26 hE27 => ?_)
  clear hE25
  refine go_rn [3, 4] [] [(0, .v (.slice A s.length c)), (4, .v (.int .u32 (IntKind.u32.wrap (IntKind.u8.wrap (BitVec.ofInt 8 ((s.getD 0 0).toNat : Int) &&& BitVec.ofInt 8 127).toNat)))), (18, .v (.bool ((IntKind.u8.wrap (BitVec.ofInt 8 ((s.getD 0 0).toNat : Int) &&& BitVec.ofInt 8 128).toNat) == 0)))] hW hE27 fun a28 hE29 => ?_
  clear hE27
  refine wpOps_nil ?_
  refine then_normal ?_
  refine cond_true hE29 (b := (IntKind.u8.wrap (BitVec.ofInt 8 ((s.getD 0 0).toNat : Int) &&& BitVec.ofInt 8 128).toNat) == 0) (by kernel_rfl) ((and128 _ (oc_lt s 0)).trans (decide_eq_true (by have := h0; unfold oc at this; omega))) ?_
  refine go_sp [(2, .v (.int .u32 (IntKind.u32.wrap (IntKind.u8.wrap (BitVec.ofInt 8 ((s.getD 0 0).toNat : Int) &&& BitVec.ofInt 8 127).toNat)))), (3, .v (.int .i64 1))] hW hE29 fun a30 hE31 => ?_
  clear hE29
  refine wp_ret ?_
  refine then_ret ?_
  refine scope_ret ?_
  refine leave hE31 hW.cells (v := .tuple #[.int .u32 (IntKind.u32.wrap (IntKind.u8.wrap (BitVec.ofInt 8 ((s.getD 0 0).toNat : Int) &&& BitVec.ofInt 8 127).toNat)), .int .i64 1]) (by kernel_rfl) ?_
  have e_ := uv_1 (oc s 0) (oc_lt s 0)
  refine ⟨congrArg (fun z_ : Int => Ending.returned (.tuple #[.int .u32 z_, .int .i64 1])) (Eq.trans e_ ?_), hW.step⟩
  omega

theorem rUv2 {A : Option Addr} {c : Nat} (s : Bs) {w : World} {F : Nat → Nat → Prop} (ho : Octs w F A c s) (hl : 2 ≤ s.length) (d0 d1 : Nat) (h0 : oc s 0 = d0 + 128) (h1 : oc s 1 = d1) (g0 : d0 < 128) (g1 : d1 < 128) :
    Calls Tryz.prog 195 #[.slice A s.length c] w (Gives w (.tuple #[.int .u32 ((d0 + d1 * 128 : Nat) : Int), .int .i64 2])) := by
  refine enter (n := 87) Tryz.func195 rfl Tryz.ntmps195 (by kernel_rfl) fun a hE => ?_
  have hW := WOk.start w Nil
  refine go_sp [(0, .v (.slice A s.length c))] hW hE fun a1 hE2 => ?_
  clear hE
  refine wp_scope_straight ?_
  refine go_sp [(0, .v (.slice A s.length c))] hW hE2 fun a3 hE4 => ?_
  clear hE2
  refine go_sp [(0, .v (.slice A s.length c))] hW hE4 fun a5 hE6 => ?_
  clear hE4
  refine wp_seq ?_
  refine go_sp [(0, .v (.slice A s.length c)), (8, .v (.bool (decide (((s.length : Nat) : Int) < 1))))] hW hE6 fun a7 hE8 => ?_
  clear hE6
  refine cond_false hE8 (b := decide (((s.length : Nat) : Int) < 1)) (by kernel_rfl) (decide_eq_false (by omega)) ?_
  refine wp_skip ?_
  refine then_normal ?_
  refine go_seq_region [0, 1, 2, 3, 4, 5] (by kernel_rfl) ?_
  refine go_rn [0] [1, 2, 3, 4, 5] [(0, .v (.slice A s.length c)), (9, .v (.slice A s.length c))] hW hE8 fun a9 hE10 => ?_
  clear hE8
  obtain ⟨b11, o12, hA13, hl14, hat15⟩ := Slots.get ho (i := 0) (by first | omega | (simp only [List.length_append, be_length, List.length_cons, List.length_nil] at *; omega))
  refine of_op (wpOp_index hE10 (t := 22) (A := A) (m := s.length) (q := 0) (d := 10) (by kernel_rfl) (e := 5) (size := 1) (bytes := 1) (j := 0) (by kernel_rfl) hA13 rfl (by first | omega | (simp only [List.length_append, be_length, List.length_cons, List.length_nil] at *; omega)) fun a16 hE17 => ?_)
  clear hE10
  refine of_op (wpOp_load hE17 (t := 5) (b := b11) (o := o12 + 0 * 1) (d := 11) (by kernel_rfl) (cs := [.int .u8 ((s.getD 0 0).toNat : Int)]) (v := .int .u8 ((s.getD 0 0).toNat : Int)) (by kernel_rfl) (AtF.move hat15 hW.step nilM keepF).at_ fun a18 hE19 => ?_)
  clear hE17
  refine go_rn [3, 4, 5] [] [(0, .v (.slice A s.length c)), (4, .v (.int .u32 (IntKind.u32.wrap (IntKind.u8.wrap (BitVec.ofInt 8 ((s.getD 0 0).toNat : Int) &&& BitVec.ofInt 8 127).toNat))))] hW hE19 fun a20 hE21 => ?_
  clear hE19
  refine wpOps_nil ?_
  refine then_normal ?_
  refine wp_seq ?_
  refine go_seq_region [0, 1, 2, 3, 4] (by kernel_rfl) ?_
  refine go_rn [0] [1, 2, 3, 4] [(0, .v (.slice A s.length c)), (4, .v (.int .u32 (IntKind.u32.wrap (IntKind.u8.wrap (BitVec.ofInt 8 ((s.getD 0 0).toNat : Int) &&& BitVec.ofInt 8 127).toNat)))), (14, .v (.slice A s.length c))] hW hE21 fun a22 hE23 => ?_
  clear hE21
  refine of_op (wpOp_index hE23 (t := 22) (A := A) (m := s.length) (q := 0) (d := 15) (by kernel_rfl) (e := 5) (size := 1) (bytes := 1) (j := 0) (by kernel_rfl) hA13 rfl (by first | omega | (simp only [List.length_append, be_length, List.length_cons, List.length_nil] at *; omega)) fun a24 hE25 => ?_)
  clear hE23
  refine of_op (wpOp_load hE25 (t := 5) (b := b11) (o := o12 + 0 * 1) (d := 16) (by kernel_rfl) (cs := [.int .u8 ((s.getD 0 0).toNat : Int)]) (v := .int .u8 ((s.getD 0 0).toNat : Int)) (by kernel_rfl) (AtF.move hat15 hW.step nilM keepF).at_ fun a26 hE27 => ?_)
  clear hE25
  refine go_rn [3, 4] [] [(0, .v (.slice A s.length c)), (4, .v (.int .u32 (IntKind.u32.wrap (IntKind.u8.wrap (BitVec.ofInt 8 ((s.getD 0 0).toNat : Int) &&& BitVec.ofInt 8 127).toNat)))), (18, .v (.bool ((IntKind.u8.wrap (BitVec.ofInt 8 ((s.getD 0 0).toNat : Int) &&& BitVec.ofInt 8 128).toNat) == 0)))] hW hE27 fun a28 hE29 => ?_
  clear hE27
  refine wpOps_nil ?_
  refine then_normal ?_
  refine cond_false hE29 (b := (IntKind.u8.wrap (BitVec.ofInt 8 ((s.getD 0 0).toNat : Int) &&& BitVec.ofInt 8 128).toNat) == 0) (by kernel_rfl) ((and128 _ (oc_lt s 0)).trans (decide_eq_false (by have := h0; unfold oc at this; omega))) ?_
  refine go_sp [(0, .v (.slice A s.length c)), (4, .v (.int .u32 (IntKind.u32.wrap (IntKind.u8.wrap (BitVec.ofInt 8 ((s.getD 0 0).toNat : Int) &&& BitVec.ofInt 8 127).toNat)))), (22, .v (.bool (decide (((s.length : Nat) : Int) < 2))))] hW hE29 fun a30 hE31 => ?_
  clear hE29
  refine cond_false hE31 (b := decide (((s.length : Nat) : Int) < 2)) (by kernel_rfl) (decide_eq_false (by omega)) ?_
  refine wp_skip ?_
  refine then_normal ?_
  refine go_seq_region [0, 1, 2, 3, 4, 5, 6, 7, 8] (by kernel_rfl) ?_
  refine go_rn [0, 1] [2, 3, 4, 5, 6, 7, 8] [(0, .v (.slice A s.length c)), (23, .v (.int .u32 (IntKind.u32.wrap (IntKind.u8.wrap (BitVec.ofInt 8 ((s.getD 0 0).toNat : Int) &&& BitVec.ofInt 8 127).toNat)))), (24, .v (.slice A s.length c))] hW hE31 fun a32 hE33 => ?_
  clear hE31
  obtain ⟨b34, o35, hA36, hl37, hat38⟩ := Slots.get ho (i := 1) (by first | omega | (simp only [List.length_append, be_length, List.length_cons, List.length_nil] at *; omega))
  refine of_op (wpOp_index hE33 (t := 22) (A := A) (m := s.length) (q := 1) (d := 25) (by kernel_rfl) (e := 5) (size := 1) (bytes := 1) (j := 1) (by kernel_rfl) hA36 rfl (by first | omega | (simp only [List.length_append, be_length, List.length_cons, List.length_nil] at *; omega)) fun a39 hE40 => ?_)
  clear hE33
  refine of_op (wpOp_load hE40 (t := 5) (b := b34) (o := o35 + 1 * 1) (d := 26) (by kernel_rfl) (cs := [.int .u8 ((s.getD 1 0).toNat : Int)]) (v := .int .u8 ((s.getD 1 0).toNat : Int)) (by kernel_rfl) (AtF.move hat38 hW.step nilM keepF).at_ fun a41 hE42 => ?_)
  clear hE40
  refine go_rn [4, 5, 6, 7, 8] [] [(0, .v (.slice A s.length c)), (4, .v (.int .u32 (IntKind.u32.wrap (BitVec.ofInt 32 (IntKind.u32.wrap (IntKind.u8.wrap (BitVec.ofInt 8 ((s.getD 0 0).toNat : Int) &&& BitVec.ofInt 8 127).toNat)) ||| BitVec.ofInt 32 (IntKind.u32.wrap ((IntKind.u32.wrap (IntKind.u8.wrap (BitVec.ofInt 8 ((s.getD 1 0).toNat : Int) &&& BitVec.ofInt 8 127).toNat)) * 128))).toNat)))] hW hE42 fun a43 hE44 => ?_
  clear hE42
  refine wpOps_nil ?_
  refine then_normal ?_
  refine wp_seq ?_
  refine go_seq_region [0, 1, 2, 3, 4] (by kernel_rfl) ?_
  refine go_rn [0] [1, 2, 3, 4] [(0, .v (.slice A s.length c)), (4, .v (.int .u32 (IntKind.u32.wrap (BitVec.ofInt 32 (IntKind.u32.wrap (IntKind.u8.wrap (BitVec.ofInt 8 ((s.getD 0 0).toNat : Int) &&& BitVec.ofInt 8 127).toNat)) ||| BitVec.ofInt 32 (IntKind.u32.wrap ((IntKind.u32.wrap (IntKind.u8.wrap (BitVec.ofInt 8 ((s.getD 1 0).toNat : Int) &&& BitVec.ofInt 8 127).toNat)) * 128))).toNat))), (31, .v (.slice A s.length c))] hW hE44 fun a45 hE46 => ?_
  clear hE44
  refine of_op (wpOp_index hE46 (t := 22) (A := A) (m := s.length) (q := 1) (d := 32) (by kernel_rfl) (e := 5) (size := 1) (bytes := 1) (j := 1) (by kernel_rfl) hA36 rfl (by first | omega | (simp only [List.length_append, be_length, List.length_cons, List.length_nil] at *; omega)) fun a47 hE48 => ?_)
  clear hE46
  refine of_op (wpOp_load hE48 (t := 5) (b := b34) (o := o35 + 1 * 1) (d := 33) (by kernel_rfl) (cs := [.int .u8 ((s.getD 1 0).toNat : Int)]) (v := .int .u8 ((s.getD 1 0).toNat : Int)) (by kernel_rfl) (AtF.move hat38 hW.step nilM keepF).at_ fun a49 hE50 => ?_)
  clear hE48
  refine go_rn [3, 4] [] [(0, .v (.slice A s.length c)), (4, .v (.int .u32 (IntKind.u32.wrap (BitVec.ofInt 32 (IntKind.u32.wrap (IntKind.u8.wrap (BitVec.ofInt 8 ((s.getD 0 0).toNat : Int) &&& BitVec.ofInt 8 127).toNat)) ||| BitVec.ofInt 32 (IntKind.u32.wrap ((IntKind.u32.wrap (IntKind.u8.wrap (BitVec.ofInt 8 ((s.getD 1 0).toNat : Int) &&& BitVec.ofInt 8 127).toNat)) * 128))).toNat))), (35, .v (.bool ((IntKind.u8.wrap (BitVec.ofInt 8 ((s.getD 1 0).toNat : Int) &&& BitVec.ofInt 8 128).toNat) == 0)))] hW hE50 fun a51 hE52 => ?_
  clear hE50
  refine wpOps_nil ?_
  refine then_normal ?_
  refine cond_true hE52 (b := (IntKind.u8.wrap (BitVec.ofInt 8 ((s.getD 1 0).toNat : Int) &&& BitVec.ofInt 8 128).toNat) == 0) (by kernel_rfl) ((and128 _ (oc_lt s 1)).trans (decide_eq_true (by have := h1; unfold oc at this; omega))) ?_
  refine go_sp [(2, .v (.int .u32 (IntKind.u32.wrap (BitVec.ofInt 32 (IntKind.u32.wrap (IntKind.u8.wrap (BitVec.ofInt 8 ((s.getD 0 0).toNat : Int) &&& BitVec.ofInt 8 127).toNat)) ||| BitVec.ofInt 32 (IntKind.u32.wrap ((IntKind.u32.wrap (IntKind.u8.wrap (BitVec.ofInt 8 ((s.getD 1 0).toNat : Int) &&& BitVec.ofInt 8 127).toNat)) * 128))).toNat))), (3, .v (.int .i64 2))] hW hE52 fun a53 hE54 => ?_
  clear hE52
  refine wp_ret ?_
  refine then_ret ?_
  refine scope_ret ?_
  refine leave hE54 hW.cells (v := .tuple #[.int .u32 (IntKind.u32.wrap (BitVec.ofInt 32 (IntKind.u32.wrap (IntKind.u8.wrap (BitVec.ofInt 8 ((s.getD 0 0).toNat : Int) &&& BitVec.ofInt 8 127).toNat)) ||| BitVec.ofInt 32 (IntKind.u32.wrap ((IntKind.u32.wrap (IntKind.u8.wrap (BitVec.ofInt 8 ((s.getD 1 0).toNat : Int) &&& BitVec.ofInt 8 127).toNat)) * 128))).toNat), .int .i64 2]) (by kernel_rfl) ?_
  have e_ := uv_2 (oc s 0) (oc s 1) (oc_lt s 0) (oc_lt s 1)
  refine ⟨congrArg (fun z_ : Int => Ending.returned (.tuple #[.int .u32 z_, .int .i64 2])) (Eq.trans e_ ?_), hW.step⟩
  omega

theorem rUv3 {A : Option Addr} {c : Nat} (s : Bs) {w : World} {F : Nat → Nat → Prop} (ho : Octs w F A c s) (hl : 3 ≤ s.length) (d0 d1 d2 : Nat) (h0 : oc s 0 = d0 + 128) (h1 : oc s 1 = d1 + 128) (h2 : oc s 2 = d2) (g0 : d0 < 128) (g1 : d1 < 128) (g2 : d2 < 128) :
    Calls Tryz.prog 195 #[.slice A s.length c] w (Gives w (.tuple #[.int .u32 ((d0 + d1 * 128 + d2 * 16384 : Nat) : Int), .int .i64 3])) := by
  refine enter (n := 87) Tryz.func195 rfl Tryz.ntmps195 (by kernel_rfl) fun a hE => ?_
  have hW := WOk.start w Nil
  refine go_sp [(0, .v (.slice A s.length c))] hW hE fun a1 hE2 => ?_
  clear hE
  refine wp_scope_straight ?_
  refine go_sp [(0, .v (.slice A s.length c))] hW hE2 fun a3 hE4 => ?_
  clear hE2
  refine go_sp [(0, .v (.slice A s.length c))] hW hE4 fun a5 hE6 => ?_
  clear hE4
  refine wp_seq ?_
  refine go_sp [(0, .v (.slice A s.length c)), (8, .v (.bool (decide (((s.length : Nat) : Int) < 1))))] hW hE6 fun a7 hE8 => ?_
  clear hE6
  refine cond_false hE8 (b := decide (((s.length : Nat) : Int) < 1)) (by kernel_rfl) (decide_eq_false (by omega)) ?_
  refine wp_skip ?_
  refine then_normal ?_
  refine go_seq_region [0, 1, 2, 3, 4, 5] (by kernel_rfl) ?_
  refine go_rn [0] [1, 2, 3, 4, 5] [(0, .v (.slice A s.length c)), (9, .v (.slice A s.length c))] hW hE8 fun a9 hE10 => ?_
  clear hE8
  obtain ⟨b11, o12, hA13, hl14, hat15⟩ := Slots.get ho (i := 0) (by first | omega | (simp only [List.length_append, be_length, List.length_cons, List.length_nil] at *; omega))
  refine of_op (wpOp_index hE10 (t := 22) (A := A) (m := s.length) (q := 0) (d := 10) (by kernel_rfl) (e := 5) (size := 1) (bytes := 1) (j := 0) (by kernel_rfl) hA13 rfl (by first | omega | (simp only [List.length_append, be_length, List.length_cons, List.length_nil] at *; omega)) fun a16 hE17 => ?_)
  clear hE10
  refine of_op (wpOp_load hE17 (t := 5) (b := b11) (o := o12 + 0 * 1) (d := 11) (by kernel_rfl) (cs := [.int .u8 ((s.getD 0 0).toNat : Int)]) (v := .int .u8 ((s.getD 0 0).toNat : Int)) (by kernel_rfl) (AtF.move hat15 hW.step nilM keepF).at_ fun a18 hE19 => ?_)
  clear hE17
  refine go_rn [3, 4, 5] [] [(0, .v (.slice A s.length c)), (4, .v (.int .u32 (IntKind.u32.wrap (IntKind.u8.wrap (BitVec.ofInt 8 ((s.getD 0 0).toNat : Int) &&& BitVec.ofInt 8 127).toNat))))] hW hE19 fun a20 hE21 => ?_
  clear hE19
  refine wpOps_nil ?_
  refine then_normal ?_
  refine wp_seq ?_
  refine go_seq_region [0, 1, 2, 3, 4] (by kernel_rfl) ?_
  refine go_rn [0] [1, 2, 3, 4] [(0, .v (.slice A s.length c)), (4, .v (.int .u32 (IntKind.u32.wrap (IntKind.u8.wrap (BitVec.ofInt 8 ((s.getD 0 0).toNat : Int) &&& BitVec.ofInt 8 127).toNat)))), (14, .v (.slice A s.length c))] hW hE21 fun a22 hE23 => ?_
  clear hE21
  refine of_op (wpOp_index hE23 (t := 22) (A := A) (m := s.length) (q := 0) (d := 15) (by kernel_rfl) (e := 5) (size := 1) (bytes := 1) (j := 0) (by kernel_rfl) hA13 rfl (by first | omega | (simp only [List.length_append, be_length, List.length_cons, List.length_nil] at *; omega)) fun a24 hE25 => ?_)
  clear hE23
  refine of_op (wpOp_load hE25 (t := 5) (b := b11) (o := o12 + 0 * 1) (d := 16) (by kernel_rfl) (cs := [.int .u8 ((s.getD 0 0).toNat : Int)]) (v := .int .u8 ((s.getD 0 0).toNat : Int)) (by kernel_rfl) (AtF.move hat15 hW.step nilM keepF).at_ fun a26 hE27 => ?_)
  clear hE25
  refine go_rn [3, 4] [] [(0, .v (.slice A s.length c)), (4, .v (.int .u32 (IntKind.u32.wrap (IntKind.u8.wrap (BitVec.ofInt 8 ((s.getD 0 0).toNat : Int) &&& BitVec.ofInt 8 127).toNat)))), (18, .v (.bool ((IntKind.u8.wrap (BitVec.ofInt 8 ((s.getD 0 0).toNat : Int) &&& BitVec.ofInt 8 128).toNat) == 0)))] hW hE27 fun a28 hE29 => ?_
  clear hE27
  refine wpOps_nil ?_
  refine then_normal ?_
  refine cond_false hE29 (b := (IntKind.u8.wrap (BitVec.ofInt 8 ((s.getD 0 0).toNat : Int) &&& BitVec.ofInt 8 128).toNat) == 0) (by kernel_rfl) ((and128 _ (oc_lt s 0)).trans (decide_eq_false (by have := h0; unfold oc at this; omega))) ?_
  refine go_sp [(0, .v (.slice A s.length c)), (4, .v (.int .u32 (IntKind.u32.wrap (IntKind.u8.wrap (BitVec.ofInt 8 ((s.getD 0 0).toNat : Int) &&& BitVec.ofInt 8 127).toNat)))), (22, .v (.bool (decide (((s.length : Nat) : Int) < 2))))] hW hE29 fun a30 hE31 => ?_
  clear hE29
  refine cond_false hE31 (b := decide (((s.length : Nat) : Int) < 2)) (by kernel_rfl) (decide_eq_false (by omega)) ?_
  refine wp_skip ?_
  refine then_normal ?_
  refine go_seq_region [0, 1, 2, 3, 4, 5, 6, 7, 8] (by kernel_rfl) ?_
  refine go_rn [0, 1] [2, 3, 4, 5, 6, 7, 8] [(0, .v (.slice A s.length c)), (23, .v (.int .u32 (IntKind.u32.wrap (IntKind.u8.wrap (BitVec.ofInt 8 ((s.getD 0 0).toNat : Int) &&& BitVec.ofInt 8 127).toNat)))), (24, .v (.slice A s.length c))] hW hE31 fun a32 hE33 => ?_
  clear hE31
  obtain ⟨b34, o35, hA36, hl37, hat38⟩ := Slots.get ho (i := 1) (by first | omega | (simp only [List.length_append, be_length, List.length_cons, List.length_nil] at *; omega))
  refine of_op (wpOp_index hE33 (t := 22) (A := A) (m := s.length) (q := 1) (d := 25) (by kernel_rfl) (e := 5) (size := 1) (bytes := 1) (j := 1) (by kernel_rfl) hA36 rfl (by first | omega | (simp only [List.length_append, be_length, List.length_cons, List.length_nil] at *; omega)) fun a39 hE40 => ?_)
  clear hE33
  refine of_op (wpOp_load hE40 (t := 5) (b := b34) (o := o35 + 1 * 1) (d := 26) (by kernel_rfl) (cs := [.int .u8 ((s.getD 1 0).toNat : Int)]) (v := .int .u8 ((s.getD 1 0).toNat : Int)) (by kernel_rfl) (AtF.move hat38 hW.step nilM keepF).at_ fun a41 hE42 => ?_)
  clear hE40
  refine go_rn [4, 5, 6, 7, 8] [] [(0, .v (.slice A s.length c)), (4, .v (.int .u32 (IntKind.u32.wrap (BitVec.ofInt 32 (IntKind.u32.wrap (IntKind.u8.wrap (BitVec.ofInt 8 ((s.getD 0 0).toNat : Int) &&& BitVec.ofInt 8 127).toNat)) ||| BitVec.ofInt 32 (IntKind.u32.wrap ((IntKind.u32.wrap (IntKind.u8.wrap (BitVec.ofInt 8 ((s.getD 1 0).toNat : Int) &&& BitVec.ofInt 8 127).toNat)) * 128))).toNat)))] hW hE42 fun a43 hE44 => ?_
  clear hE42
  refine wpOps_nil ?_
  refine then_normal ?_
  refine wp_seq ?_
  refine go_seq_region [0, 1, 2, 3, 4] (by kernel_rfl) ?_
  refine go_rn [0] [1, 2, 3, 4] [(0, .v (.slice A s.length c)), (4, .v (.int .u32 (IntKind.u32.wrap (BitVec.ofInt 32 (IntKind.u32.wrap (IntKind.u8.wrap (BitVec.ofInt 8 ((s.getD 0 0).toNat : Int) &&& BitVec.ofInt 8 127).toNat)) ||| BitVec.ofInt 32 (IntKind.u32.wrap ((IntKind.u32.wrap (IntKind.u8.wrap (BitVec.ofInt 8 ((s.getD 1 0).toNat : Int) &&& BitVec.ofInt 8 127).toNat)) * 128))).toNat))), (31, .v (.slice A s.length c))] hW hE44 fun a45 hE46 => ?_
  clear hE44
  refine of_op (wpOp_index hE46 (t := 22) (A := A) (m := s.length) (q := 1) (d := 32) (by kernel_rfl) (e := 5) (size := 1) (bytes := 1) (j := 1) (by kernel_rfl) hA36 rfl (by first | omega | (simp only [List.length_append, be_length, List.length_cons, List.length_nil] at *; omega)) fun a47 hE48 => ?_)
  clear hE46
  refine of_op (wpOp_load hE48 (t := 5) (b := b34) (o := o35 + 1 * 1) (d := 33) (by kernel_rfl) (cs := [.int .u8 ((s.getD 1 0).toNat : Int)]) (v := .int .u8 ((s.getD 1 0).toNat : Int)) (by kernel_rfl) (AtF.move hat38 hW.step nilM keepF).at_ fun a49 hE50 => ?_)
  clear hE48
  refine go_rn [3, 4] [] [(0, .v (.slice A s.length c)), (4, .v (.int .u32 (IntKind.u32.wrap (BitVec.ofInt 32 (IntKind.u32.wrap (IntKind.u8.wrap (BitVec.ofInt 8 ((s.getD 0 0).toNat : Int) &&& BitVec.ofInt 8 127).toNat)) ||| BitVec.ofInt 32 (IntKind.u32.wrap ((IntKind.u32.wrap (IntKind.u8.wrap (BitVec.ofInt 8 ((s.getD 1 0).toNat : Int) &&& BitVec.ofInt 8 127).toNat)) * 128))).toNat))), (35, .v (.bool ((IntKind.u8.wrap (BitVec.ofInt 8 ((s.getD 1 0).toNat : Int) &&& BitVec.ofInt 8 128).toNat) == 0)))] hW hE50 fun a51 hE52 => ?_
  clear hE50
  refine wpOps_nil ?_
  refine then_normal ?_
  refine cond_false hE52 (b := (IntKind.u8.wrap (BitVec.ofInt 8 ((s.getD 1 0).toNat : Int) &&& BitVec.ofInt 8 128).toNat) == 0) (by kernel_rfl) ((and128 _ (oc_lt s 1)).trans (decide_eq_false (by have := h1; unfold oc at this; omega))) ?_
  refine go_sp [(0, .v (.slice A s.length c)), (4, .v (.int .u32 (IntKind.u32.wrap (BitVec.ofInt 32 (IntKind.u32.wrap (IntKind.u8.wrap (BitVec.ofInt 8 ((s.getD 0 0).toNat : Int) &&& BitVec.ofInt 8 127).toNat)) ||| BitVec.ofInt 32 (IntKind.u32.wrap ((IntKind.u32.wrap (IntKind.u8.wrap (BitVec.ofInt 8 ((s.getD 1 0).toNat : Int) &&& BitVec.ofInt 8 127).toNat)) * 128))).toNat))), (39, .v (.bool (decide (((s.length : Nat) : Int) < 3))))] hW hE52 fun a53 hE54 => ?_
  clear hE52
  refine cond_false hE54 (b := decide (((s.length : Nat) : Int) < 3)) (by kernel_rfl) (decide_eq_false (by omega)) ?_
  refine wp_skip ?_
  refine then_normal ?_
  refine go_seq_region [0, 1, 2, 3, 4, 5, 6, 7, 8] (by kernel_rfl) ?_
  refine go_rn [0, 1] [2, 3, 4, 5, 6, 7, 8] [(0, .v (.slice A s.length c)), (40, .v (.int .u32 (IntKind.u32.wrap (BitVec.ofInt 32 (IntKind.u32.wrap (IntKind.u8.wrap (BitVec.ofInt 8 ((s.getD 0 0).toNat : Int) &&& BitVec.ofInt 8 127).toNat)) ||| BitVec.ofInt 32 (IntKind.u32.wrap ((IntKind.u32.wrap (IntKind.u8.wrap (BitVec.ofInt 8 ((s.getD 1 0).toNat : Int) &&& BitVec.ofInt 8 127).toNat)) * 128))).toNat))), (41, .v (.slice A s.length c))] hW hE54 fun a55 hE56 => ?_
  clear hE54
  obtain ⟨b57, o58, hA59, hl60, hat61⟩ := Slots.get ho (i := 2) (by first | omega | (simp only [List.length_append, be_length, List.length_cons, List.length_nil] at *; omega))
  refine of_op (wpOp_index hE56 (t := 22) (A := A) (m := s.length) (q := 2) (d := 42) (by kernel_rfl) (e := 5) (size := 1) (bytes := 1) (j := 2) (by kernel_rfl) hA59 rfl (by first | omega | (simp only [List.length_append, be_length, List.length_cons, List.length_nil] at *; omega)) fun a62 hE63 => ?_)
  clear hE56
  refine of_op (wpOp_load hE63 (t := 5) (b := b57) (o := o58 + 2 * 1) (d := 43) (by kernel_rfl) (cs := [.int .u8 ((s.getD 2 0).toNat : Int)]) (v := .int .u8 ((s.getD 2 0).toNat : Int)) (by kernel_rfl) (AtF.move hat61 hW.step nilM keepF).at_ fun a64 hE65 => ?_)
  clear hE63
  refine go_rn [4, 5, 6, 7, 8] [] [(0, .v (.slice A s.length c)), (4, .v (.int .u32 (IntKind.u32.wrap (BitVec.ofInt 32 (IntKind.u32.wrap (BitVec.ofInt 32 (IntKind.u32.wrap (IntKind.u8.wrap (BitVec.ofInt 8 ((s.getD 0 0).toNat : Int) &&& BitVec.ofInt 8 127).toNat)) ||| BitVec.ofInt 32 (IntKind.u32.wrap ((IntKind.u32.wrap (IntKind.u8.wrap (BitVec.ofInt 8 ((s.getD 1 0).toNat : Int) &&& BitVec.ofInt 8 127).toNat)) * 128))).toNat) ||| BitVec.ofInt 32 (IntKind.u32.wrap ((IntKind.u32.wrap (IntKind.u8.wrap (BitVec.ofInt 8 ((s.getD 2 0).toNat : Int) &&& BitVec.ofInt 8 127).toNat)) * 16384))).toNat)))] hW hE65 fun a66 hE67 => ?_
  clear hE65
  refine wpOps_nil ?_
  refine then_normal ?_
  refine wp_seq ?_
  refine go_seq_region [0, 1, 2, 3, 4] (by kernel_rfl) ?_
  refine go_rn [0] [1, 2, 3, 4] [(0, .v (.slice A s.length c)), (4, .v (.int .u32 (IntKind.u32.wrap (BitVec.ofInt 32 (IntKind.u32.wrap (BitVec.ofInt 32 (IntKind.u32.wrap (IntKind.u8.wrap (BitVec.ofInt 8 ((s.getD 0 0).toNat : Int) &&& BitVec.ofInt 8 127).toNat)) ||| BitVec.ofInt 32 (IntKind.u32.wrap ((IntKind.u32.wrap (IntKind.u8.wrap (BitVec.ofInt 8 ((s.getD 1 0).toNat : Int) &&& BitVec.ofInt 8 127).toNat)) * 128))).toNat) ||| BitVec.ofInt 32 (IntKind.u32.wrap ((IntKind.u32.wrap (IntKind.u8.wrap (BitVec.ofInt 8 ((s.getD 2 0).toNat : Int) &&& BitVec.ofInt 8 127).toNat)) * 16384))).toNat))), (48, .v (.slice A s.length c))] hW hE67 fun a68 hE69 => ?_
  clear hE67
  refine of_op (wpOp_index hE69 (t := 22) (A := A) (m := s.length) (q := 2) (d := 49) (by kernel_rfl) (e := 5) (size := 1) (bytes := 1) (j := 2) (by kernel_rfl) hA59 rfl (by first | omega | (simp only [List.length_append, be_length, List.length_cons, List.length_nil] at *; omega)) fun a70 hE71 => ?_)
  clear hE69
  refine of_op (wpOp_load hE71 (t := 5) (b := b57) (o := o58 + 2 * 1) (d := 50) (by kernel_rfl) (cs := [.int .u8 ((s.getD 2 0).toNat : Int)]) (v := .int .u8 ((s.getD 2 0).toNat : Int)) (by kernel_rfl) (AtF.move hat61 hW.step nilM keepF).at_ fun a72 hE73 => ?_)
  clear hE71
  refine go_rn [3, 4] [] [(0, .v (.slice A s.length c)), (4, .v (.int .u32 (IntKind.u32.wrap (BitVec.ofInt 32 (IntKind.u32.wrap (BitVec.ofInt 32 (IntKind.u32.wrap (IntKind.u8.wrap (BitVec.ofInt 8 ((s.getD 0 0).toNat : Int) &&& BitVec.ofInt 8 127).toNat)) ||| BitVec.ofInt 32 (IntKind.u32.wrap ((IntKind.u32.wrap (IntKind.u8.wrap (BitVec.ofInt 8 ((s.getD 1 0).toNat : Int) &&& BitVec.ofInt 8 127).toNat)) * 128))).toNat) ||| BitVec.ofInt 32 (IntKind.u32.wrap ((IntKind.u32.wrap (IntKind.u8.wrap (BitVec.ofInt 8 ((s.getD 2 0).toNat : Int) &&& BitVec.ofInt 8 127).toNat)) * 16384))).toNat))), (52, .v (.bool ((IntKind.u8.wrap (BitVec.ofInt 8 ((s.getD 2 0).toNat : Int) &&& BitVec.ofInt 8 128).toNat) == 0)))] hW hE73 fun a74 hE75 => ?_
  clear hE73
  refine wpOps_nil ?_
  refine then_normal ?_
  refine cond_true hE75 (b := (IntKind.u8.wrap (BitVec.ofInt 8 ((s.getD 2 0).toNat : Int) &&& BitVec.ofInt 8 128).toNat) == 0) (by kernel_rfl) ((and128 _ (oc_lt s 2)).trans (decide_eq_true (by have := h2; unfold oc at this; omega))) ?_
  refine go_sp [(2, .v (.int .u32 (IntKind.u32.wrap (BitVec.ofInt 32 (IntKind.u32.wrap (BitVec.ofInt 32 (IntKind.u32.wrap (IntKind.u8.wrap (BitVec.ofInt 8 ((s.getD 0 0).toNat : Int) &&& BitVec.ofInt 8 127).toNat)) ||| BitVec.ofInt 32 (IntKind.u32.wrap ((IntKind.u32.wrap (IntKind.u8.wrap (BitVec.ofInt 8 ((s.getD 1 0).toNat : Int) &&& BitVec.ofInt 8 127).toNat)) * 128))).toNat) ||| BitVec.ofInt 32 (IntKind.u32.wrap ((IntKind.u32.wrap (IntKind.u8.wrap (BitVec.ofInt 8 ((s.getD 2 0).toNat : Int) &&& BitVec.ofInt 8 127).toNat)) * 16384))).toNat))), (3, .v (.int .i64 3))] hW hE75 fun a76 hE77 => ?_
  clear hE75
  refine wp_ret ?_
  refine then_ret ?_
  refine scope_ret ?_
  refine leave hE77 hW.cells (v := .tuple #[.int .u32 (IntKind.u32.wrap (BitVec.ofInt 32 (IntKind.u32.wrap (BitVec.ofInt 32 (IntKind.u32.wrap (IntKind.u8.wrap (BitVec.ofInt 8 ((s.getD 0 0).toNat : Int) &&& BitVec.ofInt 8 127).toNat)) ||| BitVec.ofInt 32 (IntKind.u32.wrap ((IntKind.u32.wrap (IntKind.u8.wrap (BitVec.ofInt 8 ((s.getD 1 0).toNat : Int) &&& BitVec.ofInt 8 127).toNat)) * 128))).toNat) ||| BitVec.ofInt 32 (IntKind.u32.wrap ((IntKind.u32.wrap (IntKind.u8.wrap (BitVec.ofInt 8 ((s.getD 2 0).toNat : Int) &&& BitVec.ofInt 8 127).toNat)) * 16384))).toNat), .int .i64 3]) (by kernel_rfl) ?_
  have e_ := uv_3 (oc s 0) (oc s 1) (oc s 2) (oc_lt s 0) (oc_lt s 1) (oc_lt s 2)
  refine ⟨congrArg (fun z_ : Int => Ending.returned (.tuple #[.int .u32 z_, .int .i64 3])) (Eq.trans e_ ?_), hW.step⟩
  omega

theorem rUv4 {A : Option Addr} {c : Nat} (s : Bs) {w : World} {F : Nat → Nat → Prop} (ho : Octs w F A c s) (hl : 4 ≤ s.length) (d0 d1 d2 d3 : Nat) (h0 : oc s 0 = d0 + 128) (h1 : oc s 1 = d1 + 128) (h2 : oc s 2 = d2 + 128) (h3 : oc s 3 = d3) (g0 : d0 < 128) (g1 : d1 < 128) (g2 : d2 < 128) (g3 : d3 < 128) :
    Calls Tryz.prog 195 #[.slice A s.length c] w (Gives w (.tuple #[.int .u32 ((d0 + d1 * 128 + d2 * 16384 + d3 * 2097152 : Nat) : Int), .int .i64 4])) := by
  refine enter (n := 87) Tryz.func195 rfl Tryz.ntmps195 (by kernel_rfl) fun a hE => ?_
  have hW := WOk.start w Nil
  refine go_sp [(0, .v (.slice A s.length c))] hW hE fun a1 hE2 => ?_
  clear hE
  refine wp_scope_straight ?_
  refine go_sp [(0, .v (.slice A s.length c))] hW hE2 fun a3 hE4 => ?_
  clear hE2
  refine go_sp [(0, .v (.slice A s.length c))] hW hE4 fun a5 hE6 => ?_
  clear hE4
  refine wp_seq ?_
  refine go_sp [(0, .v (.slice A s.length c)), (8, .v (.bool (decide (((s.length : Nat) : Int) < 1))))] hW hE6 fun a7 hE8 => ?_
  clear hE6
  refine cond_false hE8 (b := decide (((s.length : Nat) : Int) < 1)) (by kernel_rfl) (decide_eq_false (by omega)) ?_
  refine wp_skip ?_
  refine then_normal ?_
  refine go_seq_region [0, 1, 2, 3, 4, 5] (by kernel_rfl) ?_
  refine go_rn [0] [1, 2, 3, 4, 5] [(0, .v (.slice A s.length c)), (9, .v (.slice A s.length c))] hW hE8 fun a9 hE10 => ?_
  clear hE8
  obtain ⟨b11, o12, hA13, hl14, hat15⟩ := Slots.get ho (i := 0) (by first | omega | (simp only [List.length_append, be_length, List.length_cons, List.length_nil] at *; omega))
  refine of_op (wpOp_index hE10 (t := 22) (A := A) (m := s.length) (q := 0) (d := 10) (by kernel_rfl) (e := 5) (size := 1) (bytes := 1) (j := 0) (by kernel_rfl) hA13 rfl (by first | omega | (simp only [List.length_append, be_length, List.length_cons, List.length_nil] at *; omega)) fun a16 hE17 => ?_)
  clear hE10
  refine of_op (wpOp_load hE17 (t := 5) (b := b11) (o := o12 + 0 * 1) (d := 11) (by kernel_rfl) (cs := [.int .u8 ((s.getD 0 0).toNat : Int)]) (v := .int .u8 ((s.getD 0 0).toNat : Int)) (by kernel_rfl) (AtF.move hat15 hW.step nilM keepF).at_ fun a18 hE19 => ?_)
  clear hE17
  refine go_rn [3, 4, 5] [] [(0, .v (.slice A s.length c)), (4, .v (.int .u32 (IntKind.u32.wrap (IntKind.u8.wrap (BitVec.ofInt 8 ((s.getD 0 0).toNat : Int) &&& BitVec.ofInt 8 127).toNat))))] hW hE19 fun a20 hE21 => ?_
  clear hE19
  refine wpOps_nil ?_
  refine then_normal ?_
  refine wp_seq ?_
  refine go_seq_region [0, 1, 2, 3, 4] (by kernel_rfl) ?_
  refine go_rn [0] [1, 2, 3, 4] [(0, .v (.slice A s.length c)), (4, .v (.int .u32 (IntKind.u32.wrap (IntKind.u8.wrap (BitVec.ofInt 8 ((s.getD 0 0).toNat : Int) &&& BitVec.ofInt 8 127).toNat)))), (14, .v (.slice A s.length c))] hW hE21 fun a22 hE23 => ?_
  clear hE21
  refine of_op (wpOp_index hE23 (t := 22) (A := A) (m := s.length) (q := 0) (d := 15) (by kernel_rfl) (e := 5) (size := 1) (bytes := 1) (j := 0) (by kernel_rfl) hA13 rfl (by first | omega | (simp only [List.length_append, be_length, List.length_cons, List.length_nil] at *; omega)) fun a24 hE25 => ?_)
  clear hE23
  refine of_op (wpOp_load hE25 (t := 5) (b := b11) (o := o12 + 0 * 1) (d := 16) (by kernel_rfl) (cs := [.int .u8 ((s.getD 0 0).toNat : Int)]) (v := .int .u8 ((s.getD 0 0).toNat : Int)) (by kernel_rfl) (AtF.move hat15 hW.step nilM keepF).at_ fun a26 hE27 => ?_)
  clear hE25
  refine go_rn [3, 4] [] [(0, .v (.slice A s.length c)), (4, .v (.int .u32 (IntKind.u32.wrap (IntKind.u8.wrap (BitVec.ofInt 8 ((s.getD 0 0).toNat : Int) &&& BitVec.ofInt 8 127).toNat)))), (18, .v (.bool ((IntKind.u8.wrap (BitVec.ofInt 8 ((s.getD 0 0).toNat : Int) &&& BitVec.ofInt 8 128).toNat) == 0)))] hW hE27 fun a28 hE29 => ?_
  clear hE27
  refine wpOps_nil ?_
  refine then_normal ?_
  refine cond_false hE29 (b := (IntKind.u8.wrap (BitVec.ofInt 8 ((s.getD 0 0).toNat : Int) &&& BitVec.ofInt 8 128).toNat) == 0) (by kernel_rfl) ((and128 _ (oc_lt s 0)).trans (decide_eq_false (by have := h0; unfold oc at this; omega))) ?_
  refine go_sp [(0, .v (.slice A s.length c)), (4, .v (.int .u32 (IntKind.u32.wrap (IntKind.u8.wrap (BitVec.ofInt 8 ((s.getD 0 0).toNat : Int) &&& BitVec.ofInt 8 127).toNat)))), (22, .v (.bool (decide (((s.length : Nat) : Int) < 2))))] hW hE29 fun a30 hE31 => ?_
  clear hE29
  refine cond_false hE31 (b := decide (((s.length : Nat) : Int) < 2)) (by kernel_rfl) (decide_eq_false (by omega)) ?_
  refine wp_skip ?_
  refine then_normal ?_
  refine go_seq_region [0, 1, 2, 3, 4, 5, 6, 7, 8] (by kernel_rfl) ?_
  refine go_rn [0, 1] [2, 3, 4, 5, 6, 7, 8] [(0, .v (.slice A s.length c)), (23, .v (.int .u32 (IntKind.u32.wrap (IntKind.u8.wrap (BitVec.ofInt 8 ((s.getD 0 0).toNat : Int) &&& BitVec.ofInt 8 127).toNat)))), (24, .v (.slice A s.length c))] hW hE31 fun a32 hE33 => ?_
  clear hE31
  obtain ⟨b34, o35, hA36, hl37, hat38⟩ := Slots.get ho (i := 1) (by first | omega | (simp only [List.length_append, be_length, List.length_cons, List.length_nil] at *; omega))
  refine of_op (wpOp_index hE33 (t := 22) (A := A) (m := s.length) (q := 1) (d := 25) (by kernel_rfl) (e := 5) (size := 1) (bytes := 1) (j := 1) (by kernel_rfl) hA36 rfl (by first | omega | (simp only [List.length_append, be_length, List.length_cons, List.length_nil] at *; omega)) fun a39 hE40 => ?_)
  clear hE33
  refine of_op (wpOp_load hE40 (t := 5) (b := b34) (o := o35 + 1 * 1) (d := 26) (by kernel_rfl) (cs := [.int .u8 ((s.getD 1 0).toNat : Int)]) (v := .int .u8 ((s.getD 1 0).toNat : Int)) (by kernel_rfl) (AtF.move hat38 hW.step nilM keepF).at_ fun a41 hE42 => ?_)
  clear hE40
  refine go_rn [4, 5, 6, 7, 8] [] [(0, .v (.slice A s.length c)), (4, .v (.int .u32 (IntKind.u32.wrap (BitVec.ofInt 32 (IntKind.u32.wrap (IntKind.u8.wrap (BitVec.ofInt 8 ((s.getD 0 0).toNat : Int) &&& BitVec.ofInt 8 127).toNat)) ||| BitVec.ofInt 32 (IntKind.u32.wrap ((IntKind.u32.wrap (IntKind.u8.wrap (BitVec.ofInt 8 ((s.getD 1 0).toNat : Int) &&& BitVec.ofInt 8 127).toNat)) * 128))).toNat)))] hW hE42 fun a43 hE44 => ?_
  clear hE42
  refine wpOps_nil ?_
  refine then_normal ?_
  refine wp_seq ?_
  refine go_seq_region [0, 1, 2, 3, 4] (by kernel_rfl) ?_
  refine go_rn [0] [1, 2, 3, 4] [(0, .v (.slice A s.length c)), (4, .v (.int .u32 (IntKind.u32.wrap (BitVec.ofInt 32 (IntKind.u32.wrap (IntKind.u8.wrap (BitVec.ofInt 8 ((s.getD 0 0).toNat : Int) &&& BitVec.ofInt 8 127).toNat)) ||| BitVec.ofInt 32 (IntKind.u32.wrap ((IntKind.u32.wrap (IntKind.u8.wrap (BitVec.ofInt 8 ((s.getD 1 0).toNat : Int) &&& BitVec.ofInt 8 127).toNat)) * 128))).toNat))), (31, .v (.slice A s.length c))] hW hE44 fun a45 hE46 => ?_
  clear hE44
  refine of_op (wpOp_index hE46 (t := 22) (A := A) (m := s.length) (q := 1) (d := 32) (by kernel_rfl) (e := 5) (size := 1) (bytes := 1) (j := 1) (by kernel_rfl) hA36 rfl (by first | omega | (simp only [List.length_append, be_length, List.length_cons, List.length_nil] at *; omega)) fun a47 hE48 => ?_)
  clear hE46
  refine of_op (wpOp_load hE48 (t := 5) (b := b34) (o := o35 + 1 * 1) (d := 33) (by kernel_rfl) (cs := [.int .u8 ((s.getD 1 0).toNat : Int)]) (v := .int .u8 ((s.getD 1 0).toNat : Int)) (by kernel_rfl) (AtF.move hat38 hW.step nilM keepF).at_ fun a49 hE50 => ?_)
  clear hE48
  refine go_rn [3, 4] [] [(0, .v (.slice A s.length c)), (4, .v (.int .u32 (IntKind.u32.wrap (BitVec.ofInt 32 (IntKind.u32.wrap (IntKind.u8.wrap (BitVec.ofInt 8 ((s.getD 0 0).toNat : Int) &&& BitVec.ofInt 8 127).toNat)) ||| BitVec.ofInt 32 (IntKind.u32.wrap ((IntKind.u32.wrap (IntKind.u8.wrap (BitVec.ofInt 8 ((s.getD 1 0).toNat : Int) &&& BitVec.ofInt 8 127).toNat)) * 128))).toNat))), (35, .v (.bool ((IntKind.u8.wrap (BitVec.ofInt 8 ((s.getD 1 0).toNat : Int) &&& BitVec.ofInt 8 128).toNat) == 0)))] hW hE50 fun a51 hE52 => ?_
  clear hE50
  refine wpOps_nil ?_
  refine then_normal ?_
  refine cond_false hE52 (b := (IntKind.u8.wrap (BitVec.ofInt 8 ((s.getD 1 0).toNat : Int) &&& BitVec.ofInt 8 128).toNat) == 0) (by kernel_rfl) ((and128 _ (oc_lt s 1)).trans (decide_eq_false (by have := h1; unfold oc at this; omega))) ?_
  refine go_sp [(0, .v (.slice A s.length c)), (4, .v (.int .u32 (IntKind.u32.wrap (BitVec.ofInt 32 (IntKind.u32.wrap (IntKind.u8.wrap (BitVec.ofInt 8 ((s.getD 0 0).toNat : Int) &&& BitVec.ofInt 8 127).toNat)) ||| BitVec.ofInt 32 (IntKind.u32.wrap ((IntKind.u32.wrap (IntKind.u8.wrap (BitVec.ofInt 8 ((s.getD 1 0).toNat : Int) &&& BitVec.ofInt 8 127).toNat)) * 128))).toNat))), (39, .v (.bool (decide (((s.length : Nat) : Int) < 3))))] hW hE52 fun a53 hE54 => ?_
  clear hE52
  refine cond_false hE54 (b := decide (((s.length : Nat) : Int) < 3)) (by kernel_rfl) (decide_eq_false (by omega)) ?_
  refine wp_skip ?_
  refine then_normal ?_
  refine go_seq_region [0, 1, 2, 3, 4, 5, 6, 7, 8] (by kernel_rfl) ?_
  refine go_rn [0, 1] [2, 3, 4, 5, 6, 7, 8] [(0, .v (.slice A s.length c)), (40, .v (.int .u32 (IntKind.u32.wrap (BitVec.ofInt 32 (IntKind.u32.wrap (IntKind.u8.wrap (BitVec.ofInt 8 ((s.getD 0 0).toNat : Int) &&& BitVec.ofInt 8 127).toNat)) ||| BitVec.ofInt 32 (IntKind.u32.wrap ((IntKind.u32.wrap (IntKind.u8.wrap (BitVec.ofInt 8 ((s.getD 1 0).toNat : Int) &&& BitVec.ofInt 8 127).toNat)) * 128))).toNat))), (41, .v (.slice A s.length c))] hW hE54 fun a55 hE56 => ?_
  clear hE54
  obtain ⟨b57, o58, hA59, hl60, hat61⟩ := Slots.get ho (i := 2) (by first | omega | (simp only [List.length_append, be_length, List.length_cons, List.length_nil] at *; omega))
  refine of_op (wpOp_index hE56 (t := 22) (A := A) (m := s.length) (q := 2) (d := 42) (by kernel_rfl) (e := 5) (size := 1) (bytes := 1) (j := 2) (by kernel_rfl) hA59 rfl (by first | omega | (simp only [List.length_append, be_length, List.length_cons, List.length_nil] at *; omega)) fun a62 hE63 => ?_)
  clear hE56
  refine of_op (wpOp_load hE63 (t := 5) (b := b57) (o := o58 + 2 * 1) (d := 43) (by kernel_rfl) (cs := [.int .u8 ((s.getD 2 0).toNat : Int)]) (v := .int .u8 ((s.getD 2 0).toNat : Int)) (by kernel_rfl) (AtF.move hat61 hW.step nilM keepF).at_ fun a64 hE65 => ?_)
  clear hE63
  refine go_rn [4, 5, 6, 7, 8] [] [(0, .v (.slice A s.length c)), (4, .v (.int .u32 (IntKind.u32.wrap (BitVec.ofInt 32 (IntKind.u32.wrap (BitVec.ofInt 32 (IntKind.u32.wrap (IntKind.u8.wrap (BitVec.ofInt 8 ((s.getD 0 0).toNat : Int) &&& BitVec.ofInt 8 127).toNat)) ||| BitVec.ofInt 32 (IntKind.u32.wrap ((IntKind.u32.wrap (IntKind.u8.wrap (BitVec.ofInt 8 ((s.getD 1 0).toNat : Int) &&& BitVec.ofInt 8 127).toNat)) * 128))).toNat) ||| BitVec.ofInt 32 (IntKind.u32.wrap ((IntKind.u32.wrap (IntKind.u8.wrap (BitVec.ofInt 8 ((s.getD 2 0).toNat : Int) &&& BitVec.ofInt 8 127).toNat)) * 16384))).toNat)))] hW hE65 fun a66 hE67 => ?_
  clear hE65
  refine wpOps_nil ?_
  refine then_normal ?_
  refine wp_seq ?_
  refine go_seq_region [0, 1, 2, 3, 4] (by kernel_rfl) ?_
  refine go_rn [0] [1, 2, 3, 4] [(0, .v (.slice A s.length c)), (4, .v (.int .u32 (IntKind.u32.wrap (BitVec.ofInt 32 (IntKind.u32.wrap (BitVec.ofInt 32 (IntKind.u32.wrap (IntKind.u8.wrap (BitVec.ofInt 8 ((s.getD 0 0).toNat : Int) &&& BitVec.ofInt 8 127).toNat)) ||| BitVec.ofInt 32 (IntKind.u32.wrap ((IntKind.u32.wrap (IntKind.u8.wrap (BitVec.ofInt 8 ((s.getD 1 0).toNat : Int) &&& BitVec.ofInt 8 127).toNat)) * 128))).toNat) ||| BitVec.ofInt 32 (IntKind.u32.wrap ((IntKind.u32.wrap (IntKind.u8.wrap (BitVec.ofInt 8 ((s.getD 2 0).toNat : Int) &&& BitVec.ofInt 8 127).toNat)) * 16384))).toNat))), (48, .v (.slice A s.length c))] hW hE67 fun a68 hE69 => ?_
  clear hE67
  refine of_op (wpOp_index hE69 (t := 22) (A := A) (m := s.length) (q := 2) (d := 49) (by kernel_rfl) (e := 5) (size := 1) (bytes := 1) (j := 2) (by kernel_rfl) hA59 rfl (by first | omega | (simp only [List.length_append, be_length, List.length_cons, List.length_nil] at *; omega)) fun a70 hE71 => ?_)
  clear hE69
  refine of_op (wpOp_load hE71 (t := 5) (b := b57) (o := o58 + 2 * 1) (d := 50) (by kernel_rfl) (cs := [.int .u8 ((s.getD 2 0).toNat : Int)]) (v := .int .u8 ((s.getD 2 0).toNat : Int)) (by kernel_rfl) (AtF.move hat61 hW.step nilM keepF).at_ fun a72 hE73 => ?_)
  clear hE71
  refine go_rn [3, 4] [] [(0, .v (.slice A s.length c)), (4, .v (.int .u32 (IntKind.u32.wrap (BitVec.ofInt 32 (IntKind.u32.wrap (BitVec.ofInt 32 (IntKind.u32.wrap (IntKind.u8.wrap (BitVec.ofInt 8 ((s.getD 0 0).toNat : Int) &&& BitVec.ofInt 8 127).toNat)) ||| BitVec.ofInt 32 (IntKind.u32.wrap ((IntKind.u32.wrap (IntKind.u8.wrap (BitVec.ofInt 8 ((s.getD 1 0).toNat : Int) &&& BitVec.ofInt 8 127).toNat)) * 128))).toNat) ||| BitVec.ofInt 32 (IntKind.u32.wrap ((IntKind.u32.wrap (IntKind.u8.wrap (BitVec.ofInt 8 ((s.getD 2 0).toNat : Int) &&& BitVec.ofInt 8 127).toNat)) * 16384))).toNat))), (52, .v (.bool ((IntKind.u8.wrap (BitVec.ofInt 8 ((s.getD 2 0).toNat : Int) &&& BitVec.ofInt 8 128).toNat) == 0)))] hW hE73 fun a74 hE75 => ?_
  clear hE73
  refine wpOps_nil ?_
  refine then_normal ?_
  refine cond_false hE75 (b := (IntKind.u8.wrap (BitVec.ofInt 8 ((s.getD 2 0).toNat : Int) &&& BitVec.ofInt 8 128).toNat) == 0) (by kernel_rfl) ((and128 _ (oc_lt s 2)).trans (decide_eq_false (by have := h2; unfold oc at this; omega))) ?_
  refine go_sp [(0, .v (.slice A s.length c)), (4, .v (.int .u32 (IntKind.u32.wrap (BitVec.ofInt 32 (IntKind.u32.wrap (BitVec.ofInt 32 (IntKind.u32.wrap (IntKind.u8.wrap (BitVec.ofInt 8 ((s.getD 0 0).toNat : Int) &&& BitVec.ofInt 8 127).toNat)) ||| BitVec.ofInt 32 (IntKind.u32.wrap ((IntKind.u32.wrap (IntKind.u8.wrap (BitVec.ofInt 8 ((s.getD 1 0).toNat : Int) &&& BitVec.ofInt 8 127).toNat)) * 128))).toNat) ||| BitVec.ofInt 32 (IntKind.u32.wrap ((IntKind.u32.wrap (IntKind.u8.wrap (BitVec.ofInt 8 ((s.getD 2 0).toNat : Int) &&& BitVec.ofInt 8 127).toNat)) * 16384))).toNat))), (56, .v (.bool (decide (((s.length : Nat) : Int) < 4))))] hW hE75 fun a76 hE77 => ?_
  clear hE75
  refine cond_false hE77 (b := decide (((s.length : Nat) : Int) < 4)) (by kernel_rfl) (decide_eq_false (by omega)) ?_
  refine wp_skip ?_
  refine then_normal ?_
  refine go_seq_region [0, 1, 2, 3, 4, 5, 6, 7, 8] (by kernel_rfl) ?_
  refine go_rn [0, 1] [2, 3, 4, 5, 6, 7, 8] [(0, .v (.slice A s.length c)), (57, .v (.int .u32 (IntKind.u32.wrap (BitVec.ofInt 32 (IntKind.u32.wrap (BitVec.ofInt 32 (IntKind.u32.wrap (IntKind.u8.wrap (BitVec.ofInt 8 ((s.getD 0 0).toNat : Int) &&& BitVec.ofInt 8 127).toNat)) ||| BitVec.ofInt 32 (IntKind.u32.wrap ((IntKind.u32.wrap (IntKind.u8.wrap (BitVec.ofInt 8 ((s.getD 1 0).toNat : Int) &&& BitVec.ofInt 8 127).toNat)) * 128))).toNat) ||| BitVec.ofInt 32 (IntKind.u32.wrap ((IntKind.u32.wrap (IntKind.u8.wrap (BitVec.ofInt 8 ((s.getD 2 0).toNat : Int) &&& BitVec.ofInt 8 127).toNat)) * 16384))).toNat))), (58, .v (.slice A s.length c))] hW hE77 fun a78 hE79 => ?_
  clear hE77
  obtain ⟨b80, o81, hA82, hl83, hat84⟩ := Slots.get ho (i := 3) (by first | omega | (simp only [List.length_append, be_length, List.length_cons, List.length_nil] at *; omega))
  refine of_op (wpOp_index hE79 (t := 22) (A := A) (m := s.length) (q := 3) (d := 59) (by kernel_rfl) (e := 5) (size := 1) (bytes := 1) (j := 3) (by kernel_rfl) hA82 rfl (by first | omega | (simp only [List.length_append, be_length, List.length_cons, List.length_nil] at *; omega)) fun a85 hE86 => ?_)
  clear hE79
  refine of_op (wpOp_load hE86 (t := 5) (b := b80) (o := o81 + 3 * 1) (d := 60) (by kernel_rfl) (cs := [.int .u8 ((s.getD 3 0).toNat : Int)]) (v := .int .u8 ((s.getD 3 0).toNat : Int)) (by kernel_rfl) (AtF.move hat84 hW.step nilM keepF).at_ fun a87 hE88 => ?_)
  clear hE86
  refine go_rn [4, 5, 6, 7, 8] [] [(0, .v (.slice A s.length c)), (4, .v (.int .u32 (IntKind.u32.wrap (BitVec.ofInt 32 (IntKind.u32.wrap (BitVec.ofInt 32 (IntKind.u32.wrap (BitVec.ofInt 32 (IntKind.u32.wrap (IntKind.u8.wrap (BitVec.ofInt 8 ((s.getD 0 0).toNat : Int) &&& BitVec.ofInt 8 127).toNat)) ||| BitVec.ofInt 32 (IntKind.u32.wrap ((IntKind.u32.wrap (IntKind.u8.wrap (BitVec.ofInt 8 ((s.getD 1 0).toNat : Int) &&& BitVec.ofInt 8 127).toNat)) * 128))).toNat) ||| BitVec.ofInt 32 (IntKind.u32.wrap ((IntKind.u32.wrap (IntKind.u8.wrap (BitVec.ofInt 8 ((s.getD 2 0).toNat : Int) &&& BitVec.ofInt 8 127).toNat)) * 16384))).toNat) ||| BitVec.ofInt 32 (IntKind.u32.wrap ((IntKind.u32.wrap (IntKind.u8.wrap (BitVec.ofInt 8 ((s.getD 3 0).toNat : Int) &&& BitVec.ofInt 8 127).toNat)) * 2097152))).toNat)))] hW hE88 fun a89 hE90 => ?_
  clear hE88
  refine wpOps_nil ?_
  refine then_normal ?_
  refine wp_seq ?_
  refine go_seq_region [0, 1, 2, 3, 4] (by kernel_rfl) ?_
  refine go_rn [0] [1, 2, 3, 4] [(0, .v (.slice A s.length c)), (4, .v (.int .u32 (IntKind.u32.wrap (BitVec.ofInt 32 (IntKind.u32.wrap (BitVec.ofInt 32 (IntKind.u32.wrap (BitVec.ofInt 32 (IntKind.u32.wrap (IntKind.u8.wrap (BitVec.ofInt 8 ((s.getD 0 0).toNat : Int) &&& BitVec.ofInt 8 127).toNat)) ||| BitVec.ofInt 32 (IntKind.u32.wrap ((IntKind.u32.wrap (IntKind.u8.wrap (BitVec.ofInt 8 ((s.getD 1 0).toNat : Int) &&& BitVec.ofInt 8 127).toNat)) * 128))).toNat) ||| BitVec.ofInt 32 (IntKind.u32.wrap ((IntKind.u32.wrap (IntKind.u8.wrap (BitVec.ofInt 8 ((s.getD 2 0).toNat : Int) &&& BitVec.ofInt 8 127).toNat)) * 16384))).toNat) ||| BitVec.ofInt 32 (IntKind.u32.wrap ((IntKind.u32.wrap (IntKind.u8.wrap (BitVec.ofInt 8 ((s.getD 3 0).toNat : Int) &&& BitVec.ofInt 8 127).toNat)) * 2097152))).toNat))), (65, .v (.slice A s.length c))] hW hE90 fun a91 hE92 => ?_
  clear hE90
  refine of_op (wpOp_index hE92 (t := 22) (A := A) (m := s.length) (q := 3) (d := 66) (by kernel_rfl) (e := 5) (size := 1) (bytes := 1) (j := 3) (by kernel_rfl) hA82 rfl (by first | omega | (simp only [List.length_append, be_length, List.length_cons, List.length_nil] at *; omega)) fun a93 hE94 => ?_)
  clear hE92
  refine of_op (wpOp_load hE94 (t := 5) (b := b80) (o := o81 + 3 * 1) (d := 67) (by kernel_rfl) (cs := [.int .u8 ((s.getD 3 0).toNat : Int)]) (v := .int .u8 ((s.getD 3 0).toNat : Int)) (by kernel_rfl) (AtF.move hat84 hW.step nilM keepF).at_ fun a95 hE96 => ?_)
  clear hE94
  refine go_rn [3, 4] [] [(0, .v (.slice A s.length c)), (4, .v (.int .u32 (IntKind.u32.wrap (BitVec.ofInt 32 (IntKind.u32.wrap (BitVec.ofInt 32 (IntKind.u32.wrap (BitVec.ofInt 32 (IntKind.u32.wrap (IntKind.u8.wrap (BitVec.ofInt 8 ((s.getD 0 0).toNat : Int) &&& BitVec.ofInt 8 127).toNat)) ||| BitVec.ofInt 32 (IntKind.u32.wrap ((IntKind.u32.wrap (IntKind.u8.wrap (BitVec.ofInt 8 ((s.getD 1 0).toNat : Int) &&& BitVec.ofInt 8 127).toNat)) * 128))).toNat) ||| BitVec.ofInt 32 (IntKind.u32.wrap ((IntKind.u32.wrap (IntKind.u8.wrap (BitVec.ofInt 8 ((s.getD 2 0).toNat : Int) &&& BitVec.ofInt 8 127).toNat)) * 16384))).toNat) ||| BitVec.ofInt 32 (IntKind.u32.wrap ((IntKind.u32.wrap (IntKind.u8.wrap (BitVec.ofInt 8 ((s.getD 3 0).toNat : Int) &&& BitVec.ofInt 8 127).toNat)) * 2097152))).toNat))), (69, .v (.bool ((IntKind.u8.wrap (BitVec.ofInt 8 ((s.getD 3 0).toNat : Int) &&& BitVec.ofInt 8 128).toNat) == 0)))] hW hE96 fun a97 hE98 => ?_
  clear hE96
  refine wpOps_nil ?_
  refine then_normal ?_
  refine cond_true hE98 (b := (IntKind.u8.wrap (BitVec.ofInt 8 ((s.getD 3 0).toNat : Int) &&& BitVec.ofInt 8 128).toNat) == 0) (by kernel_rfl) ((and128 _ (oc_lt s 3)).trans (decide_eq_true (by have := h3; unfold oc at this; omega))) ?_
  refine go_sp [(2, .v (.int .u32 (IntKind.u32.wrap (BitVec.ofInt 32 (IntKind.u32.wrap (BitVec.ofInt 32 (IntKind.u32.wrap (BitVec.ofInt 32 (IntKind.u32.wrap (IntKind.u8.wrap (BitVec.ofInt 8 ((s.getD 0 0).toNat : Int) &&& BitVec.ofInt 8 127).toNat)) ||| BitVec.ofInt 32 (IntKind.u32.wrap ((IntKind.u32.wrap (IntKind.u8.wrap (BitVec.ofInt 8 ((s.getD 1 0).toNat : Int) &&& BitVec.ofInt 8 127).toNat)) * 128))).toNat) ||| BitVec.ofInt 32 (IntKind.u32.wrap ((IntKind.u32.wrap (IntKind.u8.wrap (BitVec.ofInt 8 ((s.getD 2 0).toNat : Int) &&& BitVec.ofInt 8 127).toNat)) * 16384))).toNat) ||| BitVec.ofInt 32 (IntKind.u32.wrap ((IntKind.u32.wrap (IntKind.u8.wrap (BitVec.ofInt 8 ((s.getD 3 0).toNat : Int) &&& BitVec.ofInt 8 127).toNat)) * 2097152))).toNat))), (3, .v (.int .i64 4))] hW hE98 fun a99 hE100 => ?_
  clear hE98
  refine wp_ret ?_
  refine then_ret ?_
  refine scope_ret ?_
  refine leave hE100 hW.cells (v := .tuple #[.int .u32 (IntKind.u32.wrap (BitVec.ofInt 32 (IntKind.u32.wrap (BitVec.ofInt 32 (IntKind.u32.wrap (BitVec.ofInt 32 (IntKind.u32.wrap (IntKind.u8.wrap (BitVec.ofInt 8 ((s.getD 0 0).toNat : Int) &&& BitVec.ofInt 8 127).toNat)) ||| BitVec.ofInt 32 (IntKind.u32.wrap ((IntKind.u32.wrap (IntKind.u8.wrap (BitVec.ofInt 8 ((s.getD 1 0).toNat : Int) &&& BitVec.ofInt 8 127).toNat)) * 128))).toNat) ||| BitVec.ofInt 32 (IntKind.u32.wrap ((IntKind.u32.wrap (IntKind.u8.wrap (BitVec.ofInt 8 ((s.getD 2 0).toNat : Int) &&& BitVec.ofInt 8 127).toNat)) * 16384))).toNat) ||| BitVec.ofInt 32 (IntKind.u32.wrap ((IntKind.u32.wrap (IntKind.u8.wrap (BitVec.ofInt 8 ((s.getD 3 0).toNat : Int) &&& BitVec.ofInt 8 127).toNat)) * 2097152))).toNat), .int .i64 4]) (by kernel_rfl) ?_
  have e_ := uv_4 (oc s 0) (oc s 1) (oc s 2) (oc s 3) (oc_lt s 0) (oc_lt s 1) (oc_lt s 2) (oc_lt s 3)
  refine ⟨congrArg (fun z_ : Int => Ending.returned (.tuple #[.int .u32 z_, .int .i64 4])) (Eq.trans e_ ?_), hW.step⟩
  omega

theorem rUv5 {A : Option Addr} {c : Nat} (s : Bs) {w : World} {F : Nat → Nat → Prop} (ho : Octs w F A c s) (hl : 5 ≤ s.length) (d0 d1 d2 d3 d4 : Nat) (h0 : oc s 0 = d0 + 128) (h1 : oc s 1 = d1 + 128) (h2 : oc s 2 = d2 + 128) (h3 : oc s 3 = d3 + 128) (h4 : oc s 4 = d4) (g0 : d0 < 128) (g1 : d1 < 128) (g2 : d2 < 128) (g3 : d3 < 128) (g4 : d4 < 16) :
    Calls Tryz.prog 195 #[.slice A s.length c] w (Gives w (.tuple #[.int .u32 ((d0 + d1 * 128 + d2 * 16384 + d3 * 2097152 + d4 * 268435456 : Nat) : Int), .int .i64 5])) := by
  refine enter (n := 87) Tryz.func195 rfl Tryz.ntmps195 (by kernel_rfl) fun a hE => ?_
  have hW := WOk.start w Nil
  refine go_sp [(0, .v (.slice A s.length c))] hW hE fun a1 hE2 => ?_
  clear hE
  refine wp_scope_straight ?_
  refine go_sp [(0, .v (.slice A s.length c))] hW hE2 fun a3 hE4 => ?_
  clear hE2
  refine go_sp [(0, .v (.slice A s.length c))] hW hE4 fun a5 hE6 => ?_
  clear hE4
  refine wp_seq ?_
  refine go_sp [(0, .v (.slice A s.length c)), (8, .v (.bool (decide (((s.length : Nat) : Int) < 1))))] hW hE6 fun a7 hE8 => ?_
  clear hE6
  refine cond_false hE8 (b := decide (((s.length : Nat) : Int) < 1)) (by kernel_rfl) (decide_eq_false (by omega)) ?_
  refine wp_skip ?_
  refine then_normal ?_
  refine go_seq_region [0, 1, 2, 3, 4, 5] (by kernel_rfl) ?_
  refine go_rn [0] [1, 2, 3, 4, 5] [(0, .v (.slice A s.length c)), (9, .v (.slice A s.length c))] hW hE8 fun a9 hE10 => ?_
  clear hE8
  obtain ⟨b11, o12, hA13, hl14, hat15⟩ := Slots.get ho (i := 0) (by first | omega | (simp only [List.length_append, be_length, List.length_cons, List.length_nil] at *; omega))
  refine of_op (wpOp_index hE10 (t := 22) (A := A) (m := s.length) (q := 0) (d := 10) (by kernel_rfl) (e := 5) (size := 1) (bytes := 1) (j := 0) (by kernel_rfl) hA13 rfl (by first | omega | (simp only [List.length_append, be_length, List.length_cons, List.length_nil] at *; omega)) fun a16 hE17 => ?_)
  clear hE10
  refine of_op (wpOp_load hE17 (t := 5) (b := b11) (o := o12 + 0 * 1) (d := 11) (by kernel_rfl) (cs := [.int .u8 ((s.getD 0 0).toNat : Int)]) (v := .int .u8 ((s.getD 0 0).toNat : Int)) (by kernel_rfl) (AtF.move hat15 hW.step nilM keepF).at_ fun a18 hE19 => ?_)
  clear hE17
  refine go_rn [3, 4, 5] [] [(0, .v (.slice A s.length c)), (4, .v (.int .u32 (IntKind.u32.wrap (IntKind.u8.wrap (BitVec.ofInt 8 ((s.getD 0 0).toNat : Int) &&& BitVec.ofInt 8 127).toNat))))] hW hE19 fun a20 hE21 => ?_
  clear hE19
  refine wpOps_nil ?_
  refine then_normal ?_
  refine wp_seq ?_
  refine go_seq_region [0, 1, 2, 3, 4] (by kernel_rfl) ?_
  refine go_rn [0] [1, 2, 3, 4] [(0, .v (.slice A s.length c)), (4, .v (.int .u32 (IntKind.u32.wrap (IntKind.u8.wrap (BitVec.ofInt 8 ((s.getD 0 0).toNat : Int) &&& BitVec.ofInt 8 127).toNat)))), (14, .v (.slice A s.length c))] hW hE21 fun a22 hE23 => ?_
  clear hE21
  refine of_op (wpOp_index hE23 (t := 22) (A := A) (m := s.length) (q := 0) (d := 15) (by kernel_rfl) (e := 5) (size := 1) (bytes := 1) (j := 0) (by kernel_rfl) hA13 rfl (by first | omega | (simp only [List.length_append, be_length, List.length_cons, List.length_nil] at *; omega)) fun a24 hE25 => ?_)
  clear hE23
  refine of_op (wpOp_load hE25 (t := 5) (b := b11) (o := o12 + 0 * 1) (d := 16) (by kernel_rfl) (cs := [.int .u8 ((s.getD 0 0).toNat : Int)]) (v := .int .u8 ((s.getD 0 0).toNat : Int)) (by kernel_rfl) (AtF.move hat15 hW.step nilM keepF).at_ fun a26 hE27 => ?_)
  clear hE25
  refine go_rn [3, 4] [] [(0, .v (.slice A s.length c)), (4, .v (.int .u32 (IntKind.u32.wrap (IntKind.u8.wrap (BitVec.ofInt 8 ((s.getD 0 0).toNat : Int) &&& BitVec.ofInt 8 127).toNat)))), (18, .v (.bool ((IntKind.u8.wrap (BitVec.ofInt 8 ((s.getD 0 0).toNat : Int) &&& BitVec.ofInt 8 128).toNat) == 0)))] hW hE27 fun a28 hE29 => ?_
  clear hE27
  refine wpOps_nil ?_
  refine then_normal ?_
  refine cond_false hE29 (b := (IntKind.u8.wrap (BitVec.ofInt 8 ((s.getD 0 0).toNat : Int) &&& BitVec.ofInt 8 128).toNat) == 0) (by kernel_rfl) ((and128 _ (oc_lt s 0)).trans (decide_eq_false (by have := h0; unfold oc at this; omega))) ?_
  refine go_sp [(0, .v (.slice A s.length c)), (4, .v (.int .u32 (IntKind.u32.wrap (IntKind.u8.wrap (BitVec.ofInt 8 ((s.getD 0 0).toNat : Int) &&& BitVec.ofInt 8 127).toNat)))), (22, .v (.bool (decide (((s.length : Nat) : Int) < 2))))] hW hE29 fun a30 hE31 => ?_
  clear hE29
  refine cond_false hE31 (b := decide (((s.length : Nat) : Int) < 2)) (by kernel_rfl) (decide_eq_false (by omega)) ?_
  refine wp_skip ?_
  refine then_normal ?_
  refine go_seq_region [0, 1, 2, 3, 4, 5, 6, 7, 8] (by kernel_rfl) ?_
  refine go_rn [0, 1] [2, 3, 4, 5, 6, 7, 8] [(0, .v (.slice A s.length c)), (23, .v (.int .u32 (IntKind.u32.wrap (IntKind.u8.wrap (BitVec.ofInt 8 ((s.getD 0 0).toNat : Int) &&& BitVec.ofInt 8 127).toNat)))), (24, .v (.slice A s.length c))] hW hE31 fun a32 hE33 => ?_
  clear hE31
  obtain ⟨b34, o35, hA36, hl37, hat38⟩ := Slots.get ho (i := 1) (by first | omega | (simp only [List.length_append, be_length, List.length_cons, List.length_nil] at *; omega))
  refine of_op (wpOp_index hE33 (t := 22) (A := A) (m := s.length) (q := 1) (d := 25) (by kernel_rfl) (e := 5) (size := 1) (bytes := 1) (j := 1) (by kernel_rfl) hA36 rfl (by first | omega | (simp only [List.length_append, be_length, List.length_cons, List.length_nil] at *; omega)) fun a39 hE40 => ?_)
  clear hE33
  refine of_op (wpOp_load hE40 (t := 5) (b := b34) (o := o35 + 1 * 1) (d := 26) (by kernel_rfl) (cs := [.int .u8 ((s.getD 1 0).toNat : Int)]) (v := .int .u8 ((s.getD 1 0).toNat : Int)) (by kernel_rfl) (AtF.move hat38 hW.step nilM keepF).at_ fun a41 hE42 => ?_)
  clear hE40
  refine go_rn [4, 5, 6, 7, 8] [] [(0, .v (.slice A s.length c)), (4, .v (.int .u32 (IntKind.u32.wrap (BitVec.ofInt 32 (IntKind.u32.wrap (IntKind.u8.wrap (BitVec.ofInt 8 ((s.getD 0 0).toNat : Int) &&& BitVec.ofInt 8 127).toNat)) ||| BitVec.ofInt 32 (IntKind.u32.wrap ((IntKind.u32.wrap (IntKind.u8.wrap (BitVec.ofInt 8 ((s.getD 1 0).toNat : Int) &&& BitVec.ofInt 8 127).toNat)) * 128))).toNat)))] hW hE42 fun a43 hE44 => ?_
  clear hE42
  refine wpOps_nil ?_
  refine then_normal ?_
  refine wp_seq ?_
  refine go_seq_region [0, 1, 2, 3, 4] (by kernel_rfl) ?_
  refine go_rn [0] [1, 2, 3, 4] [(0, .v (.slice A s.length c)), (4, .v (.int .u32 (IntKind.u32.wrap (BitVec.ofInt 32 (IntKind.u32.wrap (IntKind.u8.wrap (BitVec.ofInt 8 ((s.getD 0 0).toNat : Int) &&& BitVec.ofInt 8 127).toNat)) ||| BitVec.ofInt 32 (IntKind.u32.wrap ((IntKind.u32.wrap (IntKind.u8.wrap (BitVec.ofInt 8 ((s.getD 1 0).toNat : Int) &&& BitVec.ofInt 8 127).toNat)) * 128))).toNat))), (31, .v (.slice A s.length c))] hW hE44 fun a45 hE46 => ?_
  clear hE44
  refine of_op (wpOp_index hE46 (t := 22) (A := A) (m := s.length) (q := 1) (d := 32) (by kernel_rfl) (e := 5) (size := 1) (bytes := 1) (j := 1) (by kernel_rfl) hA36 rfl (by first | omega | (simp only [List.length_append, be_length, List.length_cons, List.length_nil] at *; omega)) fun a47 hE48 => ?_)
  clear hE46
  refine of_op (wpOp_load hE48 (t := 5) (b := b34) (o := o35 + 1 * 1) (d := 33) (by kernel_rfl) (cs := [.int .u8 ((s.getD 1 0).toNat : Int)]) (v := .int .u8 ((s.getD 1 0).toNat : Int)) (by kernel_rfl) (AtF.move hat38 hW.step nilM keepF).at_ fun a49 hE50 => ?_)
  clear hE48
  refine go_rn [3, 4] [] [(0, .v (.slice A s.length c)), (4, .v (.int .u32 (IntKind.u32.wrap (BitVec.ofInt 32 (IntKind.u32.wrap (IntKind.u8.wrap (BitVec.ofInt 8 ((s.getD 0 0).toNat : Int) &&& BitVec.ofInt 8 127).toNat)) ||| BitVec.ofInt 32 (IntKind.u32.wrap ((IntKind.u32.wrap (IntKind.u8.wrap (BitVec.ofInt 8 ((s.getD 1 0).toNat : Int) &&& BitVec.ofInt 8 127).toNat)) * 128))).toNat))), (35, .v (.bool ((IntKind.u8.wrap (BitVec.ofInt 8 ((s.getD 1 0).toNat : Int) &&& BitVec.ofInt 8 128).toNat) == 0)))] hW hE50 fun a51 hE52 => ?_
  clear hE50
  refine wpOps_nil ?_
  refine then_normal ?_
  refine cond_false hE52 (b := (IntKind.u8.wrap (BitVec.ofInt 8 ((s.getD 1 0).toNat : Int) &&& BitVec.ofInt 8 128).toNat) == 0) (by kernel_rfl) ((and128 _ (oc_lt s 1)).trans (decide_eq_false (by have := h1; unfold oc at this; omega))) ?_
  refine go_sp [(0, .v (.slice A s.length c)), (4, .v (.int .u32 (IntKind.u32.wrap (BitVec.ofInt 32 (IntKind.u32.wrap (IntKind.u8.wrap (BitVec.ofInt 8 ((s.getD 0 0).toNat : Int) &&& BitVec.ofInt 8 127).toNat)) ||| BitVec.ofInt 32 (IntKind.u32.wrap ((IntKind.u32.wrap (IntKind.u8.wrap (BitVec.ofInt 8 ((s.getD 1 0).toNat : Int) &&& BitVec.ofInt 8 127).toNat)) * 128))).toNat))), (39, .v (.bool (decide (((s.length : Nat) : Int) < 3))))] hW hE52 fun a53 hE54 => ?_
  clear hE52
  refine cond_false hE54 (b := decide (((s.length : Nat) : Int) < 3)) (by kernel_rfl) (decide_eq_false (by omega)) ?_
  refine wp_skip ?_
  refine then_normal ?_
  refine go_seq_region [0, 1, 2, 3, 4, 5, 6, 7, 8] (by kernel_rfl) ?_
  refine go_rn [0, 1] [2, 3, 4, 5, 6, 7, 8] [(0, .v (.slice A s.length c)), (40, .v (.int .u32 (IntKind.u32.wrap (BitVec.ofInt 32 (IntKind.u32.wrap (IntKind.u8.wrap (BitVec.ofInt 8 ((s.getD 0 0).toNat : Int) &&& BitVec.ofInt 8 127).toNat)) ||| BitVec.ofInt 32 (IntKind.u32.wrap ((IntKind.u32.wrap (IntKind.u8.wrap (BitVec.ofInt 8 ((s.getD 1 0).toNat : Int) &&& BitVec.ofInt 8 127).toNat)) * 128))).toNat))), (41, .v (.slice A s.length c))] hW hE54 fun a55 hE56 => ?_
  clear hE54
  obtain ⟨b57, o58, hA59, hl60, hat61⟩ := Slots.get ho (i := 2) (by first | omega | (simp only [List.length_append, be_length, List.length_cons, List.length_nil] at *; omega))
  refine of_op (wpOp_index hE56 (t := 22) (A := A) (m := s.length) (q := 2) (d := 42) (by kernel_rfl) (e := 5) (size := 1) (bytes := 1) (j := 2) (by kernel_rfl) hA59 rfl (by first | omega | (simp only [List.length_append, be_length, List.length_cons, List.length_nil] at *; omega)) fun a62 hE63 => ?_)
  clear hE56
  refine of_op (wpOp_load hE63 (t := 5) (b := b57) (o := o58 + 2 * 1) (d := 43) (by kernel_rfl) (cs := [.int .u8 ((s.getD 2 0).toNat : Int)]) (v := .int .u8 ((s.getD 2 0).toNat : Int)) (by kernel_rfl) (AtF.move hat61 hW.step nilM keepF).at_ fun a64 hE65 => ?_)
  clear hE63
  refine go_rn [4, 5, 6, 7, 8] [] [(0, .v (.slice A s.length c)), (4, .v (.int .u32 (IntKind.u32.wrap (BitVec.ofInt 32 (IntKind.u32.wrap (BitVec.ofInt 32 (IntKind.u32.wrap (IntKind.u8.wrap (BitVec.ofInt 8 ((s.getD 0 0).toNat : Int) &&& BitVec.ofInt 8 127).toNat)) ||| BitVec.ofInt 32 (IntKind.u32.wrap ((IntKind.u32.wrap (IntKind.u8.wrap (BitVec.ofInt 8 ((s.getD 1 0).toNat : Int) &&& BitVec.ofInt 8 127).toNat)) * 128))).toNat) ||| BitVec.ofInt 32 (IntKind.u32.wrap ((IntKind.u32.wrap (IntKind.u8.wrap (BitVec.ofInt 8 ((s.getD 2 0).toNat : Int) &&& BitVec.ofInt 8 127).toNat)) * 16384))).toNat)))] hW hE65 fun a66 hE67 => ?_
  clear hE65
  refine wpOps_nil ?_
  refine then_normal ?_
  refine wp_seq ?_
  refine go_seq_region [0, 1, 2, 3, 4] (by kernel_rfl) ?_
  refine go_rn [0] [1, 2, 3, 4] [(0, .v (.slice A s.length c)), (4, .v (.int .u32 (IntKind.u32.wrap (BitVec.ofInt 32 (IntKind.u32.wrap (BitVec.ofInt 32 (IntKind.u32.wrap (IntKind.u8.wrap (BitVec.ofInt 8 ((s.getD 0 0).toNat : Int) &&& BitVec.ofInt 8 127).toNat)) ||| BitVec.ofInt 32 (IntKind.u32.wrap ((IntKind.u32.wrap (IntKind.u8.wrap (BitVec.ofInt 8 ((s.getD 1 0).toNat : Int) &&& BitVec.ofInt 8 127).toNat)) * 128))).toNat) ||| BitVec.ofInt 32 (IntKind.u32.wrap ((IntKind.u32.wrap (IntKind.u8.wrap (BitVec.ofInt 8 ((s.getD 2 0).toNat : Int) &&& BitVec.ofInt 8 127).toNat)) * 16384))).toNat))), (48, .v (.slice A s.length c))] hW hE67 fun a68 hE69 => ?_
  clear hE67
  refine of_op (wpOp_index hE69 (t := 22) (A := A) (m := s.length) (q := 2) (d := 49) (by kernel_rfl) (e := 5) (size := 1) (bytes := 1) (j := 2) (by kernel_rfl) hA59 rfl (by first | omega | (simp only [List.length_append, be_length, List.length_cons, List.length_nil] at *; omega)) fun a70 hE71 => ?_)
  clear hE69
  refine of_op (wpOp_load hE71 (t := 5) (b := b57) (o := o58 + 2 * 1) (d := 50) (by kernel_rfl) (cs := [.int .u8 ((s.getD 2 0).toNat : Int)]) (v := .int .u8 ((s.getD 2 0).toNat : Int)) (by kernel_rfl) (AtF.move hat61 hW.step nilM keepF).at_ fun a72 hE73 => ?_)
  clear hE71
  refine go_rn [3, 4] [] [(0, .v (.slice A s.length c)), (4, .v (.int .u32 (IntKind.u32.wrap (BitVec.ofInt 32 (IntKind.u32.wrap (BitVec.ofInt 32 (IntKind.u32.wrap (IntKind.u8.wrap (BitVec.ofInt 8 ((s.getD 0 0).toNat : Int) &&& BitVec.ofInt 8 127).toNat)) ||| BitVec.ofInt 32 (IntKind.u32.wrap ((IntKind.u32.wrap (IntKind.u8.wrap (BitVec.ofInt 8 ((s.getD 1 0).toNat : Int) &&& BitVec.ofInt 8 127).toNat)) * 128))).toNat) ||| BitVec.ofInt 32 (IntKind.u32.wrap ((IntKind.u32.wrap (IntKind.u8.wrap (BitVec.ofInt 8 ((s.getD 2 0).toNat : Int) &&& BitVec.ofInt 8 127).toNat)) * 16384))).toNat))), (52, .v (.bool ((IntKind.u8.wrap (BitVec.ofInt 8 ((s.getD 2 0).toNat : Int) &&& BitVec.ofInt 8 128).toNat) == 0)))] hW hE73 fun a74 hE75 => ?_
  clear hE73
  refine wpOps_nil ?_
  refine then_normal ?_
  refine cond_false hE75 (b := (IntKind.u8.wrap (BitVec.ofInt 8 ((s.getD 2 0).toNat : Int) &&& BitVec.ofInt 8 128).toNat) == 0) (by kernel_rfl) ((and128 _ (oc_lt s 2)).trans (decide_eq_false (by have := h2; unfold oc at this; omega))) ?_
  refine go_sp [(0, .v (.slice A s.length c)), (4, .v (.int .u32 (IntKind.u32.wrap (BitVec.ofInt 32 (IntKind.u32.wrap (BitVec.ofInt 32 (IntKind.u32.wrap (IntKind.u8.wrap (BitVec.ofInt 8 ((s.getD 0 0).toNat : Int) &&& BitVec.ofInt 8 127).toNat)) ||| BitVec.ofInt 32 (IntKind.u32.wrap ((IntKind.u32.wrap (IntKind.u8.wrap (BitVec.ofInt 8 ((s.getD 1 0).toNat : Int) &&& BitVec.ofInt 8 127).toNat)) * 128))).toNat) ||| BitVec.ofInt 32 (IntKind.u32.wrap ((IntKind.u32.wrap (IntKind.u8.wrap (BitVec.ofInt 8 ((s.getD 2 0).toNat : Int) &&& BitVec.ofInt 8 127).toNat)) * 16384))).toNat))), (56, .v (.bool (decide (((s.length : Nat) : Int) < 4))))] hW hE75 fun a76 hE77 => ?_
  clear hE75
  refine cond_false hE77 (b := decide (((s.length : Nat) : Int) < 4)) (by kernel_rfl) (decide_eq_false (by omega)) ?_
  refine wp_skip ?_
  refine then_normal ?_
  refine go_seq_region [0, 1, 2, 3, 4, 5, 6, 7, 8] (by kernel_rfl) ?_
  refine go_rn [0, 1] [2, 3, 4, 5, 6, 7, 8] [(0, .v (.slice A s.length c)), (57, .v (.int .u32 (IntKind.u32.wrap (BitVec.ofInt 32 (IntKind.u32.wrap (BitVec.ofInt 32 (IntKind.u32.wrap (IntKind.u8.wrap (BitVec.ofInt 8 ((s.getD 0 0).toNat : Int) &&& BitVec.ofInt 8 127).toNat)) ||| BitVec.ofInt 32 (IntKind.u32.wrap ((IntKind.u32.wrap (IntKind.u8.wrap (BitVec.ofInt 8 ((s.getD 1 0).toNat : Int) &&& BitVec.ofInt 8 127).toNat)) * 128))).toNat) ||| BitVec.ofInt 32 (IntKind.u32.wrap ((IntKind.u32.wrap (IntKind.u8.wrap (BitVec.ofInt 8 ((s.getD 2 0).toNat : Int) &&& BitVec.ofInt 8 127).toNat)) * 16384))).toNat))), (58, .v (.slice A s.length c))] hW hE77 fun a78 hE79 => ?_
  clear hE77
  obtain ⟨b80, o81, hA82, hl83, hat84⟩ := Slots.get ho (i := 3) (by first | omega | (simp only [List.length_append, be_length, List.length_cons, List.length_nil] at *; omega))
  refine of_op (wpOp_index hE79 (t := 22) (A := A) (m := s.length) (q := 3) (d := 59) (by kernel_rfl) (e := 5) (size := 1) (bytes := 1) (j := 3) (by kernel_rfl) hA82 rfl (by first | omega | (simp only [List.length_append, be_length, List.length_cons, List.length_nil] at *; omega)) fun a85 hE86 => ?_)
  clear hE79
  refine of_op (wpOp_load hE86 (t := 5) (b := b80) (o := o81 + 3 * 1) (d := 60) (by kernel_rfl) (cs := [.int .u8 ((s.getD 3 0).toNat : Int)]) (v := .int .u8 ((s.getD 3 0).toNat : Int)) (by kernel_rfl) (AtF.move hat84 hW.step nilM keepF).at_ fun a87 hE88 => ?_)
  clear hE86
  refine go_rn [4, 5, 6, 7, 8] [] [(0, .v (.slice A s.length c)), (4, .v (.int .u32 (IntKind.u32.wrap (BitVec.ofInt 32 (IntKind.u32.wrap (BitVec.ofInt 32 (IntKind.u32.wrap (BitVec.ofInt 32 (IntKind.u32.wrap (IntKind.u8.wrap (BitVec.ofInt 8 ((s.getD 0 0).toNat : Int) &&& BitVec.ofInt 8 127).toNat)) ||| BitVec.ofInt 32 (IntKind.u32.wrap ((IntKind.u32.wrap (IntKind.u8.wrap (BitVec.ofInt 8 ((s.getD 1 0).toNat : Int) &&& BitVec.ofInt 8 127).toNat)) * 128))).toNat) ||| BitVec.ofInt 32 (IntKind.u32.wrap ((IntKind.u32.wrap (IntKind.u8.wrap (BitVec.ofInt 8 ((s.getD 2 0).toNat : Int) &&& BitVec.ofInt 8 127).toNat)) * 16384))).toNat) ||| BitVec.ofInt 32 (IntKind.u32.wrap ((IntKind.u32.wrap (IntKind.u8.wrap (BitVec.ofInt 8 ((s.getD 3 0).toNat : Int) &&& BitVec.ofInt 8 127).toNat)) * 2097152))).toNat)))] hW hE88 fun a89 hE90 => ?_
  clear hE88
  refine wpOps_nil ?_
  refine then_normal ?_
  refine wp_seq ?_
  refine go_seq_region [0, 1, 2, 3, 4] (by kernel_rfl) ?_
  refine go_rn [0] [1, 2, 3, 4] [(0, .v (.slice A s.length c)), (4, .v (.int .u32 (IntKind.u32.wrap (BitVec.ofInt 32 (IntKind.u32.wrap (BitVec.ofInt 32 (IntKind.u32.wrap (BitVec.ofInt 32 (IntKind.u32.wrap (IntKind.u8.wrap (BitVec.ofInt 8 ((s.getD 0 0).toNat : Int) &&& BitVec.ofInt 8 127).toNat)) ||| BitVec.ofInt 32 (IntKind.u32.wrap ((IntKind.u32.wrap (IntKind.u8.wrap (BitVec.ofInt 8 ((s.getD 1 0).toNat : Int) &&& BitVec.ofInt 8 127).toNat)) * 128))).toNat) ||| BitVec.ofInt 32 (IntKind.u32.wrap ((IntKind.u32.wrap (IntKind.u8.wrap (BitVec.ofInt 8 ((s.getD 2 0).toNat : Int) &&& BitVec.ofInt 8 127).toNat)) * 16384))).toNat) ||| BitVec.ofInt 32 (IntKind.u32.wrap ((IntKind.u32.wrap (IntKind.u8.wrap (BitVec.ofInt 8 ((s.getD 3 0).toNat : Int) &&& BitVec.ofInt 8 127).toNat)) * 2097152))).toNat))), (65, .v (.slice A s.length c))] hW hE90 fun a91 hE92 => ?_
  clear hE90
  refine of_op (wpOp_index hE92 (t := 22) (A := A) (m := s.length) (q := 3) (d := 66) (by kernel_rfl) (e := 5) (size := 1) (bytes := 1) (j := 3) (by kernel_rfl) hA82 rfl (by first | omega | (simp only [List.length_append, be_length, List.length_cons, List.length_nil] at *; omega)) fun a93 hE94 => ?_)
  clear hE92
  refine of_op (wpOp_load hE94 (t := 5) (b := b80) (o := o81 + 3 * 1) (d := 67) (by kernel_rfl) (cs := [.int .u8 ((s.getD 3 0).toNat : Int)]) (v := .int .u8 ((s.getD 3 0).toNat : Int)) (by kernel_rfl) (AtF.move hat84 hW.step nilM keepF).at_ fun a95 hE96 => ?_)
  clear hE94
  refine go_rn [3, 4] [] [(0, .v (.slice A s.length c)), (4, .v (.int .u32 (IntKind.u32.wrap (BitVec.ofInt 32 (IntKind.u32.wrap (BitVec.ofInt 32 (IntKind.u32.wrap (BitVec.ofInt 32 (IntKind.u32.wrap (IntKind.u8.wrap (BitVec.ofInt 8 ((s.getD 0 0).toNat : Int) &&& BitVec.ofInt 8 127).toNat)) ||| BitVec.ofInt 32 (IntKind.u32.wrap ((IntKind.u32.wrap (IntKind.u8.wrap (BitVec.ofInt 8 ((s.getD 1 0).toNat : Int) &&& BitVec.ofInt 8 127).toNat)) * 128))).toNat) ||| BitVec.ofInt 32 (IntKind.u32.wrap ((IntKind.u32.wrap (IntKind.u8.wrap (BitVec.ofInt 8 ((s.getD 2 0).toNat : Int) &&& BitVec.ofInt 8 127).toNat)) * 16384))).toNat) ||| BitVec.ofInt 32 (IntKind.u32.wrap ((IntKind.u32.wrap (IntKind.u8.wrap (BitVec.ofInt 8 ((s.getD 3 0).toNat : Int) &&& BitVec.ofInt 8 127).toNat)) * 2097152))).toNat))), (69, .v (.bool ((IntKind.u8.wrap (BitVec.ofInt 8 ((s.getD 3 0).toNat : Int) &&& BitVec.ofInt 8 128).toNat) == 0)))] hW hE96 fun a97 hE98 => ?_
  clear hE96
  refine wpOps_nil ?_
  refine then_normal ?_
  refine cond_false hE98 (b := (IntKind.u8.wrap (BitVec.ofInt 8 ((s.getD 3 0).toNat : Int) &&& BitVec.ofInt 8 128).toNat) == 0) (by kernel_rfl) ((and128 _ (oc_lt s 3)).trans (decide_eq_false (by have := h3; unfold oc at this; omega))) ?_
  refine go_sp [(0, .v (.slice A s.length c)), (4, .v (.int .u32 (IntKind.u32.wrap (BitVec.ofInt 32 (IntKind.u32.wrap (BitVec.ofInt 32 (IntKind.u32.wrap (BitVec.ofInt 32 (IntKind.u32.wrap (IntKind.u8.wrap (BitVec.ofInt 8 ((s.getD 0 0).toNat : Int) &&& BitVec.ofInt 8 127).toNat)) ||| BitVec.ofInt 32 (IntKind.u32.wrap ((IntKind.u32.wrap (IntKind.u8.wrap (BitVec.ofInt 8 ((s.getD 1 0).toNat : Int) &&& BitVec.ofInt 8 127).toNat)) * 128))).toNat) ||| BitVec.ofInt 32 (IntKind.u32.wrap ((IntKind.u32.wrap (IntKind.u8.wrap (BitVec.ofInt 8 ((s.getD 2 0).toNat : Int) &&& BitVec.ofInt 8 127).toNat)) * 16384))).toNat) ||| BitVec.ofInt 32 (IntKind.u32.wrap ((IntKind.u32.wrap (IntKind.u8.wrap (BitVec.ofInt 8 ((s.getD 3 0).toNat : Int) &&& BitVec.ofInt 8 127).toNat)) * 2097152))).toNat))), (73, .v (.bool (decide (((s.length : Nat) : Int) < 5))))] hW hE98 fun a99 hE100 => ?_
  clear hE98
  refine cond_false hE100 (b := decide (((s.length : Nat) : Int) < 5)) (by kernel_rfl) (decide_eq_false (by omega)) ?_
  refine wp_skip ?_
  refine then_normal ?_
  refine go_seq_region [0, 1, 2, 3, 4, 5, 6, 7] (by kernel_rfl) ?_
  refine go_rn [0, 1] [2, 3, 4, 5, 6, 7] [(0, .v (.slice A s.length c)), (74, .v (.int .u32 (IntKind.u32.wrap (BitVec.ofInt 32 (IntKind.u32.wrap (BitVec.ofInt 32 (IntKind.u32.wrap (BitVec.ofInt 32 (IntKind.u32.wrap (IntKind.u8.wrap (BitVec.ofInt 8 ((s.getD 0 0).toNat : Int) &&& BitVec.ofInt 8 127).toNat)) ||| BitVec.ofInt 32 (IntKind.u32.wrap ((IntKind.u32.wrap (IntKind.u8.wrap (BitVec.ofInt 8 ((s.getD 1 0).toNat : Int) &&& BitVec.ofInt 8 127).toNat)) * 128))).toNat) ||| BitVec.ofInt 32 (IntKind.u32.wrap ((IntKind.u32.wrap (IntKind.u8.wrap (BitVec.ofInt 8 ((s.getD 2 0).toNat : Int) &&& BitVec.ofInt 8 127).toNat)) * 16384))).toNat) ||| BitVec.ofInt 32 (IntKind.u32.wrap ((IntKind.u32.wrap (IntKind.u8.wrap (BitVec.ofInt 8 ((s.getD 3 0).toNat : Int) &&& BitVec.ofInt 8 127).toNat)) * 2097152))).toNat))), (75, .v (.slice A s.length c))] hW hE100 fun a101 hE102 => ?_
  clear hE100
  obtain ⟨b103, o104, hA105, hl106, hat107⟩ := Slots.get ho (i := 4) (by first | omega | (simp only [List.length_append, be_length, List.length_cons, List.length_nil] at *; omega))
  refine of_op (wpOp_index hE102 (t := 22) (A := A) (m := s.length) (q := 4) (d := 76) (by kernel_rfl) (e := 5) (size := 1) (bytes := 1) (j := 4) (by kernel_rfl) hA105 rfl (by first | omega | (simp only [List.length_append, be_length, List.length_cons, List.length_nil] at *; omega)) fun a108 hE109 => ?_)
  clear hE102
  refine of_op (wpOp_load hE109 (t := 5) (b := b103) (o := o104 + 4 * 1) (d := 77) (by kernel_rfl) (cs := [.int .u8 ((s.getD 4 0).toNat : Int)]) (v := .int .u8 ((s.getD 4 0).toNat : Int)) (by kernel_rfl) (AtF.move hat107 hW.step nilM keepF).at_ fun a110 hE111 => ?_)
  clear hE109
  refine go_rn [4, 5, 6, 7] [] [(0, .v (.slice A s.length c)), (4, .v (.int .u32 (IntKind.u32.wrap (BitVec.ofInt 32 (IntKind.u32.wrap (BitVec.ofInt 32 (IntKind.u32.wrap (BitVec.ofInt 32 (IntKind.u32.wrap (BitVec.ofInt 32 (IntKind.u32.wrap (IntKind.u8.wrap (BitVec.ofInt 8 ((s.getD 0 0).toNat : Int) &&& BitVec.ofInt 8 127).toNat)) ||| BitVec.ofInt 32 (IntKind.u32.wrap ((IntKind.u32.wrap (IntKind.u8.wrap (BitVec.ofInt 8 ((s.getD 1 0).toNat : Int) &&& BitVec.ofInt 8 127).toNat)) * 128))).toNat) ||| BitVec.ofInt 32 (IntKind.u32.wrap ((IntKind.u32.wrap (IntKind.u8.wrap (BitVec.ofInt 8 ((s.getD 2 0).toNat : Int) &&& BitVec.ofInt 8 127).toNat)) * 16384))).toNat) ||| BitVec.ofInt 32 (IntKind.u32.wrap ((IntKind.u32.wrap (IntKind.u8.wrap (BitVec.ofInt 8 ((s.getD 3 0).toNat : Int) &&& BitVec.ofInt 8 127).toNat)) * 2097152))).toNat) ||| BitVec.ofInt 32 (IntKind.u32.wrap ((IntKind.u32.wrap ((s.getD 4 0).toNat : Int)) * 268435456))).toNat)))] hW hE111 fun a112 hE113 => ?_
  clear hE111
  refine wpOps_nil ?_
  refine then_normal ?_
  refine wp_seq ?_
  refine go_seq_region [0, 1, 2, 3] (by kernel_rfl) ?_
  refine go_rn [0] [1, 2, 3] [(4, .v (.int .u32 (IntKind.u32.wrap (BitVec.ofInt 32 (IntKind.u32.wrap (BitVec.ofInt 32 (IntKind.u32.wrap (BitVec.ofInt 32 (IntKind.u32.wrap (BitVec.ofInt 32 (IntKind.u32.wrap (IntKind.u8.wrap (BitVec.ofInt 8 ((s.getD 0 0).toNat : Int) &&& BitVec.ofInt 8 127).toNat)) ||| BitVec.ofInt 32 (IntKind.u32.wrap ((IntKind.u32.wrap (IntKind.u8.wrap (BitVec.ofInt 8 ((s.getD 1 0).toNat : Int) &&& BitVec.ofInt 8 127).toNat)) * 128))).toNat) ||| BitVec.ofInt 32 (IntKind.u32.wrap ((IntKind.u32.wrap (IntKind.u8.wrap (BitVec.ofInt 8 ((s.getD 2 0).toNat : Int) &&& BitVec.ofInt 8 127).toNat)) * 16384))).toNat) ||| BitVec.ofInt 32 (IntKind.u32.wrap ((IntKind.u32.wrap (IntKind.u8.wrap (BitVec.ofInt 8 ((s.getD 3 0).toNat : Int) &&& BitVec.ofInt 8 127).toNat)) * 2097152))).toNat) ||| BitVec.ofInt 32 (IntKind.u32.wrap ((IntKind.u32.wrap ((s.getD 4 0).toNat : Int)) * 268435456))).toNat))), (81, .v (.slice A s.length c))] hW hE113 fun a114 hE115 => ?_
  clear hE113
  refine of_op (wpOp_index hE115 (t := 22) (A := A) (m := s.length) (q := 4) (d := 82) (by kernel_rfl) (e := 5) (size := 1) (bytes := 1) (j := 4) (by kernel_rfl) hA105 rfl (by first | omega | (simp only [List.length_append, be_length, List.length_cons, List.length_nil] at *; omega)) fun a116 hE117 => ?_)
  clear hE115
  refine of_op (wpOp_load hE117 (t := 5) (b := b103) (o := o104 + 4 * 1) (d := 83) (by kernel_rfl) (cs := [.int .u8 ((s.getD 4 0).toNat : Int)]) (v := .int .u8 ((s.getD 4 0).toNat : Int)) (by kernel_rfl) (AtF.move hat107 hW.step nilM keepF).at_ fun a118 hE119 => ?_)
  clear hE117
  refine go_rn [3] [] [(4, .v (.int .u32 (IntKind.u32.wrap (BitVec.ofInt 32 (IntKind.u32.wrap (BitVec.ofInt 32 (IntKind.u32.wrap (BitVec.ofInt 32 (IntKind.u32.wrap (BitVec.ofInt 32 (IntKind.u32.wrap (IntKind.u8.wrap (BitVec.ofInt 8 ((s.getD 0 0).toNat : Int) &&& BitVec.ofInt 8 127).toNat)) ||| BitVec.ofInt 32 (IntKind.u32.wrap ((IntKind.u32.wrap (IntKind.u8.wrap (BitVec.ofInt 8 ((s.getD 1 0).toNat : Int) &&& BitVec.ofInt 8 127).toNat)) * 128))).toNat) ||| BitVec.ofInt 32 (IntKind.u32.wrap ((IntKind.u32.wrap (IntKind.u8.wrap (BitVec.ofInt 8 ((s.getD 2 0).toNat : Int) &&& BitVec.ofInt 8 127).toNat)) * 16384))).toNat) ||| BitVec.ofInt 32 (IntKind.u32.wrap ((IntKind.u32.wrap (IntKind.u8.wrap (BitVec.ofInt 8 ((s.getD 3 0).toNat : Int) &&& BitVec.ofInt 8 127).toNat)) * 2097152))).toNat) ||| BitVec.ofInt 32 (IntKind.u32.wrap ((IntKind.u32.wrap ((s.getD 4 0).toNat : Int)) * 268435456))).toNat))), (84, .v (.bool (decide (((s.getD 4 0).toNat : Int) ≤ 15))))] hW hE119 fun a120 hE121 => ?_
  clear hE119
  refine wpOps_nil ?_
  refine then_normal ?_
  refine cond_true hE121 (b := decide (((s.getD 4 0).toNat : Int) ≤ 15)) (by kernel_rfl) (decide_eq_true (by have := h4; unfold oc at this; omega)) ?_
  refine go_sp [(2, .v (.int .u32 (IntKind.u32.wrap (BitVec.ofInt 32 (IntKind.u32.wrap (BitVec.ofInt 32 (IntKind.u32.wrap (BitVec.ofInt 32 (IntKind.u32.wrap (BitVec.ofInt 32 (IntKind.u32.wrap (IntKind.u8.wrap (BitVec.ofInt 8 ((s.getD 0 0).toNat : Int) &&& BitVec.ofInt 8 127).toNat)) ||| BitVec.ofInt 32 (IntKind.u32.wrap ((IntKind.u32.wrap (IntKind.u8.wrap (BitVec.ofInt 8 ((s.getD 1 0).toNat : Int) &&& BitVec.ofInt 8 127).toNat)) * 128))).toNat) ||| BitVec.ofInt 32 (IntKind.u32.wrap ((IntKind.u32.wrap (IntKind.u8.wrap (BitVec.ofInt 8 ((s.getD 2 0).toNat : Int) &&& BitVec.ofInt 8 127).toNat)) * 16384))).toNat) ||| BitVec.ofInt 32 (IntKind.u32.wrap ((IntKind.u32.wrap (IntKind.u8.wrap (BitVec.ofInt 8 ((s.getD 3 0).toNat : Int) &&& BitVec.ofInt 8 127).toNat)) * 2097152))).toNat) ||| BitVec.ofInt 32 (IntKind.u32.wrap ((IntKind.u32.wrap ((s.getD 4 0).toNat : Int)) * 268435456))).toNat))), (3, .v (.int .i64 5))] hW hE121 fun a122 hE123 => ?_
  clear hE121
  refine wp_ret ?_
  refine then_ret ?_
  refine scope_ret ?_
  refine leave hE123 hW.cells (v := .tuple #[.int .u32 (IntKind.u32.wrap (BitVec.ofInt 32 (IntKind.u32.wrap (BitVec.ofInt 32 (IntKind.u32.wrap (BitVec.ofInt 32 (IntKind.u32.wrap (BitVec.ofInt 32 (IntKind.u32.wrap (IntKind.u8.wrap (BitVec.ofInt 8 ((s.getD 0 0).toNat : Int) &&& BitVec.ofInt 8 127).toNat)) ||| BitVec.ofInt 32 (IntKind.u32.wrap ((IntKind.u32.wrap (IntKind.u8.wrap (BitVec.ofInt 8 ((s.getD 1 0).toNat : Int) &&& BitVec.ofInt 8 127).toNat)) * 128))).toNat) ||| BitVec.ofInt 32 (IntKind.u32.wrap ((IntKind.u32.wrap (IntKind.u8.wrap (BitVec.ofInt 8 ((s.getD 2 0).toNat : Int) &&& BitVec.ofInt 8 127).toNat)) * 16384))).toNat) ||| BitVec.ofInt 32 (IntKind.u32.wrap ((IntKind.u32.wrap (IntKind.u8.wrap (BitVec.ofInt 8 ((s.getD 3 0).toNat : Int) &&& BitVec.ofInt 8 127).toNat)) * 2097152))).toNat) ||| BitVec.ofInt 32 (IntKind.u32.wrap ((IntKind.u32.wrap ((s.getD 4 0).toNat : Int)) * 268435456))).toNat), .int .i64 5]) (by kernel_rfl) ?_
  have e_ := uv_5 (oc s 0) (oc s 1) (oc s 2) (oc s 3) (oc s 4) (oc_lt s 0) (oc_lt s 1) (oc_lt s 2) (oc_lt s 3) (by omega)
  refine ⟨congrArg (fun z_ : Int => Ending.returned (.tuple #[.int .u32 z_, .int .i64 5])) (Eq.trans e_ ?_), hW.step⟩
  omega

theorem rUv (x : Nat) (hx : x < 4294967296) (rest : Bs) {A : Option Addr} {c : Nat} {w : World} {F : Nat → Nat → Prop} (ho : Octs w F A c (uv x ++ rest)) :
    Calls Tryz.prog 195 #[.slice A (uv x ++ rest).length c] w (Gives w (.tuple #[.int .u32 ((x : Nat) : Int), .int .i64 (((uv x).length : Nat) : Int)])) := by
  have hl := uv_len_of hx
  have hL : (uv x ++ rest).length = (uv x).length + rest.length := List.length_append
  by_cases h1 : x < 128
  · rw [if_pos h1] at hl
    have h := rUv1 (uv x ++ rest) ho (by omega) x (by rw [uv_oc, if_pos h1]) h1
    rw [hl]; simpa using h
  rw [if_neg h1] at hl
  have o0 : oc (uv x ++ rest) 0 = x % 128 + 128 := by rw [uv_oc, if_neg h1]
  have o1 : oc (uv x ++ rest) 1 = oc (uv (x / 128) ++ rest) 0 := uv_oc1 (by omega) rest 0
  by_cases h2 : x < 16384
  · rw [if_pos h2] at hl
    rw [uv_oc, if_pos (by omega)] at o1
    have h := rUv2 (uv x ++ rest) ho (by omega) (x % 128) (x / 128) o0 o1 (by omega) (by omega)
    rw [show x % 128 + x / 128 * 128 = x by omega] at h
    rw [hl]; exact h
  rw [if_neg h2] at hl
  have o2 : oc (uv x ++ rest) 2 = oc (uv (x / 128 / 128) ++ rest) 0 := (uv_oc1 (by omega) rest 1).trans (uv_oc1 (by omega) rest 0)
  rw [uv_oc, if_neg (by omega)] at o1
  by_cases h3 : x < 2097152
  · rw [if_pos h3] at hl
    rw [uv_oc, if_pos (by omega)] at o2
    have h := rUv3 (uv x ++ rest) ho (by omega) (x % 128) (x / 128 % 128) (x / 128 / 128) o0 o1 o2 (by omega) (by omega) (by omega)
    rw [show x % 128 + x / 128 % 128 * 128 + x / 128 / 128 * 16384 = x by omega] at h
    rw [hl]; exact h
  rw [if_neg h3] at hl
  have o3 : oc (uv x ++ rest) 3 = oc (uv (x / 128 / 128 / 128) ++ rest) 0 := (uv_oc1 (by omega) rest 2).trans ((uv_oc1 (by omega) rest 1).trans (uv_oc1 (by omega) rest 0))
  rw [uv_oc, if_neg (by omega)] at o2
  by_cases h4 : x < 268435456
  · rw [if_pos h4] at hl
    rw [uv_oc, if_pos (by omega)] at o3
    have h := rUv4 (uv x ++ rest) ho (by omega) (x % 128) (x / 128 % 128) (x / 128 / 128 % 128) (x / 128 / 128 / 128) o0 o1 o2 o3 (by omega) (by omega) (by omega) (by omega)
    rw [show x % 128 + x / 128 % 128 * 128 + x / 128 / 128 % 128 * 16384 + x / 128 / 128 / 128 * 2097152 = x by omega] at h
    rw [hl]; exact h
  rw [if_neg h4] at hl
  have o4 : oc (uv x ++ rest) 4 = oc (uv (x / 128 / 128 / 128 / 128) ++ rest) 0 := (uv_oc1 (by omega) rest 3).trans ((uv_oc1 (by omega) rest 2).trans ((uv_oc1 (by omega) rest 1).trans (uv_oc1 (by omega) rest 0)))
  rw [uv_oc, if_neg (by omega)] at o3
  rw [uv_oc, if_pos (by omega)] at o4
  have h := rUv5 (uv x ++ rest) ho (by omega) (x % 128) (x / 128 % 128) (x / 128 / 128 % 128) (x / 128 / 128 / 128 % 128) (x / 128 / 128 / 128 / 128) o0 o1 o2 o3 o4 (by omega) (by omega) (by omega) (by omega) (by omega)
  rw [show x % 128 + x / 128 % 128 * 128 + x / 128 / 128 % 128 * 16384 + x / 128 / 128 / 128 % 128 * 2097152 + x / 128 / 128 / 128 / 128 * 268435456 = x by omega] at h
  rw [hl]; exact h

theorem rUvarint (x : Nat) (hx : x < 4294967296) (rest : Bs)  {br : Nat} {A : Option Addr} {m c : Nat} {w : World} {F : Nat → Nat → Prop} (hst : Str w br [.slice A m c, .bool false]) (hr : RdS w F A m c (uv x ++ rest)) (hFd : ∀ b o, F b o → ¬ RdM br b o) :
    Calls Tryz.prog 183 #[.pointer (some ⟨br, 0, none⟩)] w (RdPost w br F rest fun v w' => v = .int .u32 ((x : Nat) : Int)) := by
  obtain ⟨hm, ho⟩ := hr
  subst hm
  have hle := ho.le
  have hpos := uv_len_pos x
  refine enter (n := 31) Tryz.func183 rfl Tryz.ntmps183 (by kernel_rfl) fun a hE => ?_
  have hW : WOk w (RdM br) w [⟨br, 0, [.slice A ((uv x ++ rest).length) c, .bool false], true⟩] [] := WOk.startStr hst
  have hE1 := (hE.grow ⟨br, 0, [.slice A ((uv x ++ rest).length) c, .bool false], true⟩).recast 0 (.v (.pointer (some ⟨br, 0, none⟩))) (.p 0 0) rfl rfl (Nat.le_of_ble_eq_true (n := 1) rfl)
  refine go_sp [(0, .p 0 0)] hW hE1 fun a1 hE2 => ?_
  clear hE1
  refine go_seq_region [0, 1, 2, 3, 4, 5, 6, 7, 8, 9] (by kernel_rfl) ?_
  refine go_rn [0, 1, 2, 3] [4, 5, 6, 7, 8, 9] [(0, .p 0 0), (9, .v (.slice A ((uv x ++ rest).length) c))] hW hE2 fun a3 hE4 => ?_
  clear hE2
  refine of_op (wpOp_call hE4 (f := 195) (vs := [.slice A ((uv x ++ rest).length) c]) (d := 10) (by kernel_rfl) Tryz.call195 (rUv x hx rest (ho.move hW.step (fun b_ o_ h_ _ => hFd b_ o_ h_) (hW.immM hFd))) ?_)
  rintro e_ w6 ⟨rfl, hs5⟩
  refine ⟨_, rfl, fun a7 hE8 => ?_⟩
  have hW9 := hW.next_nil hs5
  have hF10 := hW.frN hs5
  clear hE4 hW
  refine go_rn [5, 6, 7, 8, 9] [] [(0, .p 0 0), (3, .v (.int .u32 ((x : Nat) : Int))), (4, .v (.int .i64 (((uv x).length : Nat) : Int)))] hW9 hE8 fun a11 hE12 => ?_
  clear hE8
  refine wpOps_nil ?_
  refine then_normal ?_
  refine wp_seq ?_
  refine go_sp [(0, .p 0 0), (3, .v (.int .u32 ((x : Nat) : Int))), (4, .v (.int .i64 (((uv x).length : Nat) : Int))), (14, .v (.bool (decide ((((uv x).length : Nat) : Int) ≤ 0))))] hW9 hE12 fun a13 hE14 => ?_
  clear hE12
  refine cond_false hE14 (b := decide ((((uv x).length : Nat) : Int) ≤ 0)) (by kernel_rfl) (decide_eq_false (by omega)) ?_
  refine wp_skip ?_
  refine then_normal ?_
  refine go_seq_region [0, 1, 2, 3, 4, 5, 6, 7, 8, 9] (by kernel_rfl) ?_
  refine go_rn [0, 1, 2, 3, 4, 5] [6, 7, 8, 9] [(3, .v (.int .u32 ((x : Nat) : Int))), (21, .p 0 0), (25, .v (.slice A ((uv x ++ rest).length) c)), (26, .v (.int .i64 (((uv x).length : Nat) : Int)))] hW9 hE14 fun a15 hE16 => ?_
  clear hE14
  refine of_op (wpOp_cut_lo hE16 (t := 22) (A := A) (m := ((uv x ++ rest).length)) (cp := c) (q := (((uv x).length : Nat) : Int)) (d := 27) (j := ((uv x).length)) (by kernel_rfl) (e := 5) (bytes := 1) (by kernel_rfl) (rfl) (by first | omega | (simp only [List.length_append, be_length, List.length_cons, List.length_nil] at *; omega)) fun a17 hE18 => ?_)
  clear hE16
  refine go_rn [7, 8] [9] [(3, .v (.int .u32 ((x : Nat) : Int))), (27, .v (.slice (cutA A c ((uv x).length)) (((uv x ++ rest).length) - ((uv x).length)) (c - ((uv x).length)))), (29, .p 0 0)] hW9 hE18 fun a19 hE20 => ?_
  clear hE18
  refine of_op (wpOp_store hW9 hE20 (oi := 0) (cs := [.slice (cutA A c ((uv x).length)) (((uv x ++ rest).length) - ((uv x).length)) (c - ((uv x).length)), .bool false]) (by kernel_rfl) fun w21 hF22 hW23 hE24 => ?_)
  clear hE20 hW9
  refine wpOps_nil ?_
  refine then_normal ?_
  refine go_sp [(2, .v (.int .u32 ((x : Nat) : Int)))] hW23 hE24 fun a25 hE26 => ?_
  clear hE24
  refine wp_ret ?_
  refine leave hE26 hW23.cells (v := .int .u32 ((x : Nat) : Int)) (by kernel_rfl) ?_
  exact ⟨_, _, _, _, rfl, Str.of hW23 0 rfl, RdS.drop (s := uv x) ⟨rfl, ho.move hW23.step (fun b_ o_ h_ _ => hFd b_ o_ h_) keepF⟩ (rfl), hW23.step, rfl⟩

theorem rSpan (X : Bs) (rest : Bs)  {br : Nat} {A : Option Addr} {m c : Nat} {w : World} {F : Nat → Nat → Prop} (hst : Str w br [.slice A m c, .bool false]) (hr : RdS w F A m c (X ++ rest)) (hFd : ∀ b o, F b o → ¬ RdM br b o) :
    Calls Tryz.prog 185 #[.pointer (some ⟨br, 0, none⟩), .int .i64 ((X.length : Nat) : Int)] w (RdPost w br F rest fun v w' => ∃ A2, v = .slice A2 X.length X.length ∧ Octs w' F A2 X.length X) := by
  obtain ⟨hm, ho⟩ := hr
  subst hm
  have hle := ho.le
  refine enter (n := 40) Tryz.func185 rfl Tryz.ntmps185 (by kernel_rfl) fun a hE => ?_
  have hW : WOk w (RdM br) w [⟨br, 0, [.slice A ((X ++ rest).length) c, .bool false], true⟩] [] := WOk.startStr hst
  have hE1 := (hE.grow ⟨br, 0, [.slice A ((X ++ rest).length) c, .bool false], true⟩).recast 0 (.v (.pointer (some ⟨br, 0, none⟩))) (.p 0 0) rfl rfl (Nat.le_of_ble_eq_true (n := 1) rfl)
  refine go_sp [(0, .p 0 0), (1, .v (.int .i64 ((X.length : Nat) : Int)))] hW hE1 fun a1 hE2 => ?_
  clear hE1
  refine wp_seq ?_
  refine go_seq_region [0, 1, 2, 3, 4, 5, 6, 7, 8, 9, 10] (by kernel_rfl) ?_
  refine go_rn [0, 1, 2, 3, 4, 5, 6, 7] [8, 9, 10] [(0, .p 0 0), (1, .v (.int .i64 ((X.length : Nat) : Int))), (13, .v (.bool (decide ((((X ++ rest).length : Nat) : Int) < ((X.length : Nat) : Int)))))] hW hE2 fun a3 hE4 => ?_
  clear hE2
  have hc5 : (decide ((((X ++ rest).length : Nat) : Int) < ((X.length : Nat) : Int))) = false := decide_eq_false (by first | omega | (simp only [List.length_append, be_length, List.length_cons, List.length_nil] at *; omega))
  have hE6 := hE4.cast (env' := [(0, .p 0 0), (1, .v (.int .i64 ((X.length : Nat) : Int))), (13, .v (.bool false))]) (by rw [hc5])
  clear hE4
  refine go_rn [8, 9, 10] [] [(0, .p 0 0), (1, .v (.int .i64 ((X.length : Nat) : Int))), (16, .v (.bool (decide (((X.length : Nat) : Int) < 0))))] hW hE6 fun a7 hE8 => ?_
  clear hE6
  refine wpOps_nil ?_
  refine then_normal ?_
  refine cond_false hE8 (b := decide (((X.length : Nat) : Int) < 0)) (by kernel_rfl) (decide_eq_false (by first | omega | (simp only [List.length_append, be_length, List.length_cons, List.length_nil] at *; omega))) ?_
  refine wp_skip ?_
  refine then_normal ?_
  refine go_seq_region [0, 1, 2, 3, 4, 5, 6, 7] (by kernel_rfl) ?_
  refine go_rn [0, 1, 2, 3, 4, 5] [6, 7] [(0, .p 0 0), (1, .v (.int .i64 ((X.length : Nat) : Int))), (26, .v (.slice A ((X ++ rest).length) c)), (27, .v (.int .i64 ((X.length : Nat) : Int))), (28, .v (.int .i64 ((X.length : Nat) : Int)))] hW hE8 fun a9 hE10 => ?_
  clear hE8
  refine of_op (wpOp_cutm hE10 (t := 22) (A := A) (m := ((X ++ rest).length)) (cp := c) (k := .i64) (q := ((X.length : Nat) : Int)) (d := 29) (j := X.length) (by kernel_rfl) (e := 5) (bytes := 1) (by kernel_rfl) (rfl) (by first | omega | (simp only [List.length_append, be_length, List.length_cons, List.length_nil] at *; omega)) fun a11 hE12 => ?_)
  clear hE10
  refine go_rn [7] [] [(0, .p 0 0), (1, .v (.int .i64 ((X.length : Nat) : Int))), (5, .v (.slice A X.length X.length))] hW hE12 fun a13 hE14 => ?_
  clear hE12
  refine wpOps_nil ?_
  refine then_normal ?_
  refine go_seq_region [0, 1, 2, 3, 4, 5, 6, 7, 8, 9] (by kernel_rfl) ?_
  refine go_rn [0, 1, 2, 3, 4, 5] [6, 7, 8, 9] [(5, .v (.slice A X.length X.length)), (30, .p 0 0), (34, .v (.slice A ((X ++ rest).length) c)), (35, .v (.int .i64 ((X.length : Nat) : Int)))] hW hE14 fun a15 hE16 => ?_
  clear hE14
  refine of_op (wpOp_cut_lo hE16 (t := 22) (A := A) (m := ((X ++ rest).length)) (cp := c) (q := ((X.length : Nat) : Int)) (d := 36) (j := X.length) (by kernel_rfl) (e := 5) (bytes := 1) (by kernel_rfl) (rfl) (by first | omega | (simp only [List.length_append, be_length, List.length_cons, List.length_nil] at *; omega)) fun a17 hE18 => ?_)
  clear hE16
  refine go_rn [7, 8] [9] [(5, .v (.slice A X.length X.length)), (36, .v (.slice (cutA A c X.length) (((X ++ rest).length) - X.length) (c - X.length))), (38, .p 0 0)] hW hE18 fun a19 hE20 => ?_
  clear hE18
  refine of_op (wpOp_store hW hE20 (oi := 0) (cs := [.slice (cutA A c X.length) (((X ++ rest).length) - X.length) (c - X.length), .bool false]) (by kernel_rfl) fun w21 hF22 hW23 hE24 => ?_)
  clear hE20 hW
  refine wpOps_nil ?_
  refine then_normal ?_
  refine go_sp [(4, .v (.slice A X.length X.length))] hW23 hE24 fun a25 hE26 => ?_
  clear hE24
  refine wp_ret ?_
  refine leave hE26 hW23.cells (v := .slice A X.length X.length) (by kernel_rfl) ?_
  exact ⟨_, _, _, _, rfl, Str.of hW23 0 rfl, RdS.drop (s := X) ⟨rfl, ho.move hW23.step (fun b_ o_ h_ _ => hFd b_ o_ h_) keepF⟩ (rfl), hW23.step, A, rfl, RdS.front (s := X) ⟨rfl, ho.move hW23.step (fun b_ o_ h_ _ => hFd b_ o_ h_) keepF⟩ rfl⟩

theorem rComplete {br : Nat} {A : Option Addr} {m c : Nat} {w : World} (hst : Str w br [.slice A m c, .bool false]) :
    Calls Tryz.prog 146 #[.pointer (some ⟨br, 0, none⟩)] w (fun e w' => e = .returned .nilIface ∧ w' = w) := by
  refine enter (n := 8) Tryz.func146 rfl Tryz.ntmps146 (by kernel_rfl) fun a hE => ?_
  have hW : WOk w (RdM br) w [⟨br, 0, [.slice A m c, .bool false], true⟩] [] := WOk.startStr hst
  have hE1 := (hE.grow ⟨br, 0, [.slice A m c, .bool false], true⟩).recast 0 (.v (.pointer (some ⟨br, 0, none⟩))) (.p 0 0) rfl rfl (Nat.le_of_ble_eq_true (n := 1) rfl)
  refine go_sp [(0, .p 0 0)] hW hE1 fun a1 hE2 => ?_
  clear hE1
  refine wp_seq ?_
  refine go_sp [(6, .v (.bool false))] hW hE2 fun a3 hE4 => ?_
  clear hE2
  refine cond_false hE4 (b := false) (by kernel_rfl) rfl ?_
  refine wp_skip ?_
  refine then_normal ?_
  refine go_sp [(2, .v (.nilIface))] hW hE4 fun a5 hE6 => ?_
  clear hE4
  refine wp_ret ?_
  refine leave hE6 hW.cells (v := .nilIface) (by kernel_rfl) ?_
  exact ⟨rfl, rfl⟩

end Go.Proofs.YtnhgfbgdoelfoaaGreatDoor.ME

/- Reading a message's tags. Own work. -/
namespace Go.Proofs.YtnhgfbgdoelfoaaGreatDoor.ME
open Go
open Go.RowKit
set_option linter.unusedVariables false
set_option linter.unusedSimpArgs false
set_option maxRecDepth 20000

/-- the state while tags are read -/
structure TR (w w' : World) (br p2 p3 : Nat) (F : Nat → Nat → Prop) (A : Option Addr) (n c : Nat) (s : Bs) (m : Option Nat) (u : List (Int × Bs)) : Prop where
  step : Step w w' (RdM br)
  old : br < w.heap.size
  new2 : w.heap.size ≤ p2
  new3 : w.heap.size ≤ p3
  ne : p2 ≠ p3
  rd : Str w' br [.slice A n c, .bool false]
  s2 : Str w' p2 [.map none]
  s3 : Str w' p3 [.map m]
  oct : RdS w' (fun b o => F b o ∧ b < w.heap.size) A n c s
  own : OwnM w' (fun b o => F b o ∧ b < w.heap.size) m u
  new : ∀ r, m = some r → w.heap.size ≤ r
theorem TR.mne {w w' : World} {br p2 p3 : Nat} {F : Nat → Nat → Prop} {A : Option Addr} {n c : Nat} {s : Bs} {m : Option Nat} {u : List (Int × Bs)} (h : TR w w' br p2 p3 F A n c s m u) : m ≠ some p2 ∧ m ≠ some p3 := by
  refine ⟨fun e => ?_, fun e => ?_⟩
  · obtain ⟨es, clk, h1, _⟩ := h.own.some_ p2 e
    exact cell_block (h.s2.at_ 0 _ rfl) h1 rfl
  · obtain ⟨es, clk, h1, _⟩ := h.own.some_ p3 e
    exact cell_block (h.s3.at_ 0 _ rfl) h1 rfl
/-- something has been read -/
theorem TR.read {w w' w1 : World} {br p2 p3 : Nat} {F : Nat → Nat → Prop} {A A' : Option Addr} {n c n' c' : Nat} {s s' : Bs} {m : Option Nat} {u : List (Int × Bs)} (h : TR w w' br p2 p3 F A n c s m u) (hFd : ∀ b o, F b o → ¬ RdM br b o) (hs : Str w1 br [.slice A' n' c', .bool false]) (hr : RdS w1 (fun b o => F b o ∧ b < w.heap.size) A' n' c' s') (hst : Step w' w1 (RdM br)) : TR w w1 br p2 p3 F A' n' c' s' m u := by
  have ho := h.old
  have h2 := h.new2
  have h3 := h.new3
  refine ⟨h.step.trans hst fun _ _ _ e => e, ho, h2, h3, h.ne, hs, h.s2.move hst fun o e => ?_, h.s3.move hst fun o e => ?_, hr, h.own.move hst (fun b o hg _ => hFd b o hg.1) keepF (fun r o e he => ?_), h.new⟩
  · have := e.1; omega
  · have := e.1; omega
  · have := h.new r e; have := he.1; omega
/-- a tag is set -/
theorem TR.set {w w' : World} {br p2 p3 : Nat} {F : Nat → Nat → Prop} {A A1 : Option Addr} {n c c1 j : Nat} {s x : Bs} {k : Int} {m : Option Nat} {u : List (Int × Bs)} (h : TR w w' br p2 p3 F A n c s m (u.take j)) (hsort : Sorted u) (hj : u[j]? = some (k, x)) (hx : Octs w' (fun b o => F b o ∧ b < w.heap.size) A1 c1 x) (hk : 0 ≤ k ∧ k < 4294967296) :
    Calls Tryz.prog 184 [.pointer (some ⟨p3, 0, none⟩), .int .u32 k, .slice A1 x.length c1].toArray w' (fun e w1 => e = .returned (.tuple #[]) ∧ ∃ r, TR w w1 br p2 p3 F A n c s (some r) (u.take (j + 1))) := by
  have hcell : w'.cell? ⟨p3, 0, none⟩ = some (.map m) := h.s3.at_ 0 _ rfl
  have hfz : w'.frozen? ⟨p3, 0, none⟩ = false := h.s3.frz 0 (by simp)
  have hnew := h.new
  have h2 := h.new2
  have h3 := h.new3
  have ho := h.old
  have hsz := h.step.size
  obtain ⟨m2, m3⟩ := h.mne
  refine (kTagsSet hcell hfz h.own hx hk (fun b' o' hg => ⟨fun e => ?_, fun e => ?_⟩) (fun b' o' hg => Nat.lt_of_lt_of_le hg.2 hsz)).mono ?_
  · have := hg.2; omega
  · have := hnew b' e; have := hg.2; omega
  · rintro e w1 ⟨rfl, r, g1, g2, g3, g4, g5⟩
    rw [setT_next hsort hj] at g3
    refine ⟨rfl, r, h.step.trans g5 fun b o hl e => ?_, ho, h2, h3, h.ne, h.rd.move g5 fun o e => ?_, h.s2.move g5 fun o e => ?_, ⟨fun i v hi => ?_, fun i hi => ?_⟩, ⟨h.oct.len, Octs.move h.oct.oct g5 (fun b o hg _ e => ?_) keepF⟩, g3, fun r' hr' => ?_⟩
    · rcases e with ⟨e1, _⟩ | e1
      · omega
      · have := hnew b e1; omega
    · rcases e with ⟨e1, _⟩ | e1
      · omega
      · have := hnew br e1; omega
    · rcases e with ⟨e1, _⟩ | e1
      · exact h.ne e1
      · exact m2 e1
    · cases i with
      | zero =>
        simp only [List.getElem?_cons_zero, Option.some.injEq] at hi
        subst hi
        exact g1
      | succ i => simp at hi
    · have : i = 0 := by simp at hi; omega
      subst this
      exact g2
    · have := hg.2
      rcases e with ⟨e1, _⟩ | e1
      · omega
      · have := hnew b e1; omega
    · obtain rfl := Option.some.inj hr'
      rcases g4 with g4 | g4
      · exact hnew _ g4
      · exact Nat.le_trans hsz g4
theorem tagsR_cons (x : Int × Bs) (u : List (Int × Bs)) : tagsR (x :: u) = tagR x.1 x.2 ++ tagsR u := by unfold tagsR; rw [List.flatMap_cons]
theorem tagsR_drop {u : List (Int × Bs)} {j : Nat} {k : Int} {x : Bs} (h : u[j]? = some (k, x)) (rest : Bs) : tagsR (u.drop j) ++ rest = uv k.toNat ++ (uv x.length ++ (x ++ (tagsR (u.drop (j + 1)) ++ rest))) := by
  obtain ⟨hlt, he⟩ := List.getElem?_eq_some_iff.1 h
  rw [List.drop_eq_getElem_cons hlt, he, tagsR_cons]
  simp only [tagR, List.append_assoc]

theorem rTags (u : List (Int × Bs)) (rest : Bs) (hsort : Sorted u) (hk : ∀ x ∈ u, 0 ≤ x.1 ∧ x.1 < 4294967296) (hul : u.length ≤ 1000000) (hxl : ∀ x ∈ u, x.2.length < 4294967296) {br : Nat} {A : Option Addr} {m c : Nat} {w : World} {F : Nat → Nat → Prop} (hst : Str w br [.slice A m c, .bool false]) (hr : RdS w F A m c (uv u.length ++ (tagsR u ++ rest))) (hFd : ∀ b o, F b o → ¬ RdM br b o) :
    Calls Tryz.prog 154 #[.pointer (some ⟨br, 0, none⟩)] w (RdPost w br (Fp F w) rest fun v w' => ∃ mm, v = .agg #[.map mm] ∧ MapR w' (Fp F w) mm u) := by
  have hbr : br < w.heap.size := World.lt_of_cell (hst.at_ 0 _ rfl)
  refine enter (n := 24) (vs := [.pointer (some ⟨br, 0, none⟩)]) Tryz.func154 rfl Tryz.ntmps154 (by kernel_rfl) fun a hE => ?_
  have hW := WOk.start w Nil
  refine go_seq_region [0] (by kernel_rfl) ?_
  refine of_op (wpOp_alloc hW hE (d := 2) (cs := [.map none]) (by kernel_rfl) fun p2 a1 w1 hp2 hz2 hF1 hW1 hE1 => wpOps_nil (then_normal ?_))
  refine go_seq_region [0] (by kernel_rfl) ?_
  refine of_op (wpOp_alloc hW1 hE1 (d := 3) (cs := [.map none]) (by kernel_rfl) fun p3 a2 w2 hp3 hz3 hF2 hW2 hE2 => wpOps_nil (then_normal ?_))
  have hne : p2 ≠ p3 := by
    have h1 := hW1.live 0 _ rfl
    simp only at h1
    omega
  have hS : Step w w2 Nil := hW2.step
  have hT0 : TR w w2 br p2 p3 F A m c (uv u.length ++ (tagsR u ++ rest)) none (u.take 0) := by
    refine ⟨hS.mono fun _ _ _ h => h.elim, hbr, hz2, hz3, hne, hst.move hS (fun _ h => h), Str.of hW2 0 rfl, Str.of hW2 1 rfl, hr.move hS nilM (fun b o h hb => ⟨h, hb⟩), ?_, fun _ h => by cases h⟩
    rw [List.take_zero]
    exact OwnM.nil _ _
  refine wp_seq ?_
  have hE3 := (((hE2.recast 2 (.p 0 0) (.v (.pointer (some ⟨p2, 0, none⟩))) rfl rfl trivial).recast 3 (.p 1 0) (.v (.pointer (some ⟨p3, 0, none⟩))) rfl rfl trivial).pick (ks := [0, 2, 3]) (env' := [(0, .v (.pointer (some ⟨br, 0, none⟩))), (2, .v (.pointer (some ⟨p2, 0, none⟩))), (3, .v (.pointer (some ⟨p3, 0, none⟩)))]) (by kernel_rfl)).cutTb 0 (by kernel_rfl)
  have hWz := WOk.start w2 Nil
  refine go_seq_region [0, 1, 2] (by kernel_rfl) ?_
  refine go_rn [0] [1, 2] [(0, .v (.pointer (some ⟨br, 0, none⟩))), (2, .v (.pointer (some ⟨p2, 0, none⟩))), (3, .v (.pointer (some ⟨p3, 0, none⟩))), (7, .v (.pointer (some ⟨br, 0, none⟩)))] hWz hE3 fun a3 hE4 => ?_
  have hFd' : ∀ b o, (F b o ∧ b < w.heap.size) → ¬ RdM br b o := fun b o h => hFd b o h.1
  refine of_op (wpOp_call hE4 (f := 183) (vs := [.pointer (some ⟨br, 0, none⟩)]) (d := 8) (by kernel_rfl) Tryz.call183 (rUvarint u.length (by omega) (tagsR u ++ rest) hT0.rd hT0.oct hFd') ?_)
  rintro e_ w3 ⟨_, A3, n3, c3, rfl, hs3, hr3, hst3, rfl⟩
  have hT1 := hT0.read hFd hs3 hr3 hst3
  refine ⟨_, rfl, fun a4 hE5 => ?_⟩
  refine go_rn [2] [] [(0, .v (.pointer (some ⟨br, 0, none⟩))), (2, .v (.pointer (some ⟨p2, 0, none⟩))), (3, .v (.pointer (some ⟨p3, 0, none⟩))), (4, .v (.int .u32 ((u.length : Nat) : Int)))] (WOk.start w3 Nil) hE5 fun a5 hE6 => wpOps_nil (then_normal ?_)
  refine wp_block ?_
  refine wp_loop_ghost (fun q a_ w_ => ∃ (j : Nat) (m_ : Option Nat) (A_ : Option Addr) (n_ c_ : Nat), q = u.length - j ∧ j ≤ u.length ∧ EnvOk 24 [] [(0, .v (.pointer (some ⟨br, 0, none⟩))), (2, .v (.pointer (some ⟨p2, 0, none⟩))), (3, .v (.pointer (some ⟨p3, 0, none⟩))), (4, .v (.int .u32 ((u.length - j : Nat) : Int)))] a_ ∧ TR w w_ br p2 p3 F A_ n_ c_ (tagsR (u.drop j) ++ rest) m_ (u.take j)) u.length
    ⟨0, none, A3, n3, c3, by omega, by omega, hE6, hT1⟩ ?_
  rintro q aq wq ⟨j, m_, A_, n_, c_, rfl, hj, hEq, hT⟩
  have hWq := WOk.start wq Nil
  refine wp_seq (go_sp [(0, .v (.pointer (some ⟨br, 0, none⟩))), (2, .v (.pointer (some ⟨p2, 0, none⟩))), (3, .v (.pointer (some ⟨p3, 0, none⟩))), (4, .v (.int .u32 ((u.length - j : Nat) : Int))), (10, .v (.bool (decide (((u.length - j : Nat) : Int) > 0))))] hWq hEq fun aq1 hE7 => ?_)
  refine cond_of hE7 (b := decide (((u.length - j : Nat) : Int) > 0)) (by kernel_rfl) (fun hc => ?_) (fun hc => ?_)
  · have hlt : j < u.length := by have := of_decide_eq_true hc; omega
    obtain ⟨⟨k, x⟩, hu⟩ : ∃ y, u[j]? = some y := ⟨_, List.getElem?_eq_getElem hlt⟩
    have hk' := hk (k, x) (List.mem_of_getElem? hu)
    have hx' := hxl (k, x) (List.mem_of_getElem? hu)
    dsimp only at hk' hx'
    have hoct := hT.oct
    rw [tagsR_drop hu rest] at hoct
    refine wp_skip (then_normal (wp_seq (wp_block ?_)))
    refine go_seq_region [0, 1, 2, 3, 4, 5] (by kernel_rfl) ?_
    refine go_rn [0] [1, 2, 3, 4, 5] [(0, .v (.pointer (some ⟨br, 0, none⟩))), (2, .v (.pointer (some ⟨p2, 0, none⟩))), (3, .v (.pointer (some ⟨p3, 0, none⟩))), (4, .v (.int .u32 ((u.length - j : Nat) : Int))), (13, .v (.pointer (some ⟨br, 0, none⟩)))] hWq hE7 fun aq2 hE8 => ?_
    refine of_op (wpOp_call hE8 (f := 183) (vs := [.pointer (some ⟨br, 0, none⟩)]) (d := 14) (by kernel_rfl) Tryz.call183 (rUvarint k.toNat (by omega) _ hT.rd hoct hFd') ?_)
    rintro e_ wa ⟨_, Aa, na, ca, rfl, hsa, hra, hsta, rfl⟩
    have hTa := hT.read hFd hsa hra hsta
    refine ⟨_, rfl, fun aq3 hE9 => ?_⟩
    refine go_rn [2] [3, 4, 5] [(0, .v (.pointer (some ⟨br, 0, none⟩))), (2, .v (.pointer (some ⟨p2, 0, none⟩))), (3, .v (.pointer (some ⟨p3, 0, none⟩))), (4, .v (.int .u32 ((u.length - j : Nat) : Int))), (14, .v (.int .u32 ((k.toNat : Nat) : Int))), (15, .v (.pointer (some ⟨br, 0, none⟩)))] (WOk.start wa Nil) hE9 fun aq4 hE10 => ?_
    refine of_op (wpOp_call hE10 (f := 183) (vs := [.pointer (some ⟨br, 0, none⟩)]) (d := 16) (by kernel_rfl) Tryz.call183 (rUvarint x.length hx' _ hTa.rd hTa.oct hFd') ?_)
    rintro e_ wb ⟨_, Ab, nb, cb, rfl, hsb, hrb, hstb, rfl⟩
    have hTb := hTa.read hFd hsb hrb hstb
    refine ⟨_, rfl, fun aq5 hE11 => ?_⟩
    refine go_rn [4, 5] [] [(0, .v (.pointer (some ⟨br, 0, none⟩))), (2, .v (.pointer (some ⟨p2, 0, none⟩))), (3, .v (.pointer (some ⟨p3, 0, none⟩))), (4, .v (.int .u32 ((u.length - j : Nat) : Int))), (5, .v (.int .u32 ((k.toNat : Nat) : Int))), (6, .v (.int .u32 ((x.length : Nat) : Int)))] (WOk.start wb Nil) hE11 fun aq6 hE12 => wpOps_nil (then_normal ?_)
    refine go_region [0, 1, 2, 3, 4, 5] (by kernel_rfl) ?_
    refine go_rn [0, 1, 2, 3] [4, 5] [(0, .v (.pointer (some ⟨br, 0, none⟩))), (2, .v (.pointer (some ⟨p2, 0, none⟩))), (3, .v (.pointer (some ⟨p3, 0, none⟩))), (4, .v (.int .u32 ((u.length - j : Nat) : Int))), (17, .v (.int .u32 ((k.toNat : Nat) : Int))), (18, .v (.pointer (some ⟨br, 0, none⟩))), (20, .v (.int .i64 (IntKind.i64.wrap ((x.length : Nat) : Int))))] (WOk.start wb Nil) hE12 fun aq7 hE13 => ?_
    rw [show IntKind.i64.wrap ((x.length : Nat) : Int) = ((x.length : Nat) : Int) by rw [i64w]; omega, show ((k.toNat : Nat) : Int) = k by omega] at hE13
    refine of_op (wpOp_call hE13 (f := 185) (vs := [.pointer (some ⟨br, 0, none⟩), .int .i64 ((x.length : Nat) : Int)]) (d := 21) (by kernel_rfl) Tryz.call185 (rSpan x _ hTb.rd hTb.oct hFd') ?_)
    rintro e_ wc ⟨_, Ac, nc, cc, rfl, hsc, hrc, hstc, Ax, rfl, hox⟩
    have hTc := hTb.read hFd hsc hrc hstc
    refine ⟨_, rfl, fun aq8 hE14 => ?_⟩
    refine of_op (wpOp_call hE14 (f := 184) (vs := [.pointer (some ⟨p3, 0, none⟩), .int .u32 k, .slice Ax x.length x.length]) (d := 22) (by kernel_rfl) Tryz.call184 (hTc.set hsort hu hox hk') ?_)
    rintro e_ wd ⟨rfl, r, hTd⟩
    refine ⟨_, rfl, fun aq9 hE15 => wpOps_nil (block_normal (then_normal ?_))⟩
    refine go_region [0, 1, 2] (by kernel_rfl) (go_rn [0, 1, 2] [] [(0, .v (.pointer (some ⟨br, 0, none⟩))), (2, .v (.pointer (some ⟨p2, 0, none⟩))), (3, .v (.pointer (some ⟨p3, 0, none⟩))), (4, .v (.int .u32 (IntKind.u32.wrap (((u.length - j : Nat) : Int) - 1))))] (WOk.start wd Nil) hE15 fun aqa hE16 => wpOps_nil (then_normal ?_))
    rw [show IntKind.u32.wrap (((u.length - j : Nat) : Int) - 1) = ((u.length - (j + 1) : Nat) : Int) by rw [wrap_u32]; omega] at hE16
    exact ⟨u.length - (j + 1), by omega, j + 1, some r, Ac, nc, cc, rfl, by omega, hE16, hTd⟩
  · obtain rfl : j = u.length := by have := of_decide_eq_false hc; omega
    refine wp_exit (then_exit (then_exit (block_exit (then_normal ?_))))
    rw [List.take_length, List.drop_length] at hT
    have hT' : TR w wq br p2 p3 F A_ n_ c_ rest m_ u := hT
    have h2 := hT'.new2
    have h3 := hT'.new3
    have hW9 : WOk w (RdM br) wq ([] ++ [⟨p3, 0, [.map m_], true⟩] ++ [⟨p2, 0, [.map none], true⟩]) [] := by
      have hb : WOk w (RdM br) wq [] [] := ⟨hT'.step, fun i o hi => by simp at hi, fun i o hi => by simp at hi, fun i o hi => by simp at hi, fun i j o o' _ hi => by simp at hi, fun i r hi => by simp at hi, fun i r hi => by simp at hi, fun i r hi => by simp at hi, fun i j r r' _ hi => by simp at hi⟩
      have h4 := hb.add ⟨p3, 0, [.map m_], true⟩ (World.lt_of_cell (hT'.s3.at_ 0 _ rfl)) (fun j v hj => by rw [Nat.zero_add]; exact hT'.s3.at_ j v hj) (fun _ j hj => ⟨.inl h3, by rw [Nat.zero_add]; exact hT'.s3.frz j hj⟩) (fun i o hi => by simp at hi) (fun i r hi => by simp at hi)
      refine h4.add ⟨p2, 0, [.map none], true⟩ (World.lt_of_cell (hT'.s2.at_ 0 _ rfl)) (fun j v hj => by rw [Nat.zero_add]; exact hT'.s2.at_ j v hj) (fun _ j hj => ⟨.inl h2, by rw [Nat.zero_add]; exact hT'.s2.frz j hj⟩) (fun i o hi _ => .inl ?_) (fun i r hi => by simp at hi)
      have : o = ⟨p3, 0, [.map m_], true⟩ := by
        have hm := List.mem_of_getElem? hi
        simpa using hm
      rw [this]
      exact fun e => hT'.ne e.symm
    have hE17 := (((hE7.retable [⟨p3, 0, [.map m_], true⟩, ⟨p2, 0, [.map none], true⟩]).recast 3 (.v (.pointer (some ⟨p3, 0, none⟩))) (.p 0 0) rfl rfl (Nat.le_of_ble_eq_true (n := 1) rfl)).recast 2 (.v (.pointer (some ⟨p2, 0, none⟩))) (.p 1 0) rfl rfl (Nat.le_of_ble_eq_true (n := 2) rfl))
    have hE18 : EnvOk 24 [⟨p3, 0, [.map m_], true⟩, ⟨p2, 0, [.map none], true⟩] [(2, .p 1 0), (3, .p 0 0)] _ := hE17.pk
    refine go_seq_region [0, 1] (by kernel_rfl) ?_
    refine go_rn [0] [1] [(2, .p 1 0), (23, .v (.agg #[.map m_]))] hW9 hE18 fun aqb hE19 => ?_
    refine of_op (wpOp_store hW9 hE19 (oi := 1) (cs := [.map m_]) (by kernel_rfl) fun wz hFz hWz hEz => wpOps_nil (then_normal (wp_ret ?_)))
    have hsz := hT'.step.size
    have hstz : Step wq wz (fun b o => b = p2 ∨ b = p3) := hFz.step.mono fun b o _ ha => by
      rcases ha with ⟨i, ob, hi, _, rfl, _⟩ | ⟨i, r, hi, _⟩
      · have hm := List.mem_of_getElem? hi
        simp only [List.nil_append, List.cons_append, List.mem_cons, List.not_mem_nil, or_false] at hm
        rcases hm with rfl | rfl
        · exact .inr rfl
        · exact .inl rfl
      · simp at hi
    obtain ⟨m2, m3⟩ := hT'.mne
    refine leave hEz hWz.cells (v := .agg #[.map m_]) (by kernel_rfl) ⟨_, A_, n_, c_, rfl, hT'.rd.move hstz (fun o e => ?_), hT'.oct.move hstz (fun b o hg _ e => ?_) (fun b o hg _ => .inl hg.1), hWz.step, m_, rfl, ?_⟩
    · have := hT'.old; rcases e with e | e <;> omega
    · have := hg.2; rcases e with e | e <;> omega
    · refine (hT'.own.move hstz (fun b o hg _ e => ?_) keepF (fun r o e he => ?_)).map (fun b o h => .inl h.1) (fun r o e => .inr (hT'.new r e)) hsort hk
      · have := hg.2; rcases e with e | e <;> omega
      · rcases he with he | he
        · exact m2 (by rw [e, he])
        · exact m3 (by rw [e, he])

end Go.Proofs.YtnhgfbgdoelfoaaGreatDoor.ME

/- Printed by tools/rd.py. Own work. -/
namespace Go.Proofs.YtnhgfbgdoelfoaaGreatDoor.ME
open Go
open Go.RowKit
set_option linter.unusedVariables false
set_option linter.unusedSimpArgs false
set_option maxRecDepth 20000

theorem rString (X : Bs) (hX : X.length ≤ 32767) (rest : Bs)  {br : Nat} {A : Option Addr} {m c : Nat} {w : World} {F : Nat → Nat → Prop} (hst : Str w br [.slice A m c, .bool false]) (hr : RdS w F A m c ((be 2 ((X.length : Nat) : Int)) ++ (X ++ rest))) (hFd : ∀ b o, F b o → ¬ RdM br b o) :
    Calls Tryz.prog 151 #[.pointer (some ⟨br, 0, none⟩)] w (RdPost w br (Fp F w) rest fun v w' => v = .string (bs X)) := by
  refine enter (n := 11) Tryz.func151 rfl Tryz.ntmps151 (by kernel_rfl) fun a hE => ?_
  have hW : WOk w (RdM br) w [⟨br, 0, [.slice A m c, .bool false], true⟩] [] := WOk.startStr hst
  have hE1 := (hE.grow ⟨br, 0, [.slice A m c, .bool false], true⟩).recast 0 (.v (.pointer (some ⟨br, 0, none⟩))) (.p 0 0) rfl rfl (Nat.le_of_ble_eq_true (n := 1) rfl)
  refine go_sp [(0, .p 0 0)] hW hE1 fun a1 hE2 => ?_
  clear hE1
  refine go_seq_region [0, 1, 2] (by kernel_rfl) ?_
  refine go_rn [0] [1, 2] [(0, .p 0 0), (4, .p 0 0)] hW hE2 fun a3 hE4 => ?_
  clear hE2
  refine of_op (wpOp_call hE4 (f := 161) (vs := [.pointer (some ⟨br, 0, none⟩)]) (d := 5) (by kernel_rfl) Tryz.call161 (rInt16 ((X.length : Nat) : Int) (X ++ rest) (Str.of hW 0 rfl) (hr.move hW.step (fun b_ o_ h_ _ => hFd b_ o_ h_) (hW.immM hFd)) (imm_rd 0 rfl)) ?_)
  rintro e_ w5 ⟨_, A6, n7, c8, rfl, hs9, hr10, hst11, rfl⟩
  obtain ⟨hW13, hF14, hl18⟩ := hW.wrote 0 [⟨br, 0, [.slice A6 n7 c8, .bool false], true⟩] rfl hst11 hs9
  have hr19 := hr10.move (Step.refl _ Nil) nilM (fun b_ o_ h_ _ => hF14.to b_ o_ h_)
  refine ⟨_, rfl, fun a15 hE16 => ?_⟩
  have hE17 : EnvOk 11 [⟨br, 0, [.slice A6 n7 c8, .bool false], true⟩] [(5, .v (.int .i16 (IntKind.i16.wrap ((X.length : Nat) : Int)))), (0, .p 0 0), (4, .p 0 0)] _ := hE16.places (⟨rfl, rfl, trivial⟩)
  clear hE4
  refine go_rn [2] [] [(0, .p 0 0), (3, .v (.int .i16 (IntKind.i16.wrap ((X.length : Nat) : Int))))] hW13 hE17 fun a20 hE21 => ?_
  clear hE17
  refine wpOps_nil ?_
  refine then_normal ?_
  refine go_seq_region [0, 1, 2, 3, 4, 5] (by kernel_rfl) ?_
  refine go_rn [0, 1, 2] [3, 4, 5] [(6, .p 0 0), (8, .v (.int .i64 (IntKind.i64.wrap (IntKind.i16.wrap ((X.length : Nat) : Int)))))] hW13 hE21 fun a22 hE23 => ?_
  clear hE21
  have he24 : IntKind.i64.wrap (IntKind.i16.wrap ((X.length : Nat) : Int)) = ((X.length : Nat) : Int) := by simp only [i16w, i32w, i64w]; omega
  have hE26 := EnvOk.pick hE23 (ks := [6, 8]) (env' := [(6, .p 0 0), (8, .v (.int .i64 (IntKind.i64.wrap (IntKind.i16.wrap ((X.length : Nat) : Int)))))]) (by kernel_rfl)
  have hE25 := hE26.cast (env' := [(6, .p 0 0), (8, .v (.int .i64 ((X.length : Nat) : Int)))]) (by rw [he24])
  clear hE23 hE26
  refine of_op (wpOp_call hE25 (f := 185) (vs := [.pointer (some ⟨br, 0, none⟩), .int .i64 ((X.length : Nat) : Int)]) (d := 9) (by kernel_rfl) Tryz.call185 (rSpan X (rest) (Str.of hW13 0 rfl) hr19 (imm_rd 0 rfl)) ?_)
  rintro e_ w27 ⟨_, A28, n29, c30, rfl, hs31, hr32, hst33, ⟨A40, rfl, ho41⟩⟩
  obtain ⟨hW35, hF36, hl42⟩ := hW13.wrote 0 [⟨br, 0, [.slice A28 n29 c30, .bool false], true⟩] rfl hst33 hs31
  have hr43 := hr32.move (Step.refl _ Nil) nilM (fun b_ o_ h_ _ => hF36.to b_ o_ h_)
  refine ⟨_, rfl, fun a37 hE38 => ?_⟩
  have hE39 : EnvOk 11 [⟨br, 0, [.slice A28 n29 c30, .bool false], true⟩] [(9, .v (.slice A40 X.length X.length)), (6, .p 0 0), (8, .v (.int .i64 ((X.length : Nat) : Int)))] _ := hE38.places (⟨rfl, rfl, trivial⟩)
  clear hE25
  have ho44 := ho41.move (Step.refl _ Nil) nilM (fun b_ o_ h_ _ => hF36.to b_ o_ h_)
  refine of_op (wpOp_conv hE39 (src := 22) (dst := 9) (e := 5) (d := 10) (by kernel_rfl) (by kernel_rfl) (by kernel_rfl) (by kernel_rfl) ho44 fun a45 hE46 => ?_)
  clear hE39
  refine go_rn [5] [] [(2, .v (.string (bs X)))] hW35 hE46 fun a47 hE48 => ?_
  clear hE46
  refine wpOps_nil ?_
  refine then_normal ?_
  refine wp_ret ?_
  refine leave hE48 hW35.cells (v := .string (bs X)) (by kernel_rfl) ?_
  refine ⟨_, _, _, _, rfl, Str.of hW35 0 rfl, (hr43.move (Step.refl _ Nil) nilM immOut), hW35.step, rfl⟩

theorem rCompactString (X : Bs) (hX : X.length ≤ 1000000) (rest : Bs)  {br : Nat} {A : Option Addr} {m c : Nat} {w : World} {F : Nat → Nat → Prop} (hst : Str w br [.slice A m c, .bool false]) (hr : RdS w F A m c ((uv (X.length + 1)) ++ (X ++ rest))) (hFd : ∀ b o, F b o → ¬ RdM br b o) :
    Calls Tryz.prog 150 #[.pointer (some ⟨br, 0, none⟩)] w (RdPost w br (Fp F w) rest fun v w' => v = .string (bs X)) := by
  refine enter (n := 12) Tryz.func150 rfl Tryz.ntmps150 (by kernel_rfl) fun a hE => ?_
  have hW : WOk w (RdM br) w [⟨br, 0, [.slice A m c, .bool false], true⟩] [] := WOk.startStr hst
  have hE1 := (hE.grow ⟨br, 0, [.slice A m c, .bool false], true⟩).recast 0 (.v (.pointer (some ⟨br, 0, none⟩))) (.p 0 0) rfl rfl (Nat.le_of_ble_eq_true (n := 1) rfl)
  refine go_sp [(0, .p 0 0)] hW hE1 fun a1 hE2 => ?_
  clear hE1
  refine go_seq_region [0, 1, 2, 3, 4] (by kernel_rfl) ?_
  refine go_rn [0] [1, 2, 3, 4] [(0, .p 0 0), (4, .p 0 0)] hW hE2 fun a3 hE4 => ?_
  clear hE2
  refine of_op (wpOp_call hE4 (f := 183) (vs := [.pointer (some ⟨br, 0, none⟩)]) (d := 5) (by kernel_rfl) Tryz.call183 (rUvarint (X.length + 1) (by omega) (X ++ rest) (Str.of hW 0 rfl) (hr.move hW.step (fun b_ o_ h_ _ => hFd b_ o_ h_) (hW.immM hFd)) (imm_rd 0 rfl)) ?_)
  rintro e_ w5 ⟨_, A6, n7, c8, rfl, hs9, hr10, hst11, rfl⟩
  obtain ⟨hW13, hF14, hl18⟩ := hW.wrote 0 [⟨br, 0, [.slice A6 n7 c8, .bool false], true⟩] rfl hst11 hs9
  have hr19 := hr10.move (Step.refl _ Nil) nilM (fun b_ o_ h_ _ => hF14.to b_ o_ h_)
  refine ⟨_, rfl, fun a15 hE16 => ?_⟩
  have hE17 : EnvOk 12 [⟨br, 0, [.slice A6 n7 c8, .bool false], true⟩] [(5, .v (.int .u32 ((X.length + 1 : Nat) : Int))), (0, .p 0 0), (4, .p 0 0)] _ := hE16.places (⟨rfl, rfl, trivial⟩)
  clear hE4
  refine go_rn [2, 3, 4] [] [(0, .p 0 0), (3, .v (.int .i64 (IntKind.i64.wrap ((IntKind.i64.wrap ((X.length + 1 : Nat) : Int)) - 1))))] hW13 hE17 fun a20 hE21 => ?_
  clear hE17
  refine wpOps_nil ?_
  refine then_normal ?_
  refine go_seq_region [0, 1, 2, 3, 4] (by kernel_rfl) ?_
  refine go_rn [0, 1] [2, 3, 4] [(8, .p 0 0), (9, .v (.int .i64 (IntKind.i64.wrap ((IntKind.i64.wrap ((X.length + 1 : Nat) : Int)) - 1))))] hW13 hE21 fun a22 hE23 => ?_
  clear hE21
  have he24 : IntKind.i64.wrap ((IntKind.i64.wrap ((X.length + 1 : Nat) : Int)) - 1) = ((X.length : Nat) : Int) := by simp only [i16w, i32w, i64w]; omega
  have hE26 := EnvOk.pick hE23 (ks := [8, 9]) (env' := [(8, .p 0 0), (9, .v (.int .i64 (IntKind.i64.wrap ((IntKind.i64.wrap ((X.length + 1 : Nat) : Int)) - 1))))]) (by kernel_rfl)
  have hE25 := hE26.cast (env' := [(8, .p 0 0), (9, .v (.int .i64 ((X.length : Nat) : Int)))]) (by rw [he24])
  clear hE23 hE26
  refine of_op (wpOp_call hE25 (f := 185) (vs := [.pointer (some ⟨br, 0, none⟩), .int .i64 ((X.length : Nat) : Int)]) (d := 10) (by kernel_rfl) Tryz.call185 (rSpan X (rest) (Str.of hW13 0 rfl) hr19 (imm_rd 0 rfl)) ?_)
  rintro e_ w27 ⟨_, A28, n29, c30, rfl, hs31, hr32, hst33, ⟨A40, rfl, ho41⟩⟩
  obtain ⟨hW35, hF36, hl42⟩ := hW13.wrote 0 [⟨br, 0, [.slice A28 n29 c30, .bool false], true⟩] rfl hst33 hs31
  have hr43 := hr32.move (Step.refl _ Nil) nilM (fun b_ o_ h_ _ => hF36.to b_ o_ h_)
  refine ⟨_, rfl, fun a37 hE38 => ?_⟩
  have hE39 : EnvOk 12 [⟨br, 0, [.slice A28 n29 c30, .bool false], true⟩] [(10, .v (.slice A40 X.length X.length)), (8, .p 0 0), (9, .v (.int .i64 ((X.length : Nat) : Int)))] _ := hE38.places (⟨rfl, rfl, trivial⟩)
  clear hE25
  have ho44 := ho41.move (Step.refl _ Nil) nilM (fun b_ o_ h_ _ => hF36.to b_ o_ h_)
  refine of_op (wpOp_conv hE39 (src := 22) (dst := 9) (e := 5) (d := 11) (by kernel_rfl) (by kernel_rfl) (by kernel_rfl) (by kernel_rfl) ho44 fun a45 hE46 => ?_)
  clear hE39
  refine go_rn [4] [] [(2, .v (.string (bs X)))] hW35 hE46 fun a47 hE48 => ?_
  clear hE46
  refine wpOps_nil ?_
  refine then_normal ?_
  refine wp_ret ?_
  refine leave hE48 hW35.cells (v := .string (bs X)) (by kernel_rfl) ?_
  refine ⟨_, _, _, _, rfl, Str.of hW35 0 rfl, (hr43.move (Step.refl _ Nil) nilM immOut), hW35.step, rfl⟩

theorem rNullableString0 (X : Bs) (rest : Bs)  {br : Nat} {A : Option Addr} {m c : Nat} {w : World} {F : Nat → Nat → Prop} (hst : Str w br [.slice A m c, .bool false]) (hr : RdS w F A m c ((be 2 (-1)) ++ rest)) (hFd : ∀ b o, F b o → ¬ RdM br b o) :
    Calls Tryz.prog 165 #[.pointer (some ⟨br, 0, none⟩)] w (RdPost w br (Fp F w) rest fun v w' => ∃ A2, v = .pointer A2 ∧ (∀ ad, A2 = some ad → ∃ b o, ad = ⟨b, o, none⟩ ∧ AtF w' (Fp F w) b o [.string (bs X)]) ∧ A2.isNone = true) := by
  refine enter (n := 14) Tryz.func165 rfl Tryz.ntmps165 (by kernel_rfl) fun a hE => ?_
  have hW : WOk w (RdM br) w [⟨br, 0, [.slice A m c, .bool false], true⟩] [] := WOk.startStr hst
  have hE1 := (hE.grow ⟨br, 0, [.slice A m c, .bool false], true⟩).recast 0 (.v (.pointer (some ⟨br, 0, none⟩))) (.p 0 0) rfl rfl (Nat.le_of_ble_eq_true (n := 1) rfl)
  refine go_sp [(0, .p 0 0)] hW hE1 fun a1 hE2 => ?_
  clear hE1
  refine go_seq_region [0, 1, 2] (by kernel_rfl) ?_
  refine go_rn [0] [1, 2] [(0, .p 0 0), (5, .p 0 0)] hW hE2 fun a3 hE4 => ?_
  clear hE2
  refine of_op (wpOp_call hE4 (f := 161) (vs := [.pointer (some ⟨br, 0, none⟩)]) (d := 6) (by kernel_rfl) Tryz.call161 (rInt16 (-1) (rest) (Str.of hW 0 rfl) (hr.move hW.step (fun b_ o_ h_ _ => hFd b_ o_ h_) (hW.immM hFd)) (imm_rd 0 rfl)) ?_)
  rintro e_ w5 ⟨_, A6, n7, c8, rfl, hs9, hr10, hst11, rfl⟩
  obtain ⟨hW13, hF14, hl18⟩ := hW.wrote 0 [⟨br, 0, [.slice A6 n7 c8, .bool false], true⟩] rfl hst11 hs9
  have hr19 := hr10.move (Step.refl _ Nil) nilM (fun b_ o_ h_ _ => hF14.to b_ o_ h_)
  refine ⟨_, rfl, fun a15 hE16 => ?_⟩
  have hE17 : EnvOk 14 [⟨br, 0, [.slice A6 n7 c8, .bool false], true⟩] [(6, .v (.int .i16 (IntKind.i16.wrap (-1)))), (0, .p 0 0), (5, .p 0 0)] _ := hE16.places (⟨rfl, rfl, trivial⟩)
  clear hE4
  refine go_rn [2] [] [(0, .p 0 0), (3, .v (.int .i16 (IntKind.i16.wrap (-1))))] hW13 hE17 fun a20 hE21 => ?_
  clear hE17
  refine wpOps_nil ?_
  refine then_normal ?_
  refine wp_seq ?_
  refine go_sp [(0, .p 0 0), (3, .v (.int .i16 (IntKind.i16.wrap (-1)))), (8, .v (.bool (decide ((IntKind.i16.wrap (-1)) < 0))))] hW13 hE21 fun a22 hE23 => ?_
  clear hE21
  refine cond_true hE23 (b := decide ((IntKind.i16.wrap (-1)) < 0)) (by kernel_rfl) (decide_eq_true (by simp only [i16w, i32w, i64w]; omega)) ?_
  refine go_sp [(2, .v (.pointer none))] hW13 hE23 fun a24 hE25 => ?_
  clear hE23
  refine wp_ret ?_
  refine then_ret ?_
  refine leave hE25 hW13.cells (v := .pointer none) (by kernel_rfl) ?_
  refine ⟨_, _, _, _, rfl, Str.of hW13 0 rfl, (hr19.move (Step.refl _ Nil) nilM immOut), hW13.step, _, rfl, (fun ad h_ => by cases h_), rfl⟩

theorem rNullableString1 (X : Bs) (hX : X.length ≤ 32767) (rest : Bs)  {br : Nat} {A : Option Addr} {m c : Nat} {w : World} {F : Nat → Nat → Prop} (hst : Str w br [.slice A m c, .bool false]) (hr : RdS w F A m c ((be 2 ((X.length : Nat) : Int)) ++ (X ++ rest))) (hFd : ∀ b o, F b o → ¬ RdM br b o) :
    Calls Tryz.prog 165 #[.pointer (some ⟨br, 0, none⟩)] w (RdPost w br (Fp F w) rest fun v w' => ∃ A2, v = .pointer A2 ∧ (∀ ad, A2 = some ad → ∃ b o, ad = ⟨b, o, none⟩ ∧ AtF w' (Fp F w) b o [.string (bs X)]) ∧ A2.isNone = false) := by
  refine enter (n := 14) Tryz.func165 rfl Tryz.ntmps165 (by kernel_rfl) fun a hE => ?_
  have hW : WOk w (RdM br) w [⟨br, 0, [.slice A m c, .bool false], true⟩] [] := WOk.startStr hst
  have hE1 := (hE.grow ⟨br, 0, [.slice A m c, .bool false], true⟩).recast 0 (.v (.pointer (some ⟨br, 0, none⟩))) (.p 0 0) rfl rfl (Nat.le_of_ble_eq_true (n := 1) rfl)
  refine go_sp [(0, .p 0 0)] hW hE1 fun a1 hE2 => ?_
  clear hE1
  refine go_seq_region [0, 1, 2] (by kernel_rfl) ?_
  refine go_rn [0] [1, 2] [(0, .p 0 0), (5, .p 0 0)] hW hE2 fun a3 hE4 => ?_
  clear hE2
  refine of_op (wpOp_call hE4 (f := 161) (vs := [.pointer (some ⟨br, 0, none⟩)]) (d := 6) (by kernel_rfl) Tryz.call161 (rInt16 ((X.length : Nat) : Int) (X ++ rest) (Str.of hW 0 rfl) (hr.move hW.step (fun b_ o_ h_ _ => hFd b_ o_ h_) (hW.immM hFd)) (imm_rd 0 rfl)) ?_)
  rintro e_ w5 ⟨_, A6, n7, c8, rfl, hs9, hr10, hst11, rfl⟩
  obtain ⟨hW13, hF14, hl18⟩ := hW.wrote 0 [⟨br, 0, [.slice A6 n7 c8, .bool false], true⟩] rfl hst11 hs9
  have hr19 := hr10.move (Step.refl _ Nil) nilM (fun b_ o_ h_ _ => hF14.to b_ o_ h_)
  refine ⟨_, rfl, fun a15 hE16 => ?_⟩
  have hE17 : EnvOk 14 [⟨br, 0, [.slice A6 n7 c8, .bool false], true⟩] [(6, .v (.int .i16 (IntKind.i16.wrap ((X.length : Nat) : Int)))), (0, .p 0 0), (5, .p 0 0)] _ := hE16.places (⟨rfl, rfl, trivial⟩)
  clear hE4
  refine go_rn [2] [] [(0, .p 0 0), (3, .v (.int .i16 (IntKind.i16.wrap ((X.length : Nat) : Int))))] hW13 hE17 fun a20 hE21 => ?_
  clear hE17
  refine wpOps_nil ?_
  refine then_normal ?_
  refine wp_seq ?_
  refine go_sp [(0, .p 0 0), (3, .v (.int .i16 (IntKind.i16.wrap ((X.length : Nat) : Int)))), (8, .v (.bool (decide ((IntKind.i16.wrap ((X.length : Nat) : Int)) < 0))))] hW13 hE21 fun a22 hE23 => ?_
  clear hE21
  refine cond_false hE23 (b := decide ((IntKind.i16.wrap ((X.length : Nat) : Int)) < 0)) (by kernel_rfl) (decide_eq_false (by simp only [i16w, i32w, i64w]; omega)) ?_
  refine wp_skip ?_
  refine then_normal ?_
  refine go_seq_region [0, 1, 2, 3, 4, 5, 6] (by kernel_rfl) ?_
  refine go_rn [0, 1, 2] [3, 4, 5, 6] [(9, .p 0 0), (11, .v (.int .i64 (IntKind.i64.wrap (IntKind.i16.wrap ((X.length : Nat) : Int)))))] hW13 hE23 fun a24 hE25 => ?_
  clear hE23
  have he26 : IntKind.i64.wrap (IntKind.i16.wrap ((X.length : Nat) : Int)) = ((X.length : Nat) : Int) := by simp only [i16w, i32w, i64w]; omega
  have hE28 := EnvOk.pick hE25 (ks := [9, 11]) (env' := [(9, .p 0 0), (11, .v (.int .i64 (IntKind.i64.wrap (IntKind.i16.wrap ((X.length : Nat) : Int)))))]) (by kernel_rfl)
  have hE27 := hE28.cast (env' := [(9, .p 0 0), (11, .v (.int .i64 ((X.length : Nat) : Int)))]) (by rw [he26])
  clear hE25 hE28
  refine of_op (wpOp_call hE27 (f := 185) (vs := [.pointer (some ⟨br, 0, none⟩), .int .i64 ((X.length : Nat) : Int)]) (d := 12) (by kernel_rfl) Tryz.call185 (rSpan X (rest) (Str.of hW13 0 rfl) hr19 (imm_rd 0 rfl)) ?_)
  rintro e_ w29 ⟨_, A30, n31, c32, rfl, hs33, hr34, hst35, ⟨A42, rfl, ho43⟩⟩
  obtain ⟨hW37, hF38, hl44⟩ := hW13.wrote 0 [⟨br, 0, [.slice A30 n31 c32, .bool false], true⟩] rfl hst35 hs33
  have hr45 := hr34.move (Step.refl _ Nil) nilM (fun b_ o_ h_ _ => hF38.to b_ o_ h_)
  refine ⟨_, rfl, fun a39 hE40 => ?_⟩
  have hE41 : EnvOk 14 [⟨br, 0, [.slice A30 n31 c32, .bool false], true⟩] [(12, .v (.slice A42 X.length X.length)), (9, .p 0 0), (11, .v (.int .i64 ((X.length : Nat) : Int)))] _ := hE40.places (⟨rfl, rfl, trivial⟩)
  clear hE27
  have ho46 := ho43.move (Step.refl _ Nil) nilM (fun b_ o_ h_ _ => hF38.to b_ o_ h_)
  refine of_op (wpOp_conv hE41 (src := 22) (dst := 9) (e := 5) (d := 13) (by kernel_rfl) (by kernel_rfl) (by kernel_rfl) (by kernel_rfl) ho46 fun a47 hE48 => ?_)
  clear hE41
  refine of_op (wpOp_alloc hW37 hE48 (d := 4) (cs := [.string ByteArray.empty]) (by kernel_rfl) fun b49 a50 w51 hb52 hz53 hF54 hW55 hE56 => ?_)
  clear hE48 hW37
  refine of_op (wpOp_store hW55 hE56 (oi := 1) (cs := [.string (bs X)]) (by kernel_rfl) fun w57 hF58 hW59 hE60 => ?_)
  clear hE56 hW55
  refine wpOps_nil ?_
  refine then_normal ?_
  refine go_sp [(2, .p 1 0)] hW59 hE60 fun a61 hE62 => ?_
  clear hE60
  refine wp_ret ?_
  refine leave hE62 hW59.cells (v := .pointer (some ⟨b49, 0, none⟩)) (by kernel_rfl) ?_
  refine ⟨_, _, _, _, rfl, Str.of hW59 0 rfl, ((hr45.move (Fr.trans hF54 hF58).step immM (Fr.trans hF54 hF58).to').move (Step.refl _ Nil) nilM immOut), hW59.step, _, rfl, (fun ad h_ => by
    obtain rfl := Option.some.inj h_
    exact ⟨_, 0, rfl, fun j v_ hj => ⟨.inr (by assumption), hW59.cells 1 _ rfl j v_ hj⟩⟩), rfl⟩

theorem rNullableString (nul : Bool) (X : Bs) (hX : X.length ≤ 32767) (rest : Bs) {br : Nat} {A : Option Addr} {m c : Nat} {w : World} {F : Nat → Nat → Prop} (hst : Str w br [.slice A m c, .bool false]) (hr : RdS w F A m c ((if nul = true then be 2 (-1) else be 2 ((X.length : Nat) : Int) ++ X) ++ rest)) (hFd : ∀ b o, F b o → ¬ RdM br b o) :
    Calls Tryz.prog 165 #[.pointer (some ⟨br, 0, none⟩)] w (RdPost w br (Fp F w) rest fun v w' => ∃ A2, v = .pointer A2 ∧ (∀ ad, A2 = some ad → ∃ b o, ad = ⟨b, o, none⟩ ∧ AtF w' (Fp F w) b o [.string (bs X)]) ∧ A2.isNone = nul) := by
  cases nul
  · exact rNullableString1 X hX rest hst (hr.cast (by simp only [Bool.false_eq_true, if_false, List.append_assoc])) hFd
  · exact rNullableString0 X rest hst (hr.cast (by simp only [if_true])) hFd

theorem rCompactNullableString0 (X : Bs) (rest : Bs)  {br : Nat} {A : Option Addr} {m c : Nat} {w : World} {F : Nat → Nat → Prop} (hst : Str w br [.slice A m c, .bool false]) (hr : RdS w F A m c ((uv 0) ++ rest)) (hFd : ∀ b o, F b o → ¬ RdM br b o) :
    Calls Tryz.prog 163 #[.pointer (some ⟨br, 0, none⟩)] w (RdPost w br (Fp F w) rest fun v w' => ∃ A2, v = .pointer A2 ∧ (∀ ad, A2 = some ad → ∃ b o, ad = ⟨b, o, none⟩ ∧ AtF w' (Fp F w) b o [.string (bs X)]) ∧ A2.isNone = true) := by
  refine enter (n := 15) Tryz.func163 rfl Tryz.ntmps163 (by kernel_rfl) fun a hE => ?_
  have hW : WOk w (RdM br) w [⟨br, 0, [.slice A m c, .bool false], true⟩] [] := WOk.startStr hst
  have hE1 := (hE.grow ⟨br, 0, [.slice A m c, .bool false], true⟩).recast 0 (.v (.pointer (some ⟨br, 0, none⟩))) (.p 0 0) rfl rfl (Nat.le_of_ble_eq_true (n := 1) rfl)
  refine go_sp [(0, .p 0 0)] hW hE1 fun a1 hE2 => ?_
  clear hE1
  refine go_seq_region [0, 1, 2, 3, 4] (by kernel_rfl) ?_
  refine go_rn [0] [1, 2, 3, 4] [(0, .p 0 0), (5, .p 0 0)] hW hE2 fun a3 hE4 => ?_
  clear hE2
  refine of_op (wpOp_call hE4 (f := 183) (vs := [.pointer (some ⟨br, 0, none⟩)]) (d := 6) (by kernel_rfl) Tryz.call183 (rUvarint 0 (by omega) (rest) (Str.of hW 0 rfl) (hr.move hW.step (fun b_ o_ h_ _ => hFd b_ o_ h_) (hW.immM hFd)) (imm_rd 0 rfl)) ?_)
  rintro e_ w5 ⟨_, A6, n7, c8, rfl, hs9, hr10, hst11, rfl⟩
  obtain ⟨hW13, hF14, hl18⟩ := hW.wrote 0 [⟨br, 0, [.slice A6 n7 c8, .bool false], true⟩] rfl hst11 hs9
  have hr19 := hr10.move (Step.refl _ Nil) nilM (fun b_ o_ h_ _ => hF14.to b_ o_ h_)
  refine ⟨_, rfl, fun a15 hE16 => ?_⟩
  have hE17 : EnvOk 15 [⟨br, 0, [.slice A6 n7 c8, .bool false], true⟩] [(6, .v (.int .u32 ((0 : Nat) : Int))), (0, .p 0 0), (5, .p 0 0)] _ := hE16.places (⟨rfl, rfl, trivial⟩)
  clear hE4
  refine go_rn [2, 3, 4] [] [(0, .p 0 0), (3, .v (.int .i64 (IntKind.i64.wrap ((IntKind.i64.wrap ((0 : Nat) : Int)) - 1))))] hW13 hE17 fun a20 hE21 => ?_
  clear hE17
  refine wpOps_nil ?_
  refine then_normal ?_
  refine wp_seq ?_
  refine go_sp [(0, .p 0 0), (3, .v (.int .i64 (IntKind.i64.wrap ((IntKind.i64.wrap ((0 : Nat) : Int)) - 1)))), (10, .v (.bool (decide ((IntKind.i64.wrap ((IntKind.i64.wrap ((0 : Nat) : Int)) - 1)) < 0))))] hW13 hE21 fun a22 hE23 => ?_
  clear hE21
  refine cond_true hE23 (b := decide ((IntKind.i64.wrap ((IntKind.i64.wrap ((0 : Nat) : Int)) - 1)) < 0)) (by kernel_rfl) (decide_eq_true (by simp only [i16w, i32w, i64w]; omega)) ?_
  refine go_sp [(2, .v (.pointer none))] hW13 hE23 fun a24 hE25 => ?_
  clear hE23
  refine wp_ret ?_
  refine then_ret ?_
  refine leave hE25 hW13.cells (v := .pointer none) (by kernel_rfl) ?_
  refine ⟨_, _, _, _, rfl, Str.of hW13 0 rfl, (hr19.move (Step.refl _ Nil) nilM immOut), hW13.step, _, rfl, (fun ad h_ => by cases h_), rfl⟩

theorem rCompactNullableString1 (X : Bs) (hX : X.length ≤ 1000000) (rest : Bs)  {br : Nat} {A : Option Addr} {m c : Nat} {w : World} {F : Nat → Nat → Prop} (hst : Str w br [.slice A m c, .bool false]) (hr : RdS w F A m c ((uv (X.length + 1)) ++ (X ++ rest))) (hFd : ∀ b o, F b o → ¬ RdM br b o) :
    Calls Tryz.prog 163 #[.pointer (some ⟨br, 0, none⟩)] w (RdPost w br (Fp F w) rest fun v w' => ∃ A2, v = .pointer A2 ∧ (∀ ad, A2 = some ad → ∃ b o, ad = ⟨b, o, none⟩ ∧ AtF w' (Fp F w) b o [.string (bs X)]) ∧ A2.isNone = false) := by
  refine enter (n := 15) Tryz.func163 rfl Tryz.ntmps163 (by kernel_rfl) fun a hE => ?_
  have hW : WOk w (RdM br) w [⟨br, 0, [.slice A m c, .bool false], true⟩] [] := WOk.startStr hst
  have hE1 := (hE.grow ⟨br, 0, [.slice A m c, .bool false], true⟩).recast 0 (.v (.pointer (some ⟨br, 0, none⟩))) (.p 0 0) rfl rfl (Nat.le_of_ble_eq_true (n := 1) rfl)
  refine go_sp [(0, .p 0 0)] hW hE1 fun a1 hE2 => ?_
  clear hE1
  refine go_seq_region [0, 1, 2, 3, 4] (by kernel_rfl) ?_
  refine go_rn [0] [1, 2, 3, 4] [(0, .p 0 0), (5, .p 0 0)] hW hE2 fun a3 hE4 => ?_
  clear hE2
  refine of_op (wpOp_call hE4 (f := 183) (vs := [.pointer (some ⟨br, 0, none⟩)]) (d := 6) (by kernel_rfl) Tryz.call183 (rUvarint (X.length + 1) (by omega) (X ++ rest) (Str.of hW 0 rfl) (hr.move hW.step (fun b_ o_ h_ _ => hFd b_ o_ h_) (hW.immM hFd)) (imm_rd 0 rfl)) ?_)
  rintro e_ w5 ⟨_, A6, n7, c8, rfl, hs9, hr10, hst11, rfl⟩
  obtain ⟨hW13, hF14, hl18⟩ := hW.wrote 0 [⟨br, 0, [.slice A6 n7 c8, .bool false], true⟩] rfl hst11 hs9
  have hr19 := hr10.move (Step.refl _ Nil) nilM (fun b_ o_ h_ _ => hF14.to b_ o_ h_)
  refine ⟨_, rfl, fun a15 hE16 => ?_⟩
  have hE17 : EnvOk 15 [⟨br, 0, [.slice A6 n7 c8, .bool false], true⟩] [(6, .v (.int .u32 ((X.length + 1 : Nat) : Int))), (0, .p 0 0), (5, .p 0 0)] _ := hE16.places (⟨rfl, rfl, trivial⟩)
  clear hE4
  refine go_rn [2, 3, 4] [] [(0, .p 0 0), (3, .v (.int .i64 (IntKind.i64.wrap ((IntKind.i64.wrap ((X.length + 1 : Nat) : Int)) - 1))))] hW13 hE17 fun a20 hE21 => ?_
  clear hE17
  refine wpOps_nil ?_
  refine then_normal ?_
  refine wp_seq ?_
  refine go_sp [(0, .p 0 0), (3, .v (.int .i64 (IntKind.i64.wrap ((IntKind.i64.wrap ((X.length + 1 : Nat) : Int)) - 1)))), (10, .v (.bool (decide ((IntKind.i64.wrap ((IntKind.i64.wrap ((X.length + 1 : Nat) : Int)) - 1)) < 0))))] hW13 hE21 fun a22 hE23 => ?_
  clear hE21
  refine cond_false hE23 (b := decide ((IntKind.i64.wrap ((IntKind.i64.wrap ((X.length + 1 : Nat) : Int)) - 1)) < 0)) (by kernel_rfl) (decide_eq_false (by simp only [i16w, i32w, i64w]; omega)) ?_
  refine wp_skip ?_
  refine then_normal ?_
  refine go_seq_region [0, 1, 2, 3, 4, 5] (by kernel_rfl) ?_
  refine go_rn [0, 1] [2, 3, 4, 5] [(11, .p 0 0), (12, .v (.int .i64 (IntKind.i64.wrap ((IntKind.i64.wrap ((X.length + 1 : Nat) : Int)) - 1))))] hW13 hE23 fun a24 hE25 => ?_
  clear hE23
  have he26 : IntKind.i64.wrap ((IntKind.i64.wrap ((X.length + 1 : Nat) : Int)) - 1) = ((X.length : Nat) : Int) := by simp only [i16w, i32w, i64w]; omega
  have hE28 := EnvOk.pick hE25 (ks := [11, 12]) (env' := [(11, .p 0 0), (12, .v (.int .i64 (IntKind.i64.wrap ((IntKind.i64.wrap ((X.length + 1 : Nat) : Int)) - 1))))]) (by kernel_rfl)
  have hE27 := hE28.cast (env' := [(11, .p 0 0), (12, .v (.int .i64 ((X.length : Nat) : Int)))]) (by rw [he26])
  clear hE25 hE28
  refine of_op (wpOp_call hE27 (f := 185) (vs := [.pointer (some ⟨br, 0, none⟩), .int .i64 ((X.length : Nat) : Int)]) (d := 13) (by kernel_rfl) Tryz.call185 (rSpan X (rest) (Str.of hW13 0 rfl) hr19 (imm_rd 0 rfl)) ?_)
  rintro e_ w29 ⟨_, A30, n31, c32, rfl, hs33, hr34, hst35, ⟨A42, rfl, ho43⟩⟩
  obtain ⟨hW37, hF38, hl44⟩ := hW13.wrote 0 [⟨br, 0, [.slice A30 n31 c32, .bool false], true⟩] rfl hst35 hs33
  have hr45 := hr34.move (Step.refl _ Nil) nilM (fun b_ o_ h_ _ => hF38.to b_ o_ h_)
  refine ⟨_, rfl, fun a39 hE40 => ?_⟩
  have hE41 : EnvOk 15 [⟨br, 0, [.slice A30 n31 c32, .bool false], true⟩] [(13, .v (.slice A42 X.length X.length)), (11, .p 0 0), (12, .v (.int .i64 ((X.length : Nat) : Int)))] _ := hE40.places (⟨rfl, rfl, trivial⟩)
  clear hE27
  have ho46 := ho43.move (Step.refl _ Nil) nilM (fun b_ o_ h_ _ => hF38.to b_ o_ h_)
  refine of_op (wpOp_conv hE41 (src := 22) (dst := 9) (e := 5) (d := 14) (by kernel_rfl) (by kernel_rfl) (by kernel_rfl) (by kernel_rfl) ho46 fun a47 hE48 => ?_)
  clear hE41
  refine of_op (wpOp_alloc hW37 hE48 (d := 4) (cs := [.string ByteArray.empty]) (by kernel_rfl) fun b49 a50 w51 hb52 hz53 hF54 hW55 hE56 => ?_)
  clear hE48 hW37
  refine of_op (wpOp_store hW55 hE56 (oi := 1) (cs := [.string (bs X)]) (by kernel_rfl) fun w57 hF58 hW59 hE60 => ?_)
  clear hE56 hW55
  refine wpOps_nil ?_
  refine then_normal ?_
  refine go_sp [(2, .p 1 0)] hW59 hE60 fun a61 hE62 => ?_
  clear hE60
  refine wp_ret ?_
  refine leave hE62 hW59.cells (v := .pointer (some ⟨b49, 0, none⟩)) (by kernel_rfl) ?_
  refine ⟨_, _, _, _, rfl, Str.of hW59 0 rfl, ((hr45.move (Fr.trans hF54 hF58).step immM (Fr.trans hF54 hF58).to').move (Step.refl _ Nil) nilM immOut), hW59.step, _, rfl, (fun ad h_ => by
    obtain rfl := Option.some.inj h_
    exact ⟨_, 0, rfl, fun j v_ hj => ⟨.inr (by assumption), hW59.cells 1 _ rfl j v_ hj⟩⟩), rfl⟩

theorem rCompactNullableString (nul : Bool) (X : Bs) (hX : X.length ≤ 1000000) (rest : Bs) {br : Nat} {A : Option Addr} {m c : Nat} {w : World} {F : Nat → Nat → Prop} (hst : Str w br [.slice A m c, .bool false]) (hr : RdS w F A m c ((if nul = true then uv 0 else uv (X.length + 1) ++ X) ++ rest)) (hFd : ∀ b o, F b o → ¬ RdM br b o) :
    Calls Tryz.prog 163 #[.pointer (some ⟨br, 0, none⟩)] w (RdPost w br (Fp F w) rest fun v w' => ∃ A2, v = .pointer A2 ∧ (∀ ad, A2 = some ad → ∃ b o, ad = ⟨b, o, none⟩ ∧ AtF w' (Fp F w) b o [.string (bs X)]) ∧ A2.isNone = nul) := by
  cases nul
  · exact rCompactNullableString1 X hX rest hst (hr.cast (by simp only [Bool.false_eq_true, if_false, List.append_assoc])) hFd
  · exact rCompactNullableString0 X rest hst (hr.cast (by simp only [if_true])) hFd

theorem rArrayLen (x : Int) (hx : -1 ≤ x ∧ x ≤ 32767) (rest : Bs) (hl : x ≤ ((rest.length : Nat) : Int)) {br : Nat} {A : Option Addr} {m c : Nat} {w : World} {F : Nat → Nat → Prop} (hst : Str w br [.slice A m c, .bool false]) (hr : RdS w F A m c ((be 4 x) ++ rest)) (hFd : ∀ b o, F b o → ¬ RdM br b o) :
    Calls Tryz.prog 144 #[.pointer (some ⟨br, 0, none⟩)] w (RdPost w br (Fp F w) rest fun v w' => v = .int .i32 x) := by
  refine enter (n := 21) Tryz.func144 rfl Tryz.ntmps144 (by kernel_rfl) fun a hE => ?_
  have hW : WOk w (RdM br) w [⟨br, 0, [.slice A m c, .bool false], true⟩] [] := WOk.startStr hst
  have hE1 := (hE.grow ⟨br, 0, [.slice A m c, .bool false], true⟩).recast 0 (.v (.pointer (some ⟨br, 0, none⟩))) (.p 0 0) rfl rfl (Nat.le_of_ble_eq_true (n := 1) rfl)
  refine go_sp [(0, .p 0 0)] hW hE1 fun a1 hE2 => ?_
  clear hE1
  refine go_seq_region [0, 1, 2] (by kernel_rfl) ?_
  refine go_rn [0] [1, 2] [(0, .p 0 0), (4, .p 0 0)] hW hE2 fun a3 hE4 => ?_
  clear hE2
  refine of_op (wpOp_call hE4 (f := 153) (vs := [.pointer (some ⟨br, 0, none⟩)]) (d := 5) (by kernel_rfl) Tryz.call153 (rInt32 x (rest) (Str.of hW 0 rfl) (hr.move hW.step (fun b_ o_ h_ _ => hFd b_ o_ h_) (hW.immM hFd)) (imm_rd 0 rfl)) ?_)
  rintro e_ w5 ⟨_, A6, n7, c8, rfl, hs9, hr10, hst11, rfl⟩
  obtain ⟨hW13, hF14, hl18⟩ := hW.wrote 0 [⟨br, 0, [.slice A6 n7 c8, .bool false], true⟩] rfl hst11 hs9
  have hr19 := hr10.move (Step.refl _ Nil) nilM (fun b_ o_ h_ _ => hF14.to b_ o_ h_)
  refine ⟨_, rfl, fun a15 hE16 => ?_⟩
  have hE17 : EnvOk 21 [⟨br, 0, [.slice A6 n7 c8, .bool false], true⟩] [(5, .v (.int .i32 (IntKind.i32.wrap x))), (0, .p 0 0), (4, .p 0 0)] _ := hE16.places (⟨rfl, rfl, trivial⟩)
  clear hE4
  refine go_rn [2] [] [(0, .p 0 0), (3, .v (.int .i32 (IntKind.i32.wrap x)))] hW13 hE17 fun a20 hE21 => ?_
  clear hE17
  refine wpOps_nil ?_
  refine then_normal ?_
  refine wp_seq ?_
  refine go_sp [(0, .p 0 0), (3, .v (.int .i32 (IntKind.i32.wrap x))), (13, .v (.bool (decide (((n7 : Nat) : Int) < (IntKind.i64.wrap (IntKind.i32.wrap x))))))] hW13 hE21 fun a22 hE23 => ?_
  clear hE21
  refine cond_false hE23 (b := decide (((n7 : Nat) : Int) < (IntKind.i64.wrap (IntKind.i32.wrap x)))) (by kernel_rfl) (decide_eq_false (by have h_ := hr19.len; simp only [i32w, i64w]; omega)) ?_
  refine wp_skip ?_
  refine then_normal ?_
  refine go_sp [(2, .v (.int .i32 (IntKind.i32.wrap x)))] hW13 hE23 fun a24 hE25 => ?_
  clear hE23
  refine wp_ret ?_
  refine leave hE25 hW13.cells (v := .int .i32 (IntKind.i32.wrap x)) (by kernel_rfl) ?_
  refine ⟨_, _, _, _, rfl, Str.of hW13 0 rfl, (hr19.move (Step.refl _ Nil) nilM immOut), hW13.step, congrArg (Value.int .i32) (by simp only [i32w]; omega)⟩

theorem rCompactArrayLen (n : Nat) (hn : n ≤ 32768) (rest : Bs) (hl : n ≤ rest.length + 1) {br : Nat} {A : Option Addr} {m c : Nat} {w : World} {F : Nat → Nat → Prop} (hst : Str w br [.slice A m c, .bool false]) (hr : RdS w F A m c ((uv n) ++ rest)) (hFd : ∀ b o, F b o → ¬ RdM br b o) :
    Calls Tryz.prog 143 #[.pointer (some ⟨br, 0, none⟩)] w (RdPost w br (Fp F w) rest fun v w' => v = .int .i32 (((n : Nat) : Int) - 1)) := by
  refine enter (n := 23) Tryz.func143 rfl Tryz.ntmps143 (by kernel_rfl) fun a hE => ?_
  have hW : WOk w (RdM br) w [⟨br, 0, [.slice A m c, .bool false], true⟩] [] := WOk.startStr hst
  have hE1 := (hE.grow ⟨br, 0, [.slice A m c, .bool false], true⟩).recast 0 (.v (.pointer (some ⟨br, 0, none⟩))) (.p 0 0) rfl rfl (Nat.le_of_ble_eq_true (n := 1) rfl)
  refine go_sp [(0, .p 0 0)] hW hE1 fun a1 hE2 => ?_
  clear hE1
  refine go_seq_region [0, 1, 2, 3, 4] (by kernel_rfl) ?_
  refine go_rn [0] [1, 2, 3, 4] [(0, .p 0 0), (4, .p 0 0)] hW hE2 fun a3 hE4 => ?_
  clear hE2
  refine of_op (wpOp_call hE4 (f := 183) (vs := [.pointer (some ⟨br, 0, none⟩)]) (d := 5) (by kernel_rfl) Tryz.call183 (rUvarint n (by omega) (rest) (Str.of hW 0 rfl) (hr.move hW.step (fun b_ o_ h_ _ => hFd b_ o_ h_) (hW.immM hFd)) (imm_rd 0 rfl)) ?_)
  rintro e_ w5 ⟨_, A6, n7, c8, rfl, hs9, hr10, hst11, rfl⟩
  obtain ⟨hW13, hF14, hl18⟩ := hW.wrote 0 [⟨br, 0, [.slice A6 n7 c8, .bool false], true⟩] rfl hst11 hs9
  have hr19 := hr10.move (Step.refl _ Nil) nilM (fun b_ o_ h_ _ => hF14.to b_ o_ h_)
  refine ⟨_, rfl, fun a15 hE16 => ?_⟩
  have hE17 : EnvOk 23 [⟨br, 0, [.slice A6 n7 c8, .bool false], true⟩] [(5, .v (.int .u32 ((n : Nat) : Int))), (0, .p 0 0), (4, .p 0 0)] _ := hE16.places (⟨rfl, rfl, trivial⟩)
  clear hE4
  refine go_rn [2, 3, 4] [] [(0, .p 0 0), (3, .v (.int .i32 (IntKind.i32.wrap ((IntKind.i32.wrap ((n : Nat) : Int)) - 1))))] hW13 hE17 fun a20 hE21 => ?_
  clear hE17
  refine wpOps_nil ?_
  refine then_normal ?_
  refine wp_seq ?_
  refine go_sp [(0, .p 0 0), (3, .v (.int .i32 (IntKind.i32.wrap ((IntKind.i32.wrap ((n : Nat) : Int)) - 1)))), (15, .v (.bool (decide (((n7 : Nat) : Int) < (IntKind.i64.wrap (IntKind.i32.wrap ((IntKind.i32.wrap ((n : Nat) : Int)) - 1)))))))] hW13 hE21 fun a22 hE23 => ?_
  clear hE21
  refine cond_false hE23 (b := decide (((n7 : Nat) : Int) < (IntKind.i64.wrap (IntKind.i32.wrap ((IntKind.i32.wrap ((n : Nat) : Int)) - 1))))) (by kernel_rfl) (decide_eq_false (by have h_ := hr19.len; simp only [i32w, i64w]; omega)) ?_
  refine wp_skip ?_
  refine then_normal ?_
  refine go_sp [(2, .v (.int .i32 (IntKind.i32.wrap ((IntKind.i32.wrap ((n : Nat) : Int)) - 1))))] hW13 hE23 fun a24 hE25 => ?_
  clear hE23
  refine wp_ret ?_
  refine leave hE25 hW13.cells (v := .int .i32 (IntKind.i32.wrap ((IntKind.i32.wrap ((n : Nat) : Int)) - 1))) (by kernel_rfl) ?_
  refine ⟨_, _, _, _, rfl, Str.of hW13 0 rfl, (hr19.move (Step.refl _ Nil) nilM immOut), hW13.step, congrArg (Value.int .i32) (by simp only [i32w]; omega)⟩

theorem rOk  (rest : Bs)  {br : Nat} {A : Option Addr} {m c : Nat} {w : World} {F : Nat → Nat → Prop} (hst : Str w br [.slice A m c, .bool false]) (hr : RdS w F A m c (rest)) (hFd : ∀ b o, F b o → ¬ RdM br b o) :
    Calls Tryz.prog 145 #[.pointer (some ⟨br, 0, none⟩)] w (RdPost w br (Fp F w) rest fun v w' => v = .bool true) := by
  refine enter (n := 8) Tryz.func145 rfl Tryz.ntmps145 (by kernel_rfl) fun a hE => ?_
  have hW : WOk w (RdM br) w [⟨br, 0, [.slice A m c, .bool false], true⟩] [] := WOk.startStr hst
  have hE1 := (hE.grow ⟨br, 0, [.slice A m c, .bool false], true⟩).recast 0 (.v (.pointer (some ⟨br, 0, none⟩))) (.p 0 0) rfl rfl (Nat.le_of_ble_eq_true (n := 1) rfl)
  refine go_sp [(0, .p 0 0)] hW hE1 fun a1 hE2 => ?_
  clear hE1
  refine go_sp [(2, .v (.bool true))] hW hE2 fun a3 hE4 => ?_
  clear hE2
  refine wp_ret ?_
  refine leave hE4 hW.cells (v := .bool true) (by kernel_rfl) ?_
  refine ⟨_, _, _, _, rfl, Str.of hW 0 rfl, ((hr.move hW.step (fun b_ o_ h_ _ => hFd b_ o_ h_) (hW.immM hFd)).move (Step.refl _ Nil) nilM immOut), hW.step, rfl⟩

end Go.Proofs.YtnhgfbgdoelfoaaGreatDoor.ME

/- Reading in larger steps: elements, cuts, calls of nothing, lengths. Own work. -/
namespace Go.Proofs.YtnhgfbgdoelfoaaGreatDoor.ME
open Go
open Go.RowKit
set_option linter.unusedVariables false
set_option linter.unusedSimpArgs false

/-- two ways that come together again, wherever they stand -/
theorem wp_joinN {P : Program} {c : Code} {Mid : Act → World → Prop} {Q : Exit → Act → World → Prop} {a : Act} {w : World} (h1 : c.wp P (Exit.then Mid Q) a w) (h2 : ∀ a' w', Mid a' w' → Q .normal a' w') : c.wp P Q a w :=
  wp_mono h1 fun e a' w' h => by
    cases e <;> first | exact h2 a' w' h | exact h
theorem i32_succ {k : Nat} (h : k < 32768) : IntKind.i32.wrap (((k : Nat) : Int) + 1) = ((k + 1 : Nat) : Int) := by rw [i32w]; omega
theorem flat_ge {g : Tree → Bs} : ∀ {L : List Tree}, (∀ t, 0 < (g t).length) → L.length ≤ (L.flatMap g).length
  | [], _ => Nat.zero_le _
  | t :: r, h => by
    have h1 := h t
    have h2 := flat_ge (L := r) h
    rw [List.flatMap_cons, List.length_append, List.length_cons]; omega
theorem flat_ge' {g : Tree → Bs} {L : List Tree} (h : ∀ t, 0 < (g t).length) (rest : Bs) : L.length ≤ (L.flatMap g ++ rest).length := by
  have := flat_ge (L := L) h
  rw [List.length_append]; omega
theorem app_c {a b c d : Bs} (h : a = b) (h' : c = d) : a ++ c = b ++ d := by rw [h, h']
theorem if_c {c : Bool} {a b : Bs} (h : c = true → a = b) : (if c = true then a else []) = (if c = true then b else []) := by
  cases c
  · rfl
  · rw [h rfl]
theorem pos_l {x y : Bs} (h : 0 < x.length) : 0 < (x ++ y).length := by rw [List.length_append]; omega
theorem pos_if {b : Bool} {x y : Bs} (h : 0 < x.length) (h' : 0 < y.length) : 0 < (if b = true then x else y).length := by split <;> assumption
theorem pos_be {m : Nat} {x : Int} (h : 0 < m) : 0 < (be m x).length := by rw [be_length]; exact h
section
variable {Pr : Program} {ops : Array Oper} {Q : Exit → Act → World → Prop} {w0 : World} {M F : Nat → Nat → Prop} {n br : Nat} {tb : Tb} {env : Env} {P : FactW} {s : Bs} {a : Act} {w : World}
/-- 'a = a[:0]' -/
theorem rs_cut0 {id d : Nat} {t e : TypeId} {size bytes m cp : Nat} {A0 : Option Addr} (env1 env' : Env) (i : Nat) (h : RS w0 M F n br tb env P s a w) (K : ∀ a', RS w0 M F n br tb env' P s a' w → Q .normal a' w)
    (hr : List.range ops.size = List.range i ++ (i :: (List.range ops.size).drop (i + 1)) := by kernel_rfl) (e1 : ∀ A m c, runsP Pr ops n (rdo br A m c :: tb) (List.range i) (keysOf env1) env = some env1 := by intro _ _ _; kernel_rfl)
    (hc : ∀ A m_ c, cutE (rdo br A m_ c :: tb) env1 ops n i = some (t, .slice A0 m cp, none, some 0, d) := by intro _ _ _; kernel_rfl) (ht : rowTy Pr t = some (e, size, bytes) := by kernel_rfl)
    (e2 : ∀ A m_ c, runsP Pr ops n (rdo br A m_ c :: tb) ((List.range ops.size).drop (i + 1)) (keysOf env') ((d, .v (.slice A0 0 cp)) :: env1) = some env' := by intro _ _ _; kernel_rfl) : (Code.region id ops false).wp Pr Q a w := by
  refine go_region _ hr (rs_rn (List.range i) _ env1 h (fun a1 h1 => ?_) e1 rfl)
  obtain ⟨A, m1, c, hW, hrd, hE, hP⟩ := h1.open_
  refine of_op (wpOp_cut_hi hE (hc A m1 c) ht (j := 0) rfl (Nat.zero_le _) fun a2 hE2 => ?_)
  exact rs_rn _ [] env' (RS.mk' hW hrd hE2 h1.mv hP) (fun a3 h3 => wpOps_nil (K a3 h3)) e2 (List.append_nil _).symm
/-- a call that does nothing -/
theorem rs_nop {i d : Nat} {f : FuncId} {vs : List Value} {v0 : Value} {N : Act → World → Prop} (h : RS w0 M F n br tb env P s a w) (hc : ∀ w, Calls Pr f vs.toArray w (fun e w' => e = .returned v0 ∧ w' = w))
    (hf : ∀ args w, (callFunc f args).run Pr w = .ok (.enter f args) w) (K : ∀ a', RS w0 M F n br tb ((d, .v v0) :: env) P s a' w → N a' w)
    (he : ∀ A m c, callE (rdo br A m c :: tb) env ops n i = some (f, vs, d) := by intro _ _ _; kernel_rfl) : wpOp Pr ops Q i N a w := by
  obtain ⟨A, m, c, hW, hr, hE, hP⟩ := h.open_
  refine wpOp_call hE (he A m c) hf (hc w) ?_
  rintro e_ _ ⟨rfl, rfl⟩
  exact ⟨_, rfl, fun a1 hE1 => K a1 (RS.mk' hW hr hE1 h.mv hP)⟩
/-- a method that reads nothing -/
theorem rs_ok {id d : Nat} {f : FuncId} {v0 : Value} (env' : Env) (h : RS w0 M F n br tb env P s a w) (hc : RPrim0 Pr f [] s v0)
    (hf : ∀ args w, (callFunc f args).run Pr w = .ok (.enter f args) w) (K : ∀ a' w', RS w0 M F n br tb env' P s a' w' → Q .normal a' w')
    (he : ∀ A m c, callE (rdo br A m c :: tb) env ops n 0 = some (f, [.pointer (some ⟨br, 0, none⟩)], d) := by intro _ _ _; kernel_rfl)
    (e : ∀ A m c, runsP Pr ops n (rdo br A m c :: tb) ((List.range ops.size).drop 1) (keysOf env') ((d, .v v0) :: env) = some env' := by intro _ _ _; kernel_rfl) (hs : Nat.blt 0 ops.size = true := by kernel_rfl) : (Code.region id ops false).wp Pr Q a w :=
  rs_ca0 (X := []) (rest := s) env' h hc hf K he e hs
/-- the address of the thing that is filled next -/
theorem rs_index {i d k l g size bytes : Nat} {t e : TypeId} {z : Value} {N : Act → World → Prop} (h : RS w0 M F n br (tb ++ [restO g size z l k]) env P s a w) (hk : k < l) (hz : z.cells.size = size) (hl : below (tb.length + 1) env = true)
    (K : ∀ a', RS w0 M F n br (tb ++ [restO g size z l (k + 1), ⟨g, k * size, z.cells.toList, true⟩]) ((d, .p (tb.length + 2) 0) :: env) P s a' w → N a' w)
    (he : ∀ A m c, idxE (rdo br A m c :: (tb ++ [restO g size z l k])) env ops n i = some (t, some ⟨g, 0, none⟩, l, ((k : Nat) : Int), d) := by intro _ _ _; kernel_rfl) (ht : rowTy Pr t = some (e, size, bytes) := by kernel_rfl) : wpOp Pr ops Q i N a w := by
  obtain ⟨A, m, c, hW, hr, hE, hP⟩ := h.open_
  refine wpOp_index hE (he A m c) ht rfl rfl hk fun a1 hE1 => K a1 ?_
  have h1 : RS w0 M F n br (tb ++ [restO g size z l k]) ((d, .v (.pointer (some ⟨g, 0 + k * size, none⟩))) :: env) P s a1 w := RS.mk' hW hr hE1 h.mv hP
  have h2 := h1.next hk hz (by simpa only [below] using hl)
  have h3 := h2.recast d (.v (.pointer (some ⟨g, 0 + k * size, none⟩))) (.p (tb.length + 2) 0) (by simp [lk]) ?_ (by show tb.length + 2 < _; simp)
  · refine ⟨h3.mv, h3.ex, ?_, h3.fact⟩
    refine ⟨h3.env_.defers, h3.env_.size, fun q x hx => h3.env_.at_ q x ?_⟩
    simp only [lk] at hx ⊢
    split at hx
    · exact hx
    · exact hx
  · have : obAt (rdo br none 0 0 :: (tb ++ [restO g size z l (k + 1), ⟨g, k * size, z.cells.toList, true⟩])) (tb.length + 2) = ⟨g, k * size, z.cells.toList, true⟩ := by
      simp only [obAt, List.getD_eq_getElem?_getD]
      rw [show tb.length + 2 = (tb.length + 1) + 1 from rfl, List.getElem?_cons_succ, List.getElem?_append_right (by omega)]
      simp
    simp only [SV.val, this]
    simp
/-- 'v := &a[i]' -/
theorem rs_elem {id d k l g size bytes : Nat} {t e : TypeId} {z : Value} (env1 env' : Env) (i : Nat) (h : RS w0 M F n br (tb ++ [restO g size z l k]) env P s a w) (hk : k < l) (hz : z.cells.size = size) (hl : below (tb.length + 1) env1 = true)
    (K : ∀ a', RS w0 M F n br (tb ++ [restO g size z l (k + 1), ⟨g, k * size, z.cells.toList, true⟩]) env' P s a' w → Q .normal a' w)
    (hr : List.range ops.size = List.range i ++ (i :: (List.range ops.size).drop (i + 1)) := by kernel_rfl) (e1 : ∀ A m c, runsP Pr ops n (rdo br A m c :: (tb ++ [restO g size z l k])) (List.range i) (keysOf env1) env = some env1 := by intro _ _ _; kernel_rfl)
    (he : ∀ A m c, idxE (rdo br A m c :: (tb ++ [restO g size z l k])) env1 ops n i = some (t, some ⟨g, 0, none⟩, l, ((k : Nat) : Int), d) := by intro _ _ _; kernel_rfl) (ht : rowTy Pr t = some (e, size, bytes) := by kernel_rfl)
    (e2 : ∀ A m c, runsP Pr ops n (rdo br A m c :: (tb ++ [restO g size z l (k + 1), ⟨g, k * size, z.cells.toList, true⟩])) ((List.range ops.size).drop (i + 1)) (keysOf env') ((d, .p (tb.length + 2) 0) :: env1) = some env' := by intro _ _ _; kernel_rfl) : (Code.region id ops false).wp Pr Q a w := by
  refine go_region _ hr (rs_rn (List.range i) _ env1 h (fun a1 h1 => of_op (rs_index h1 hk hz hl (fun a2 h2 => ?_) he ht)) e1 rfl)
  exact rs_rn _ [] env' h2 (fun a3 h3 => wpOps_nil (K a3 h3)) e2 (List.append_nil _).symm
end
end Go.Proofs.YtnhgfbgdoelfoaaGreatDoor.ME

/- Reading sixteen octets. Own work. -/
namespace Go.Proofs.YtnhgfbgdoelfoaaGreatDoor.ME
open Go
open Go.RowKit
set_option linter.unusedVariables false
set_option linter.unusedSimpArgs false
set_option maxRecDepth 20000

theorem rUuid (X : Bs) (hX : X.length = 16) (rest : Bs) {br : Nat} {A : Option Addr} {m c : Nat} {w : World} {F : Nat → Nat → Prop} (hst : Str w br [.slice A m c, .bool false]) (hr : RdS w F A m c (X ++ rest)) (hFd : ∀ b o, F b o → ¬ RdM br b o) :
    Calls Tryz.prog 159 #[.pointer (some ⟨br, 0, none⟩)] w (RdPost w br (Fp F w) rest fun v w' => v = .agg ((List.range 16).map fun i => byteCell (X.getD i 0)).toArray) := by
  have hbr : br < w.heap.size := World.lt_of_cell (hst.at_ 0 _ rfl)
  refine enter (n := 9) (vs := [.pointer (some ⟨br, 0, none⟩)]) Tryz.func159 rfl Tryz.ntmps159 (by kernel_rfl) fun a hE => ?_
  refine go_seq_region [0] (by kernel_rfl) ?_
  refine of_op (wpOp_alloc2 hE (d := 2) (cs := (List.range 16).map fun _ => byteCell 0) (by kernel_rfl) fun t0 a1 hE1 => wpOps_nil (then_normal ?_))
  have hs1 := Step.alloc w (.cells ((List.range 16).map fun _ => byteCell 0).toArray t0)
  have hz1 := size_alloc w (.cells ((List.range 16).map fun _ => byteCell 0).toArray t0)
  have hh1 := heap_new w (.cells ((List.range 16).map fun _ => byteCell 0).toArray t0)
  generalize w.alloc (.cells ((List.range 16).map fun _ => byteCell 0).toArray t0) = w1 at hs1 hz1 hh1
  refine go_seq_region [0] (by kernel_rfl) ?_
  refine of_op (wpOp_alloc2 hE1 (d := 3) (cs := (List.range 16).map fun _ => byteCell 0) (by kernel_rfl) fun t1 a2 hE2 => wpOps_nil (then_normal ?_))
  have hs2 := Step.alloc w1 (.cells ((List.range 16).map fun _ => byteCell 0).toArray t1)
  have hz2 := size_alloc w1 (.cells ((List.range 16).map fun _ => byteCell 0).toArray t1)
  have hh2 := heap_new w1 (.cells ((List.range 16).map fun _ => byteCell 0).toArray t1)
  generalize hp2 : w.heap.size = p2 at hE1 hE2 hh1 hz1
  generalize hp3 : w1.heap.size = p3 at hE2 hh2 hz2
  generalize w1.alloc (.cells ((List.range 16).map fun _ => byteCell 0).toArray t1) = w2 at hs2 hz2 hh2
  refine go_seq_draw (fun _ => True) 4 (by kernel_rfl) ?_
  have hsd := Step.drew w2
  have hhd : w2.drew.heap[p3]? = some (.cells ((List.range 16).map fun _ => byteCell 0).toArray t1) := hh2
  have hS : Step w w2.drew Nil := (hs1.trans hs2 fun _ _ _ h => h).trans hsd fun _ _ _ h => h
  have hh1d : w2.drew.heap[p2]? = some (.cells ((List.range 16).map fun _ => byteCell 0).toArray t0) := (hs2.trans hsd fun _ _ _ h => h).heap (fun _ h => h) hh1
  generalize w2.drew = wd at hsd hhd hS hh1d
  have hE3 : EnvOk 9 [⟨p3, 0, [], true⟩] [(0, .v (.pointer (some ⟨br, 0, none⟩))), (2, .v (.pointer (some ⟨p2, 0, none⟩))), (3, .p 0 0)] _ := ((hE2.grow ⟨p3, 0, [], true⟩).recast 3 (.v (.pointer (some ⟨p3, 0, none⟩))) (.p 0 0) rfl rfl (Nat.le_of_ble_eq_true (n := 1) rfl)).pk
  refine go_rnD [0, 1] [(0, .v (.pointer (some ⟨br, 0, none⟩))), (2, .v (.pointer (some ⟨p2, 0, none⟩))), (3, .p 0 0), (4, .v (.slice (some ⟨p3, 0, none⟩) 16 16)), (5, .v (.pointer (some ⟨br, 0, none⟩)))] 2 (panicFree_then panicFree_body) (fun w' _ i o hi j v hj => by
    cases i with
    | zero =>
      simp only [List.getElem?_cons_zero, Option.some.injEq] at hi
      subst hi
      simp at hj
    | succ i => simp at hi) trivial hE3 fun a3 hE4 => ?_
  have hst' := hst.move hS (fun _ h => h)
  have hr' := hr.move hS nilM (fun b o h hb => (⟨h, hb⟩ : F b o ∧ b < w.heap.size))
  have hFd' : ∀ b o, (F b o ∧ b < w.heap.size) → ¬ RdM br b o := fun b o h => hFd b o h.1
  have hSp := rSpan X rest hst' hr' hFd'
  rw [show ((X.length : Nat) : Int) = 16 by omega] at hSp
  refine anyC_op (i := 2) (by kernel_rfl) (wpOp_call hE4 (f := 185) (vs := [.pointer (some ⟨br, 0, none⟩), .int .i64 16]) (d := 6) (by kernel_rfl) Tryz.call185 hSp ?_)
  rintro e_ w3 ⟨_, A1, n1, c1, rfl, hs, hr1, hst3, Ax, rfl, hox⟩
  refine ⟨_, rfl, fun a4 hE5 => ⟨fun _ => trivial, ?_⟩⟩
  have hh3 := hst3.heap (fun o e => by have := e.1; have := hS.size; omega) hhd
  have hh13 := hst3.heap (fun o e => by have := e.1; omega) hh1d
  refine anyC_op (i := 3) (by kernel_rfl) (wpOp_copy16 hE5 (t := 22) (u := 22) (e := 5) (bytes := 1) (b := p3) (s := X) (d := 7) (by kernel_rfl) (by kernel_rfl) hh3 rfl hox fun a5 w4 hst4 hat hfz hE6 => ⟨fun _ => trivial, anyC_done (by kernel_rfl) (then_normal ?_) _⟩)
  obtain ⟨v, hE6⟩ := hE6
  have hh14 := hst4.heap (fun o e => by have := hz1; omega) hh13
  have hst04 : Step w w4 (RdM br) := ((hS.mono fun _ _ _ f => f.elim).trans hst3 fun _ _ _ e => e).trans hst4 fun b o hb e => by have := hs1.size; omega
  have h2l : p2 < w4.heap.size := (Array.getElem?_eq_some_iff.1 hh14).1
  have hW4 : WOk w (RdM br) w4 ([] ++ [⟨p2, 0, (List.range 16).map fun _ => byteCell 0, true⟩] ++ [⟨p3, 0, (List.range 16).map fun i => byteCell (X.getD i 0), true⟩]) [] := by
    have hb : WOk w (RdM br) w4 [] [] := ⟨hst04, fun i o hi => by simp at hi, fun i o hi => by simp at hi, fun i o hi => by simp at hi, fun i j o o' _ hi => by simp at hi, fun i r hi => by simp at hi, fun i r hi => by simp at hi, fun i r hi => by simp at hi, fun i j r r' _ hi => by simp at hi⟩
    have h4 := hb.add ⟨p2, 0, (List.range 16).map fun _ => byteCell 0, true⟩ h2l (fun j v hj => by
      dsimp only at hj ⊢
      rw [Nat.zero_add]
      simp only [World.cell?, hh14]
      simpa using hj) (fun _ j hj => ⟨.inl (by dsimp only; omega), by simp [World.frozen?, hh14]⟩) (fun i o hi => by simp at hi) (fun i r hi => by simp at hi)
    refine h4.add ⟨p3, 0, (List.range 16).map fun i => byteCell (X.getD i 0), true⟩ (World.lt_of_cell (hat 0 _ rfl)) (fun j v hj => hat j v hj) (fun _ j hj => ⟨.inl (by dsimp only; have := hs1.size; omega), hfz _⟩) (fun i o hi _ => .inl ?_) (fun i r hi => by simp at hi)
    have hm := List.mem_of_getElem? hi
    have : o = ⟨p2, 0, (List.range 16).map fun _ => byteCell 0, true⟩ := by simpa using hm
    rw [this]
    dsimp only; omega
  have hE7 : EnvOk 9 [⟨p2, 0, (List.range 16).map fun _ => byteCell 0, true⟩, ⟨p3, 0, (List.range 16).map fun i => byteCell (X.getD i 0), true⟩] [(2, .p 0 0), (3, .p 1 0)] _ :=
    (((((hE6.pick (ks := [2, 3]) (env' := [(2, .v (.pointer (some ⟨p2, 0, none⟩))), (3, .p 0 0)]) (by kernel_rfl)).recast 3 (.p 0 0) (.v (.pointer (some ⟨p3, 0, none⟩))) rfl rfl trivial).pick (ks := [2, 3]) (env' := [(2, .v (.pointer (some ⟨p2, 0, none⟩))), (3, .v (.pointer (some ⟨p3, 0, none⟩)))]) (by kernel_rfl)).cutTb 0 (by kernel_rfl)).retable [⟨p2, 0, (List.range 16).map fun _ => byteCell 0, true⟩, ⟨p3, 0, (List.range 16).map fun i => byteCell (X.getD i 0), true⟩] |>.recast 2 (.v (.pointer (some ⟨p2, 0, none⟩))) (.p 0 0) rfl rfl (Nat.le_of_ble_eq_true (n := 1) rfl) |>.recast 3 (.v (.pointer (some ⟨p3, 0, none⟩))) (.p 1 0) rfl rfl (Nat.le_of_ble_eq_true (n := 2) rfl)).pk
  refine go_seq_region [0, 1] (by kernel_rfl) ?_
  refine go_rn [0] [1] [(2, .p 0 0), (8, .v (.agg ((List.range 16).map fun i => byteCell (X.getD i 0)).toArray))] hW4 hE7 fun a6 hE8 => ?_
  refine of_op (wpOp_store hW4 hE8 (oi := 0) (cs := (List.range 16).map fun i => byteCell (X.getD i 0)) (by kernel_rfl) fun w5 hF5 hW5 hE9 => wpOps_nil (then_normal (wp_ret ?_)))
  have hstz : Step w4 w5 (fun b o => b = p2 ∨ b = p3) := hF5.step.mono fun b o _ ha => by
    rcases ha with ⟨i, ob, hi, _, rfl, _⟩ | ⟨i, r, hi, _⟩
    · have hm := List.mem_of_getElem? hi
      simp only [List.nil_append, List.cons_append, List.mem_cons, List.not_mem_nil, or_false] at hm
      rcases hm with rfl | rfl
      · exact .inl rfl
      · exact .inr rfl
    · simp at hi
  have hsz := hs1.size
  refine leave hE9 hW5.cells (v := .agg ((List.range 16).map fun i => byteCell (X.getD i 0)).toArray) (by kernel_rfl) ⟨_, A1, n1, c1, rfl, (hs.move hst4 fun o e => ?_).move hstz (fun o e => ?_), (hr1.move hst4 (fun b o hg _ e => ?_) (fun b o hg _ => hg)).move hstz (fun b o hg _ e => ?_) (fun b o hg _ => .inl hg.1), hW5.step, rfl⟩
  · omega
  · rcases e with e | e <;> omega
  · have := hg.2; omega
  · have := hg.2; rcases e with e | e <;> omega

end Go.Proofs.YtnhgfbgdoelfoaaGreatDoor.ME

/- Printed by tools/rk.py. Own work. -/
namespace Go.Proofs.YtnhgfbgdoelfoaaGreatDoor.ME
open Go
open Go.RowKit
set_option linter.unusedVariables false
set_option linter.unusedSimpArgs false

theorem pInt16 (x : Int) (rest : Bs) : RPrim0 Tryz.prog 161 (be 2 (IntKind.i16.wrap x)) rest (.int .i16 (IntKind.i16.wrap x)) := fun hs hr hF => (rInt16 _ rest hs hr hF).mono fun e w' hp => hp.fp fun v w' h => by rw [h, ww16]
theorem pInt32 (x : Int) (rest : Bs) : RPrim0 Tryz.prog 153 (be 4 (IntKind.i32.wrap x)) rest (.int .i32 (IntKind.i32.wrap x)) := fun hs hr hF => (rInt32 _ rest hs hr hF).mono fun e w' hp => hp.fp fun v w' h => by rw [h, ww32]
theorem pString (S : Bs) (hS : S.length ≤ 32767) (rest : Bs) : RPrim0 Tryz.prog 151 (be 2 S.length ++ S) rest (.string (bs S)) := fun hs hr hF => (rString S hS rest hs (hr.cast (by simp only [List.append_assoc])) hF).mono fun e w' hp => hp.q fun v w' h => h
theorem pCompactString (S : Bs) (hS : S.length ≤ 32767) (rest : Bs) : RPrim0 Tryz.prog 150 (uv (S.length + 1) ++ S) rest (.string (bs S)) := fun hs hr hF => (rCompactString S (by omega) rest hs (hr.cast (by simp only [List.append_assoc])) hF).mono fun e w' hp => hp.q fun v w' h => h
theorem pNullableString (nul : Bool) (S : Bs) (hS : S.length ≤ 32767) (rest : Bs) : RPrim Tryz.prog 165 (if nul = true then be 2 (-1) else be 2 S.length ++ S) rest (fun A : Option Addr => .pointer A) (fun A => andF (textF A S) (isF (A.isNone = nul))) := fun hs hr hF => (rNullableString nul S (by omega) rest hs hr hF).mono fun e w' hp => hp.q fun v w' h => by
  obtain ⟨A, h1, h2, h3⟩ := h
  exact ⟨A, h1, h2, h3⟩
theorem pCompactNullableString (nul : Bool) (S : Bs) (hS : S.length ≤ 32767) (rest : Bs) : RPrim Tryz.prog 163 (if nul = true then uv 0 else uv (S.length + 1) ++ S) rest (fun A : Option Addr => .pointer A) (fun A => andF (textF A S) (isF (A.isNone = nul))) := fun hs hr hF => (rCompactNullableString nul S (by omega) rest hs hr hF).mono fun e w' hp => hp.q fun v w' h => by
  obtain ⟨A, h1, h2, h3⟩ := h
  exact ⟨A, h1, h2, h3⟩
theorem pArrayLen (n : Nat) (hn : n ≤ 32767) (rest : Bs) (hl : n ≤ rest.length) : RPrim0 Tryz.prog 144 (be 4 n) rest (.int .i32 ((n : Nat) : Int)) := fun hs hr hF => (rArrayLen ((n : Nat) : Int) (by omega) rest (by omega) hs hr hF).mono fun e w' hp => hp.q fun v w' h => h
theorem pCompactArrayLen (n : Nat) (hn : n ≤ 32767) (rest : Bs) (hl : n ≤ rest.length) : RPrim0 Tryz.prog 143 (uv (n + 1)) rest (.int .i32 ((n : Nat) : Int)) := fun hs hr hF => (rCompactArrayLen (n + 1) (by omega) rest (by omega) hs hr hF).mono fun e w' hp => hp.q fun v w' h => h.trans (congrArg (Value.int .i32) (by omega))
theorem pUuid (S : Bs) (rest : Bs) : RPrim0 Tryz.prog 159 (sixteenB S) rest (.agg #[byteCell ((sixteenB S).getD 0 0), byteCell ((sixteenB S).getD 1 0), byteCell ((sixteenB S).getD 2 0), byteCell ((sixteenB S).getD 3 0), byteCell ((sixteenB S).getD 4 0), byteCell ((sixteenB S).getD 5 0), byteCell ((sixteenB S).getD 6 0), byteCell ((sixteenB S).getD 7 0), byteCell ((sixteenB S).getD 8 0), byteCell ((sixteenB S).getD 9 0), byteCell ((sixteenB S).getD 10 0), byteCell ((sixteenB S).getD 11 0), byteCell ((sixteenB S).getD 12 0), byteCell ((sixteenB S).getD 13 0), byteCell ((sixteenB S).getD 14 0), byteCell ((sixteenB S).getD 15 0)]) := fun hs hr hF => (rUuid (sixteenB S) (sixteenB_len S) rest hs hr hF).mono fun e w' hp => hp.q fun v w' h => h
theorem pOk (rest : Bs) : RPrim0 Tryz.prog 145 [] rest (.bool true) := fun hs hr hF => (rOk rest hs hr hF).mono fun e w' hp => hp.q fun v w' h => h
theorem pTags (u : List (Int × Bs)) (hU : canU u) (hk : ∀ x ∈ u, 0 ≤ x.1 ∧ x.1 < 4294967296) (rest : Bs) : RPrim Tryz.prog 154 (uv u.length ++ tagsR u) rest (fun m : Option Nat => .agg #[.map m]) (fun m => tagsF m u) := fun hs hr hF => (rTags u rest hU.1 hk hU.2.1 hU.2.2 hs (hr.cast (by simp only [List.append_assoc])) hF).mono fun e w' hp => hp.q fun v w' h => h
end Go.Proofs.YtnhgfbgdoelfoaaGreatDoor.ME

/- Contracts: printed by tools/sp.py. Own work. -/
namespace Go.Proofs.YtnhgfbgdoelfoaaGreatDoor.ME
open Go
set_option linter.unusedVariables false
set_option linter.unusedSimpArgs false
set_option maxRecDepth 20000

theorem lFits3 (k : Int) (A : Option Addr) (m c : Nat) (w : World) : Calls Tryz.prog 89 #[.agg #[.int .u32 k, .slice A m c]] w (GivesB w) := by
  refine enter (n := 7) Tryz.func89 rfl Tryz.ntmps89 (by kernel_rfl) fun a hE => ?_
  have hW := WOk.start w Nil
  refine go_seq_region [0, 1] (by kernel_rfl) ?_
  refine of_op (wpOp_box hW hE (d := 1) (cs := [.int .u32 k, .slice A m c]) (by kernel_rfl) fun b1 a2 w3 hb4 hz5 hF6 hW7 hE8 => ?_)
  clear hE hW
  refine go_rn [1] [] [(1, .p 0 0)] hW7 hE8 fun a9 hE10 => ?_
  clear hE8
  refine wpOps_nil ?_
  refine then_normal ?_
  refine wp_seq ?_
  refine go_sp [(6, .v (.bool (decide (((m : Nat) : Int) > 2147483647))))] hW7 hE10 fun a11 hE12 => ?_
  clear hE10
  refine cond_of hE12 (b := decide (((m : Nat) : Int) > 2147483647)) (by kernel_rfl) (fun hc13 => ?_) (fun hc13 => ?_)
  ·
    have hf14 := of_decide_eq_true hc13
    refine go_sp [(2, .v (.bool false))] hW7 hE12 fun a15 hE16 => ?_
    clear hE12
    refine wp_ret ?_
    refine then_ret ?_
    refine leave hE16 hW7.cells (v := .bool false) (by kernel_rfl) ?_
    exact ⟨_, rfl, hW7.step⟩
  ·
    have hf17 := of_decide_eq_false hc13
    refine wp_skip ?_
    refine then_normal ?_
    refine go_sp [(2, .v (.bool true))] hW7 hE12 fun a18 hE19 => ?_
    clear hE12
    refine wp_ret ?_
    refine leave hE19 hW7.cells (v := .bool true) (by kernel_rfl) ?_
    exact ⟨_, rfl, hW7.step⟩

theorem lFits2 (A : Option Addr) (c : Nat) (u : List (Int × Bs)) (w : World) (F : Nat → Nat → Prop) (hu : TagsR w F A c u) : Calls Tryz.prog 38 #[.slice A u.length c] w (GivesB w) := by
  obtain ⟨xu, h1, h2⟩ := hu.ex
  have hsm := h1.small
  refine enter (n := 18) Tryz.func38 rfl Tryz.ntmps38 (by kernel_rfl) fun a hE => ?_
  have hW := WOk.start w Nil
  refine go_sp [(0, .v (.slice A u.length c))] hW hE fun a1 hE2 => ?_
  clear hE
  refine wp_seq ?_
  refine go_sp [(0, .v (.slice A u.length c)), (7, .v (.bool (decide (((u.length : Nat) : Int) > 2147483647))))] hW hE2 fun a3 hE4 => ?_
  clear hE2
  refine cond_of hE4 (b := decide (((u.length : Nat) : Int) > 2147483647)) (by kernel_rfl) (fun hc5 => ?_) (fun hc5 => ?_)
  ·
    have hf6 := of_decide_eq_true hc5
    refine go_sp [(2, .v (.bool false))] hW hE4 fun a7 hE8 => ?_
    clear hE4
    refine wp_ret ?_
    refine then_ret ?_
    refine leave hE8 hW.cells (v := .bool false) (by kernel_rfl) ?_
    exact ⟨_, rfl, hW.step⟩
  ·
    have hf9 := of_decide_eq_false hc5
    refine wp_skip ?_
    refine then_normal ?_
    refine wp_seq ?_
    refine go_sp [(8, .v (.slice A u.length c)), (9, .v (.int .i64 ((u.length : Nat) : Int))), (10, .v (.int .i64 0))] hW hE4 fun a10 hE11 => ?_
    clear hE4
    refine wp_block ?_
    refine wp_loop_ghost (fun n_ a_ w_ => ∃ (k : Nat), n_ = u.length - k ∧ k ≤ u.length ∧ LInv hW 18 [] [] [(8, .v (.slice A u.length c)), (9, .v (.int .i64 ((u.length : Nat) : Int))), (10, .v (.int .i64 ((k : Nat) : Int)))] a_ w_) (u.length) ⟨0, by omega, by omega, hE11.pk, hW, Fr.refl _ _ _⟩ ?_
    clear hE11
    rintro n12 a13 w14 ⟨k, hn17, hk18, hE15, hW16, hF19⟩
    refine go_sp [(8, .v (.slice A u.length c)), (9, .v (.int .i64 ((u.length : Nat) : Int))), (10, .v (.int .i64 ((k : Nat) : Int))), (11, .v (.bool (decide (((k : Nat) : Int) < ((u.length : Nat) : Int)))))] hW16 hE15 fun a20 hE21 => ?_
    clear hE15
    refine wp_seq ?_
    refine cond_of hE21 (b := decide (((k : Nat) : Int) < ((u.length : Nat) : Int))) (by kernel_rfl) (fun hc22 => ?_) (fun hc22 => ?_)
    ·
      have hf23 := of_decide_eq_true hc22
      refine wp_skip ?_
      refine then_normal ?_
      refine wp_seq ?_
      refine wp_block ?_
      refine go_seq_region [0, 1, 2, 3] (by kernel_rfl) ?_
      obtain ⟨b24, o25, hA26, hl27, hat28⟩ := Slots.get h1 (i := k) (by omega)
      obtain ⟨⟨k29, s30⟩, he31⟩ : ∃ x, u[k]? = some x := ⟨_, List.getElem?_eq_getElem (by omega)⟩
      obtain ⟨⟨A32, c33, hcs34, hb35⟩, h36, h37⟩ := h2 k k29 s30 he31
      rw [hcs34] at hat28
      refine of_op (wpOp_index hE21 (t := 24) (A := A) (m := u.length) (q := ((k : Nat) : Int)) (d := 12) (by kernel_rfl) (e := 83) (size := 2) (bytes := 32) (by kernel_rfl) hA26 rfl (by omega) fun a38 hE39 => ?_)
      clear hE21
      refine of_op (wpOp_load hE39 (t := 83) (b := b24) (o := o25 + k * 2) (d := 13) (by kernel_rfl) (cs := [.int .u32 k29, .slice A32 s30.length c33]) (v := .agg #[.int .u32 k29, .slice A32 s30.length c33]) (by kernel_rfl) (AtF.move hat28 hW16.step nilM keepF).at_ fun a40 hE41 => ?_)
      clear hE39
      refine of_op (wpOp_alloc hW16 hE41 (d := 4) (cs := [.int .u32 0, .slice none 0 0]) (by kernel_rfl) fun b42 a43 w44 hb45 hz46 hF47 hW48 hE49 => ?_)
      clear hE41 hW16
      refine of_op (wpOp_store hW48 hE49 (oi := 0) (cs := [.int .u32 k29, .slice A32 s30.length c33]) (by kernel_rfl) fun w50 hF51 hW52 hE53 => ?_)
      clear hE49 hW48
      refine wpOps_nil ?_
      refine then_normal ?_
      refine go_seq_region [0, 1, 2] (by kernel_rfl) ?_
      refine go_rn [0] [1, 2] [(8, .v (.slice A u.length c)), (9, .v (.int .i64 ((u.length : Nat) : Int))), (10, .v (.int .i64 ((k : Nat) : Int))), (14, .v (.agg #[.int .u32 k29, .slice A32 s30.length c33]))] hW52 hE53 fun a54 hE55 => ?_
      clear hE53
      refine of_op (wpOp_call hE55 (f := 89) (vs := [.agg #[.int .u32 k29, .slice A32 s30.length c33]]) (d := 15) (by kernel_rfl) Tryz.call89 (lFits3 _ _ _ _ _) ?_)
      rintro e_ w58 ⟨b57, rfl, hs56⟩
      refine ⟨_, rfl, fun a59 hE60 => ?_⟩
      have hW61 := hW52.next_nil hs56
      have hF62 := hW52.frN hs56
      clear hE55 hW52
      refine go_rn [2] [] [(8, .v (.slice A u.length c)), (9, .v (.int .i64 ((u.length : Nat) : Int))), (10, .v (.int .i64 ((k : Nat) : Int))), (16, .v (.bool (!b57)))] hW61 hE60 fun a63 hE64 => ?_
      clear hE60
      refine wpOps_nil ?_
      refine then_normal ?_
      refine cond_of hE64 (b := !b57) (by kernel_rfl) (fun hc65 => ?_) (fun hc65 => ?_)
      ·
        refine go_sp [(2, .v (.bool false))] hW61 hE64 fun a67 hE68 => ?_
        clear hE64
        refine wp_ret ?_
        refine block_ret ?_
        refine then_ret ?_
        refine then_ret ?_
        refine block_ret ?_
        refine then_ret ?_
        refine leave hE68 hW61.cells (v := .bool false) (by kernel_rfl) ?_
        exact ⟨_, rfl, hW61.step⟩
      ·
        refine wp_skip ?_
        refine block_normal ?_
        refine then_normal ?_
        refine go_region [0, 1] (by kernel_rfl) ?_
        refine go_rn [0, 1] [] [(8, .v (.slice A u.length c)), (9, .v (.int .i64 ((u.length : Nat) : Int))), (10, .v (.int .i64 (IntKind.i64.wrap (((k : Nat) : Int) + 1))))] hW61 hE64 fun a70 hE71 => ?_
        clear hE64
        refine wpOps_nil ?_
        refine then_normal ?_
        obtain ⟨hE72, hW73, hF74⟩ := hW61.cutB hE71 0 [] [(8, .v (.slice A u.length c)), (9, .v (.int .i64 ((u.length : Nat) : Int))), (10, .v (.int .i64 (IntKind.i64.wrap (((k : Nat) : Int) + 1))))]
        have he75 : IntKind.i64.wrap (((k : Nat) : Int) + 1) = ((k + 1 : Nat) : Int) := wrap_succ (by omega)
        rw [he75] at hE72
        exact ⟨u.length - (k + 1), by omega, k + 1, rfl, by omega, hE72.pk, hW73, (Fr.trans (Fr.trans (Fr.trans (Fr.trans hF19 hF47) hF51) hF62) hF74)⟩
    ·
      have hf76 := of_decide_eq_false hc22
      refine wp_exit ?_
      refine then_exit ?_
      refine then_exit ?_
      refine block_exit ?_
      refine then_normal ?_
      refine go_sp [(2, .v (.bool true))] hW16 hE21 fun a77 hE78 => ?_
      clear hE21
      refine wp_ret ?_
      refine leave hE78 hW16.cells (v := .bool true) (by kernel_rfl) ?_
      exact ⟨_, rfl, hW16.step⟩

theorem lFits1 (ct : List Value) (t : Tree) (w : World) (F : Nat → Nat → Prop) (ht : TreeR w F ct t) : Calls Tryz.prog 10 #[.agg ct.toArray] w (GivesB w) := by
  obtain ⟨n1, s2, b3, l4, u5, A6, c7, A8, c9, A10, c11, xs12, rfl, rfl, h14, h15, h16, h17⟩ := ht.open_
  have hsm19 := h14.small
  have hsm20 := h15.small
  refine enter (n := 15) Tryz.func10 rfl Tryz.ntmps10 (by kernel_rfl) fun a hE => ?_
  have hW := WOk.start w Nil
  refine go_seq_region [0, 1] (by kernel_rfl) ?_
  refine of_op (wpOp_box hW hE (d := 1) (cs := [.int .i64 n1, .slice A6 s2.length c7, .bool b3, .slice A8 l4.length c9, .slice A10 u5.length c11]) (by kernel_rfl) fun b21 a22 w23 hb24 hz25 hF26 hW27 hE28 => ?_)
  clear hE hW
  refine go_rn [1] [] [(1, .p 0 0)] hW27 hE28 fun a29 hE30 => ?_
  clear hE28
  refine wpOps_nil ?_
  refine then_normal ?_
  refine wp_seq ?_
  refine go_sp [(1, .p 0 0), (6, .v (.bool (decide (((s2.length : Nat) : Int) > 2147483647))))] hW27 hE30 fun a31 hE32 => ?_
  clear hE30
  refine cond_of hE32 (b := decide (((s2.length : Nat) : Int) > 2147483647)) (by kernel_rfl) (fun hc33 => ?_) (fun hc33 => ?_)
  ·
    have hf34 := of_decide_eq_true hc33
    refine go_sp [(2, .v (.bool false))] hW27 hE32 fun a35 hE36 => ?_
    clear hE32
    refine wp_ret ?_
    refine then_ret ?_
    refine leave hE36 hW27.cells (v := .bool false) (by kernel_rfl) ?_
    exact ⟨_, rfl, hW27.step⟩
  ·
    have hf37 := of_decide_eq_false hc33
    refine wp_skip ?_
    refine then_normal ?_
    refine wp_seq ?_
    refine go_sp [(1, .p 0 0), (10, .v (.bool (decide (((l4.length : Nat) : Int) > 2147483647))))] hW27 hE32 fun a38 hE39 => ?_
    clear hE32
    refine cond_of hE39 (b := decide (((l4.length : Nat) : Int) > 2147483647)) (by kernel_rfl) (fun hc40 => ?_) (fun hc40 => ?_)
    ·
      have hf41 := of_decide_eq_true hc40
      refine go_sp [(2, .v (.bool false))] hW27 hE39 fun a42 hE43 => ?_
      clear hE39
      refine wp_ret ?_
      refine then_ret ?_
      refine leave hE43 hW27.cells (v := .bool false) (by kernel_rfl) ?_
      exact ⟨_, rfl, hW27.step⟩
    ·
      have hf44 := of_decide_eq_false hc40
      refine wp_skip ?_
      refine then_normal ?_
      refine wp_seq ?_
      refine go_seq_region [0, 1, 2, 3] (by kernel_rfl) ?_
      refine go_rn [0, 1] [2, 3] [(12, .v (.slice A10 u5.length c11))] hW27 hE39 fun a45 hE46 => ?_
      clear hE39
      refine of_op (wpOp_call hE46 (f := 38) (vs := [.slice A10 u5.length c11]) (d := 13) (by kernel_rfl) Tryz.call38 (lFits2 _ _ u5 _ _ (h17.move hW27.step nilM hW27.imm)) ?_)
      rintro e_ w49 ⟨b48, rfl, hs47⟩
      refine ⟨_, rfl, fun a50 hE51 => ?_⟩
      have hW52 := hW27.next_nil hs47
      have hF53 := hW27.frN hs47
      clear hE46 hW27
      refine go_rn [3] [] [(14, .v (.bool (!b48)))] hW52 hE51 fun a54 hE55 => ?_
      clear hE51
      refine wpOps_nil ?_
      refine then_normal ?_
      refine cond_of hE55 (b := !b48) (by kernel_rfl) (fun hc56 => ?_) (fun hc56 => ?_)
      ·
        refine go_sp [(2, .v (.bool false))] hW52 hE55 fun a58 hE59 => ?_
        clear hE55
        refine wp_ret ?_
        refine then_ret ?_
        refine leave hE59 hW52.cells (v := .bool false) (by kernel_rfl) ?_
        exact ⟨_, rfl, hW52.step⟩
      ·
        refine wp_skip ?_
        refine then_normal ?_
        refine go_sp [(2, .v (.bool true))] hW52 hE55 fun a61 hE62 => ?_
        clear hE55
        refine wp_ret ?_
        refine leave hE62 hW52.cells (v := .bool true) (by kernel_rfl) ?_
        exact ⟨_, rfl, hW52.step⟩

theorem lVersion (x m : Int) (hx : 0 ≤ x) (hx' : x < 256) (hm : 0 ≤ m) (hm' : m < 32768) (w : World) : Calls Tryz.prog 13 #[.int .u8 x, .int .i64 m] w (Gives w (.int .i64 (Int.tmod x (m + 1)))) := by
  refine enter (n := 10) Tryz.func13 rfl Tryz.ntmps13 (by kernel_rfl) fun a hE => ?_
  have hW := WOk.start w Nil
  refine go_sp [(0, .v (.int .u8 x)), (1, .v (.int .i64 m))] hW hE fun a1 hE2 => ?_
  clear hE
  refine go_seq_region [0, 1, 2, 3, 4, 5] (by kernel_rfl) ?_
  refine go_rn [0, 1, 2, 3] [4, 5] [(6, .v (.int .i64 (IntKind.i64.wrap x))), (8, .v (.int .i64 (IntKind.i64.wrap (m + 1))))] hW hE2 fun a3 hE4 => ?_
  clear hE2
  refine of_op (wpOp_rem hE4 (k := .i64) (p := (IntKind.i64.wrap x)) (q := (IntKind.i64.wrap (m + 1))) (d := 9) (by kernel_rfl) (by simp only [IntKind.wrap_i64]; omega) fun a5 hE6 => ?_)
  clear hE4
  refine go_rn [5] [] [(4, .v (.int .i64 (Int.tmod (IntKind.i64.wrap x) (IntKind.i64.wrap (m + 1)))))] hW hE6 fun a7 hE8 => ?_
  clear hE6
  refine wpOps_nil ?_
  refine then_normal ?_
  refine wp_ret ?_
  refine leave hE8 hW.cells (v := .int .i64 (Int.tmod (IntKind.i64.wrap x) (IntKind.i64.wrap (m + 1)))) (by kernel_rfl) ?_
  exact ⟨by rw [wrap_i64 (by omega) (by omega), wrap_i64 (by omega) (by omega)], hW.step⟩

end Go.Proofs.YtnhgfbgdoelfoaaGreatDoor.ME
