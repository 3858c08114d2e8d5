/- The texts of a claim, put together: the engine, the contracts, the law. Own work. -/
import Derived.Test.YtgolpmkenmedoaaGreatDoorWt4P2
import Derived.Test.YtgolpmkenmedoaaGreatDoorProg
import Derived.Deep.LoopGhost
import Derived.Lib.ConvBytes
namespace Go.Proofs.YtgolpmkenmedoaaGreatDoor.ME
open Go
open Go.RowKit
set_option linter.unusedVariables false
set_option linter.unusedSimpArgs false
set_option maxRecDepth 20000
theorem rBE16 {A : Option Addr} {c : Nat} (s : Bs) {w : World} {F : Nat → Nat → Prop} (ho : Octs w F A c s) (hl : 2 ≤ s.length) :
  Calls Tryz.prog 232 #[.agg #[], .slice A s.length c] w (Gives w (.int .u16 (be16 s))) := by
 refine enter (n := 18) Tryz.func232 rfl Tryz.ntmps232 kz fun a hE => ?_
 have hW := WOk.start w Nil
 have ob0 := oc_lt s 0
 have ob1 := oc_lt s 1
 refine go_seq_region [0, 1] kz ?_
 refine of_op (wpOp_box hW hE (d := 2) (cs := []) kz fun b1 a2 w3 hb4 hz5 hF6 hW7 hE8 => ?_)
 clear hE hW
 refine go_rn [1] [] [(1, .v (.slice A s.length c))] hW7 hE8 fun a9 ac => ?_
 clear hE8
 refine wpOps_nil (then_normal ?_)
 refine go_seq_region [0, 1, 2] kz ?_
 refine go_rn [0] [1, 2] [(1, .v (.slice A s.length c)), (5, .v (.slice A s.length c))] hW7 ac fun aC ae => ?_
 clear ac
 obtain ⟨av, aw, af, ax, ab⟩ := Slots.get ho (i := 1) (by omega)
 refine of_op (wpOp_index ae (t := 22) (A := A) (m := s.length) (q := 1) (d := 6) kz (e := 5) (size := 1) (bytes := 1) (j := 1) kz af rfl (by omega) fun aD ag => ?_)
 clear ae
 refine of_op (wpOp_load ag (t := 5) (b := av) (o := aw + 1 * 1) (d := 7) kz (cs := [.int .u8 ((s.getD 1 0).toNat : Int)]) (v := .int .u8 ((s.getD 1 0).toNat : Int)) kz (AtF.move ab hW7.step nilM keepF).at_ fun aE ah => ?_)
 clear ag
 refine wpOps_nil (then_normal ?_)
 refine go_seq_drawQ kz hW7 fun aF ay aa => ?_
 clear hW7
 refine go_rnD [0, 4] [(8, .v (.slice A s.length c)), (12, .v (.slice A s.length c))] 9 (panicFree_then panicFree_body) (fun _ h => h ▸ aa.cells) rfl ah fun aG ai => ?_
 clear ah
 refine takeC_index ai (i := 1) (t := 22) (A := A) (m := s.length) (q := 1) (d := 9) kz (e := 5) (size := 1) (bytes := 1) (j := 1) kz af rfl (by omega) kz kz (panicFree_then panicFree_body) rfl fun aH aj => ?_
 clear ai
 refine takeC_load aj (i := 2) (t := 5) (b := av) (o := aw + 1 * 1) (d := 10) kz (cs := [.int .u8 ((s.getD 1 0).toNat : Int)]) (v := .int .u8 ((s.getD 1 0).toNat : Int)) kz (fun w' h' => h' ▸ (AtF.move ab aa.step nilM keepF).at_) kz kz (panicFree_then panicFree_body) rfl fun aI ak => ?_
 clear aj
 refine go_rnD [3] [(11, .v (.int .u16 (IntKind.u16.wrap ((s.getD 1 0).toNat : Int)))), (12, .v (.slice A s.length c))] 6 (panicFree_then panicFree_body) (fun _ h => h ▸ aa.cells) rfl ak fun aJ al => ?_
 clear ak
 obtain ⟨az, aA, ar, aB, am⟩ := Slots.get ho (i := 0) (by omega)
 refine takeC_index al (i := 5) (t := 22) (A := A) (m := s.length) (q := 0) (d := 13) kz (e := 5) (size := 1) (bytes := 1) (j := 0) kz ar rfl (by omega) kz kz (panicFree_then panicFree_body) rfl fun aK ao => ?_
 clear al
 refine takeC_load ao (i := 6) (t := 5) (b := az) (o := aA + 0 * 1) (d := 14) kz (cs := [.int .u8 ((s.getD 0 0).toNat : Int)]) (v := .int .u8 ((s.getD 0 0).toNat : Int)) kz (fun w' h' => h' ▸ (AtF.move am aa.step nilM keepF).at_) kz kz (panicFree_then panicFree_body) rfl fun aL ap => ?_
 clear ao
 refine go_rnD [7, 8, 9, 10] [(4, .v (.int .u16 (IntKind.u16.wrap (BitVec.ofInt 16 (IntKind.u16.wrap ((s.getD 1 0).toNat : Int)) ||| BitVec.ofInt 16 (IntKind.u16.wrap ((IntKind.u16.wrap ((s.getD 0 0).toNat : Int)) * 256))).toNat)))] 0 (panicFree_then panicFree_body) (fun _ h => h ▸ aa.cells) rfl ap fun aM au => ?_
 clear ap
 refine anyC_done kz ?_ _
 refine then_normal ?_
 refine wp_ret ?_
 refine leave au aa.cells (v := .int .u16 (IntKind.u16.wrap (BitVec.ofInt 16 (IntKind.u16.wrap ((s.getD 1 0).toNat : Int)) ||| BitVec.ofInt 16 (IntKind.u16.wrap ((IntKind.u16.wrap ((s.getD 0 0).toNat : Int)) * 256))).toNat)) kz ?_
 exact ⟨congrArg Ending.returned (congrArg (Value.int IntKind.u16) (u16_le (oc s 0) (oc s 1) ob0 ob1)), aa.step⟩
theorem rBE32 {A : Option Addr} {c : Nat} (s : Bs) {w : World} {F : Nat → Nat → Prop} (ho : Octs w F A c s) (hl : 4 ≤ s.length) :
  Calls Tryz.prog 231 #[.agg #[], .slice A s.length c] w (Gives w (.int .u32 (be32 s))) := by
 refine enter (n := 30) Tryz.func231 rfl Tryz.ntmps231 kz fun a hE => ?_
 have hW := WOk.start w Nil
 have ob0 := oc_lt s 0
 have ob1 := oc_lt s 1
 have ob2 := oc_lt s 2
 have ob3 := oc_lt s 3
 refine go_seq_region [0, 1] kz ?_
 refine of_op (wpOp_box hW hE (d := 2) (cs := []) kz fun b1 a2 w3 hb4 hz5 hF6 hW7 hE8 => ?_)
 clear hE hW
 refine go_rn [1] [] [(1, .v (.slice A s.length c))] hW7 hE8 fun a9 ac => ?_
 clear hE8
 refine wpOps_nil (then_normal ?_)
 refine go_seq_region [0, 1, 2] kz ?_
 refine go_rn [0] [1, 2] [(1, .v (.slice A s.length c)), (5, .v (.slice A s.length c))] hW7 ac fun aS ae => ?_
 clear ac
 obtain ⟨aF, aG, af, aH, ab⟩ := Slots.get ho (i := 3) (by omega)
 refine of_op (wpOp_index ae (t := 22) (A := A) (m := s.length) (q := 3) (d := 6) kz (e := 5) (size := 1) (bytes := 1) (j := 3) kz af rfl (by omega) fun aT ag => ?_)
 clear ae
 refine of_op (wpOp_load ag (t := 5) (b := aF) (o := aG + 3 * 1) (d := 7) kz (cs := [.int .u8 ((s.getD 3 0).toNat : Int)]) (v := .int .u8 ((s.getD 3 0).toNat : Int)) kz (AtF.move ab hW7.step nilM keepF).at_ fun aU ah => ?_)
 clear ag
 refine wpOps_nil (then_normal ?_)
 refine go_seq_drawQ kz hW7 fun aV aI aa => ?_
 clear hW7
 refine go_rnD [0, 4, 10, 16] [(8, .v (.slice A s.length c)), (12, .v (.slice A s.length c)), (18, .v (.slice A s.length c)), (24, .v (.slice A s.length c))] 19 (panicFree_then panicFree_body) (fun _ h => h ▸ aa.cells) rfl ah fun aW ai => ?_
 clear ah
 refine takeC_index ai (i := 1) (t := 22) (A := A) (m := s.length) (q := 3) (d := 9) kz (e := 5) (size := 1) (bytes := 1) (j := 3) kz af rfl (by omega) kz kz (panicFree_then panicFree_body) rfl fun aX aj => ?_
 clear ai
 refine takeC_load aj (i := 2) (t := 5) (b := aF) (o := aG + 3 * 1) (d := 10) kz (cs := [.int .u8 ((s.getD 3 0).toNat : Int)]) (v := .int .u8 ((s.getD 3 0).toNat : Int)) kz (fun w' h' => h' ▸ (AtF.move ab aa.step nilM keepF).at_) kz kz (panicFree_then panicFree_body) rfl fun aY ak => ?_
 clear aj
 refine go_rnD [3] [(11, .v (.int .u32 (IntKind.u32.wrap ((s.getD 3 0).toNat : Int)))), (12, .v (.slice A s.length c)), (18, .v (.slice A s.length c)), (24, .v (.slice A s.length c))] 16 (panicFree_then panicFree_body) (fun _ h => h ▸ aa.cells) rfl ak fun aZ al => ?_
 clear ak
 obtain ⟨aJ, aK, aB, aL, am⟩ := Slots.get ho (i := 2) (by omega)
 refine takeC_index al (i := 5) (t := 22) (A := A) (m := s.length) (q := 2) (d := 13) kz (e := 5) (size := 1) (bytes := 1) (j := 2) kz aB rfl (by omega) kz kz (panicFree_then panicFree_body) rfl fun ba ao => ?_
 clear al
 refine takeC_load ao (i := 6) (t := 5) (b := aJ) (o := aK + 2 * 1) (d := 14) kz (cs := [.int .u8 ((s.getD 2 0).toNat : Int)]) (v := .int .u8 ((s.getD 2 0).toNat : Int)) kz (fun w' h' => h' ▸ (AtF.move am aa.step nilM keepF).at_) kz kz (panicFree_then panicFree_body) rfl fun bd ap => ?_
 clear ao
 refine go_rnD [7, 8, 9] [(17, .v (.int .u32 (IntKind.u32.wrap (BitVec.ofInt 32 (IntKind.u32.wrap ((s.getD 3 0).toNat : Int)) ||| BitVec.ofInt 32 (IntKind.u32.wrap ((IntKind.u32.wrap ((s.getD 2 0).toNat : Int)) * 256))).toNat))), (18, .v (.slice A s.length c)), (24, .v (.slice A s.length c))] 11 (panicFree_then panicFree_body) (fun _ h => h ▸ aa.cells) rfl ap fun bf ar => ?_
 clear ap
 obtain ⟨aM, aN, aC, aO, au⟩ := Slots.get ho (i := 1) (by omega)
 refine takeC_index ar (i := 11) (t := 22) (A := A) (m := s.length) (q := 1) (d := 19) kz (e := 5) (size := 1) (bytes := 1) (j := 1) kz aC rfl (by omega) kz kz (panicFree_then panicFree_body) rfl fun bg av => ?_
 clear ar
 refine takeC_load av (i := 12) (t := 5) (b := aM) (o := aN + 1 * 1) (d := 20) kz (cs := [.int .u8 ((s.getD 1 0).toNat : Int)]) (v := .int .u8 ((s.getD 1 0).toNat : Int)) kz (fun w' h' => h' ▸ (AtF.move au aa.step nilM keepF).at_) kz kz (panicFree_then panicFree_body) rfl fun bh aw => ?_
 clear av
 refine go_rnD [13, 14, 15] [(23, .v (.int .u32 (IntKind.u32.wrap (BitVec.ofInt 32 (IntKind.u32.wrap (BitVec.ofInt 32 (IntKind.u32.wrap ((s.getD 3 0).toNat : Int)) ||| BitVec.ofInt 32 (IntKind.u32.wrap ((IntKind.u32.wrap ((s.getD 2 0).toNat : Int)) * 256))).toNat) ||| BitVec.ofInt 32 (IntKind.u32.wrap ((IntKind.u32.wrap ((s.getD 1 0).toNat : Int)) * 65536))).toNat))), (24, .v (.slice A s.length c))] 6 (panicFree_then panicFree_body) (fun _ h => h ▸ aa.cells) rfl aw fun bi ax => ?_
 clear aw
 obtain ⟨aP, aQ, aD, aR, ay⟩ := Slots.get ho (i := 0) (by omega)
 refine takeC_index ax (i := 17) (t := 22) (A := A) (m := s.length) (q := 0) (d := 25) kz (e := 5) (size := 1) (bytes := 1) (j := 0) kz aD rfl (by omega) kz kz (panicFree_then panicFree_body) rfl fun bj az => ?_
 clear ax
 refine takeC_load az (i := 18) (t := 5) (b := aP) (o := aQ + 0 * 1) (d := 26) kz (cs := [.int .u8 ((s.getD 0 0).toNat : Int)]) (v := .int .u8 ((s.getD 0 0).toNat : Int)) kz (fun w' h' => h' ▸ (AtF.move ay aa.step nilM keepF).at_) kz kz (panicFree_then panicFree_body) rfl fun bk aA => ?_
 clear az
 refine go_rnD [19, 20, 21, 22] [(4, .v (.int .u32 (IntKind.u32.wrap (BitVec.ofInt 32 (IntKind.u32.wrap (BitVec.ofInt 32 (IntKind.u32.wrap (BitVec.ofInt 32 (IntKind.u32.wrap ((s.getD 3 0).toNat : Int)) ||| BitVec.ofInt 32 (IntKind.u32.wrap ((IntKind.u32.wrap ((s.getD 2 0).toNat : Int)) * 256))).toNat) ||| BitVec.ofInt 32 (IntKind.u32.wrap ((IntKind.u32.wrap ((s.getD 1 0).toNat : Int)) * 65536))).toNat) ||| BitVec.ofInt 32 (IntKind.u32.wrap ((IntKind.u32.wrap ((s.getD 0 0).toNat : Int)) * 16777216))).toNat)))] 0 (panicFree_then panicFree_body) (fun _ h => h ▸ aa.cells) rfl aA fun bn aE => ?_
 clear aA
 refine anyC_done kz ?_ _
 refine then_normal ?_
 refine wp_ret ?_
 refine leave aE aa.cells (v := .int .u32 (IntKind.u32.wrap (BitVec.ofInt 32 (IntKind.u32.wrap (BitVec.ofInt 32 (IntKind.u32.wrap (BitVec.ofInt 32 (IntKind.u32.wrap ((s.getD 3 0).toNat : Int)) ||| BitVec.ofInt 32 (IntKind.u32.wrap ((IntKind.u32.wrap ((s.getD 2 0).toNat : Int)) * 256))).toNat) ||| BitVec.ofInt 32 (IntKind.u32.wrap ((IntKind.u32.wrap ((s.getD 1 0).toNat : Int)) * 65536))).toNat) ||| BitVec.ofInt 32 (IntKind.u32.wrap ((IntKind.u32.wrap ((s.getD 0 0).toNat : Int)) * 16777216))).toNat)) kz ?_
 exact ⟨congrArg Ending.returned (congrArg (Value.int IntKind.u32) (u32_le (oc s 0) (oc s 1) (oc s 2) (oc s 3) ob0 ob1 ob2 ob3)), aa.step⟩
theorem rInt16 (x : Int) (rest : Bs)  {br : Nat} {A : Option Addr} {m c : Nat} {w : World} {F : Nat → Nat → Prop} (hst : Str w br [.slice A m c, .bool false]) (hr : RdS w F A m c (be 2 x ++ rest)) (hFd : ∀ b o, F b o → ¬ RdM br b o) :
  Calls Tryz.prog 197 #[.pointer (some ⟨br, 0, none⟩)] w (RdPost w br F rest fun v w' => v = .int .i16 (IntKind.i16.wrap x)) := by
 obtain ⟨hm, ho⟩ := hr
 subst hm
 have hle := ho.le
 refine enter (n := 32) Tryz.func197 rfl Tryz.ntmps197 kz fun a hE => ?_
 have hW : WOk w (RdM br) w [⟨br, 0, [.slice A ((be 2 x ++ rest).length) c, .bool false], true⟩] [] := WOk.startStr hst
 have hE1 := (hE.grow ⟨br, 0, [.slice A ((be 2 x ++ rest).length) c, .bool false], true⟩).recast 0 (.v (.pointer (some ⟨br, 0, none⟩))) (.p 0 0) rfl rfl (Nat.le_of_ble_eq_true (n := 1) rfl)
 refine go_sp [(0, .p 0 0)] hW hE1 fun a1 hE2 => ?_
 clear hE1
 refine wp_seq ?_
 refine go_sp [(0, .p 0 0), (9, .v (.bool (decide ((((be 2 x ++ rest).length : Nat) : Int) < 2))))] hW hE2 fun a3 hE4 => ?_
 clear hE2
 refine cond_false hE4 (b := decide ((((be 2 x ++ rest).length : Nat) : Int) < 2)) kz (decide_eq_false (by first | omega | (simp only [List.length_append, be_length, List.length_cons, List.length_nil] at *; omega))) ?_
 refine wp_skip ?_
 refine then_normal ?_
 refine go_seq_drawK 7 kz hW fun w5 hF6 hW7 hT8 => ?_
 clear hW
 refine go_rnD [1, 2, 3, 4] [(0, .p 0 0), (20, .v (.slice A ((be 2 x ++ rest).length) c))] 4 (panicFree_then panicFree_body) (fun _ h => h.cells) hT8 hE4 fun a9 ac => ?_
 clear hE4
 refine takeC_load ac (i := 0) (t := 246) (b := 1) (o := 0) (d := 16) kz (cs := []) (v := .agg #[]) kz (fun w' h' => (fun j_ v_ h_ => by simp at h_)) kz kz (panicFree_then panicFree_body) hT8 fun av ae => ?_
 clear ac
 refine anyC_op (i := 5) kz (wpOp_call ae (f := 232) (vs := [.agg #[], .slice A ((be 2 x ++ rest).length) c]) (d := 21) kz Tryz.call232 (rBE16 _ (ho.move hW7.step (fun b_ o_ h_ _ => hFd b_ o_ h_) (hW7.immM hFd)) (by first | omega | (simp only [List.length_append, be_length, List.length_cons, List.length_nil] at *; omega))) ?_)
 rintro e_ aw ⟨rfl, af⟩
 refine ⟨_, rfl, fun ax ag => ?_⟩
 have aa := hW7.next_nil af
 have ap := hW7.frN af
 clear ae
 have ah := TT.ofW ap aa
 refine ⟨fun _ => ah, ?_⟩
 refine go_rnD [6] [(0, .p 0 0), (22, .v (.int .i16 (IntKind.i16.wrap (be16 (be 2 x ++ rest)))))] 1 (panicFree_then panicFree_body) (fun _ h => h.cells) ah ag fun ay ai => ?_
 clear ag
 refine anyC_op (i := 7) kz (wpOp_pure [0, 3] aa.cells ai (env' := [(0, .p 0 0), (3, .v (.int .i16 (IntKind.i16.wrap (be16 (be 2 x ++ rest)))))]) kz fun az aj => ?_)
 clear ai
 refine ⟨fun h => absurd rfl h, ?_⟩
 refine anyC_done kz ?_ _
 refine then_normal ?_
 refine go_seq_region [0, 1, 2, 3, 4, 5, 6, 7, 8] kz ?_
 refine go_rn [0, 1, 2, 3, 4] [5, 6, 7, 8] [(3, .v (.int .i16 (IntKind.i16.wrap (be16 (be 2 x ++ rest))))), (23, .p 0 0), (27, .v (.slice A ((be 2 x ++ rest).length) c))] aa aj fun aA ak => ?_
 clear aj
 refine of_op (wpOp_cut_lo ak (t := 22) (A := A) (m := ((be 2 x ++ rest).length)) (cp := c) (q := 2) (d := 28) (j := 2) kz (e := 5) (bytes := 1) kz (rfl) (by first | omega | (simp only [List.length_append, be_length, List.length_cons, List.length_nil] at *; omega)) fun aB al => ?_)
 clear ak
 refine go_rn [6, 7] [8] [(3, .v (.int .i16 (IntKind.i16.wrap (be16 (be 2 x ++ rest))))), (28, .v (.slice (cutA A c 2) (((be 2 x ++ rest).length) - 2) (c - 2))), (30, .p 0 0)] aa al fun aC am => ?_
 clear al
 refine of_op (wpOp_store aa am (oi := 0) (cs := [.slice (cutA A c 2) (((be 2 x ++ rest).length) - 2) (c - 2), .bool false]) kz fun aD au ab ao => ?_)
 clear am aa
 refine wpOps_nil (then_normal ?_)
 refine go_sp [(2, .v (.int .i16 (IntKind.i16.wrap (be16 (be 2 x ++ rest)))))] ab ao fun aE ar => ?_
 clear ao
 refine wp_ret ?_
 refine leave ar ab.cells (v := .int .i16 (IntKind.i16.wrap (be16 (be 2 x ++ rest)))) kz ?_
 exact ⟨_, _, _, _, rfl, Str.of ab 0 rfl, RdS.drop (s := be 2 x) ⟨rfl, ho.move ab.step (fun b_ o_ h_ _ => hFd b_ o_ h_) keepF⟩ (by simp only [be_length, List.length_cons, List.length_nil]), ab.step, by rw [be16_be, i16_u16]⟩
theorem rInt32 (x : Int) (rest : Bs)  {br : Nat} {A : Option Addr} {m c : Nat} {w : World} {F : Nat → Nat → Prop} (hst : Str w br [.slice A m c, .bool false]) (hr : RdS w F A m c (be 4 x ++ rest)) (hFd : ∀ b o, F b o → ¬ RdM br b o) :
  Calls Tryz.prog 195 #[.pointer (some ⟨br, 0, none⟩)] w (RdPost w br F rest fun v w' => v = .int .i32 (IntKind.i32.wrap x)) := by
 obtain ⟨hm, ho⟩ := hr
 subst hm
 have hle := ho.le
 refine enter (n := 32) Tryz.func195 rfl Tryz.ntmps195 kz fun a hE => ?_
 have hW : WOk w (RdM br) w [⟨br, 0, [.slice A ((be 4 x ++ rest).length) c, .bool false], true⟩] [] := WOk.startStr hst
 have hE1 := (hE.grow ⟨br, 0, [.slice A ((be 4 x ++ rest).length) c, .bool false], true⟩).recast 0 (.v (.pointer (some ⟨br, 0, none⟩))) (.p 0 0) rfl rfl (Nat.le_of_ble_eq_true (n := 1) rfl)
 refine go_sp [(0, .p 0 0)] hW hE1 fun a1 hE2 => ?_
 clear hE1
 refine wp_seq ?_
 refine go_sp [(0, .p 0 0), (9, .v (.bool (decide ((((be 4 x ++ rest).length : Nat) : Int) < 4))))] hW hE2 fun a3 hE4 => ?_
 clear hE2
 refine cond_false hE4 (b := decide ((((be 4 x ++ rest).length : Nat) : Int) < 4)) kz (decide_eq_false (by first | omega | (simp only [List.length_append, be_length, List.length_cons, List.length_nil] at *; omega))) ?_
 refine wp_skip ?_
 refine then_normal ?_
 refine go_seq_drawK 7 kz hW fun w5 hF6 hW7 hT8 => ?_
 clear hW
 refine go_rnD [1, 2, 3, 4] [(0, .p 0 0), (20, .v (.slice A ((be 4 x ++ rest).length) c))] 4 (panicFree_then panicFree_body) (fun _ h => h.cells) hT8 hE4 fun a9 ac => ?_
 clear hE4
 refine takeC_load ac (i := 0) (t := 246) (b := 1) (o := 0) (d := 16) kz (cs := []) (v := .agg #[]) kz (fun w' h' => (fun j_ v_ h_ => by simp at h_)) kz kz (panicFree_then panicFree_body) hT8 fun av ae => ?_
 clear ac
 refine anyC_op (i := 5) kz (wpOp_call ae (f := 231) (vs := [.agg #[], .slice A ((be 4 x ++ rest).length) c]) (d := 21) kz Tryz.call231 (rBE32 _ (ho.move hW7.step (fun b_ o_ h_ _ => hFd b_ o_ h_) (hW7.immM hFd)) (by first | omega | (simp only [List.length_append, be_length, List.length_cons, List.length_nil] at *; omega))) ?_)
 rintro e_ aw ⟨rfl, af⟩
 refine ⟨_, rfl, fun ax ag => ?_⟩
 have aa := hW7.next_nil af
 have ap := hW7.frN af
 clear ae
 have ah := TT.ofW ap aa
 refine ⟨fun _ => ah, ?_⟩
 refine go_rnD [6] [(0, .p 0 0), (22, .v (.int .i32 (IntKind.i32.wrap (be32 (be 4 x ++ rest)))))] 1 (panicFree_then panicFree_body) (fun _ h => h.cells) ah ag fun ay ai => ?_
 clear ag
 refine anyC_op (i := 7) kz (wpOp_pure [0, 3] aa.cells ai (env' := [(0, .p 0 0), (3, .v (.int .i32 (IntKind.i32.wrap (be32 (be 4 x ++ rest)))))]) kz fun az aj => ?_)
 clear ai
 refine ⟨fun h => absurd rfl h, ?_⟩
 refine anyC_done kz ?_ _
 refine then_normal ?_
 refine go_seq_region [0, 1, 2, 3, 4, 5, 6, 7, 8] kz ?_
 refine go_rn [0, 1, 2, 3, 4] [5, 6, 7, 8] [(3, .v (.int .i32 (IntKind.i32.wrap (be32 (be 4 x ++ rest))))), (23, .p 0 0), (27, .v (.slice A ((be 4 x ++ rest).length) c))] aa aj fun aA ak => ?_
 clear aj
 refine of_op (wpOp_cut_lo ak (t := 22) (A := A) (m := ((be 4 x ++ rest).length)) (cp := c) (q := 4) (d := 28) (j := 4) kz (e := 5) (bytes := 1) kz (rfl) (by first | omega | (simp only [List.length_append, be_length, List.length_cons, List.length_nil] at *; omega)) fun aB al => ?_)
 clear ak
 refine go_rn [6, 7] [8] [(3, .v (.int .i32 (IntKind.i32.wrap (be32 (be 4 x ++ rest))))), (28, .v (.slice (cutA A c 4) (((be 4 x ++ rest).length) - 4) (c - 4))), (30, .p 0 0)] aa al fun aC am => ?_
 clear al
 refine of_op (wpOp_store aa am (oi := 0) (cs := [.slice (cutA A c 4) (((be 4 x ++ rest).length) - 4) (c - 4), .bool false]) kz fun aD au ab ao => ?_)
 clear am aa
 refine wpOps_nil (then_normal ?_)
 refine go_sp [(2, .v (.int .i32 (IntKind.i32.wrap (be32 (be 4 x ++ rest)))))] ab ao fun aE ar => ?_
 clear ao
 refine wp_ret ?_
 refine leave ar ab.cells (v := .int .i32 (IntKind.i32.wrap (be32 (be 4 x ++ rest)))) kz ?_
 exact ⟨_, _, _, _, rfl, Str.of ab 0 rfl, RdS.drop (s := be 4 x) ⟨rfl, ho.move ab.step (fun b_ o_ h_ _ => hFd b_ o_ h_) keepF⟩ (by simp only [be_length, List.length_cons, List.length_nil]), ab.step, by rw [be32_be, i32_u32]⟩
theorem rUv1 {A : Option Addr} {c : Nat} (s : Bs) {w : World} {F : Nat → Nat → Prop} (ho : Octs w F A c s) (hl : 1 ≤ s.length) (d0 : Nat) (h0 : oc s 0 = d0) (g0 : d0 < 128) :
  Calls Tryz.prog 238 #[.slice A s.length c] w (Gives w (.tuple #[.int .u32 ((d0 : Nat) : Int), .int .i64 1])) := by
 refine enter (n := 87) Tryz.func238 rfl Tryz.ntmps238 kz fun a hE => ?_
 have hW := WOk.start w Nil
 refine go_sp [(0, .v (.slice A s.length c))] hW hE fun a1 hE2 => ?_
 clear hE
 refine wp_scope_straight ?_
 refine go_sp [(0, .v (.slice A s.length c))] hW hE2 fun a3 hE4 => ?_
 clear hE2
 refine go_sp [(0, .v (.slice A s.length c))] hW hE4 fun a5 hE6 => ?_
 clear hE4
 refine wp_seq ?_
 refine go_sp [(0, .v (.slice A s.length c)), (8, .v (.bool (decide (((s.length : Nat) : Int) < 1))))] hW hE6 fun a7 hE8 => ?_
 clear hE6
 refine cond_false hE8 (b := decide (((s.length : Nat) : Int) < 1)) kz (decide_eq_false (by omega)) ?_
 refine wp_skip ?_
 refine then_normal ?_
 refine go_seq_region [0, 1, 2, 3, 4, 5] kz ?_
 refine go_rn [0] [1, 2, 3, 4, 5] [(0, .v (.slice A s.length c)), (9, .v (.slice A s.length c))] hW hE8 fun a9 ac => ?_
 clear hE8
 obtain ⟨am, ao, ae, ap, aa⟩ := Slots.get ho (i := 0) (by first | omega | (simp only [List.length_append, be_length, List.length_cons, List.length_nil] at *; omega))
 refine of_op (wpOp_index ac (t := 22) (A := A) (m := s.length) (q := 0) (d := 10) kz (e := 5) (size := 1) (bytes := 1) (j := 0) kz ae rfl (by first | omega | (simp only [List.length_append, be_length, List.length_cons, List.length_nil] at *; omega)) fun ar af => ?_)
 clear ac
 refine of_op (wpOp_load af (t := 5) (b := am) (o := ao + 0 * 1) (d := 11) kz (cs := [.int .u8 ((s.getD 0 0).toNat : Int)]) (v := .int .u8 ((s.getD 0 0).toNat : Int)) kz (AtF.move aa hW.step nilM keepF).at_ fun au ag => ?_)
 clear af
 refine go_rn [3, 4, 5] [] [(0, .v (.slice A s.length c)), (4, .v (.int .u32 (IntKind.u32.wrap (IntKind.u8.wrap (BitVec.ofInt 8 ((s.getD 0 0).toNat : Int) &&& BitVec.ofInt 8 127).toNat))))] hW ag fun av ah => ?_
 clear ag
 refine wpOps_nil (then_normal ?_)
 refine wp_seq ?_
 refine go_seq_region [0, 1, 2, 3, 4] kz ?_
 refine go_rn [0] [1, 2, 3, 4] [(0, .v (.slice A s.length c)), (4, .v (.int .u32 (IntKind.u32.wrap (IntKind.u8.wrap (BitVec.ofInt 8 ((s.getD 0 0).toNat : Int) &&& BitVec.ofInt 8 127).toNat)))), (14, .v (.slice A s.length c))] hW ah fun aw ai => ?_
 clear ah
 refine of_op (wpOp_index ai (t := 22) (A := A) (m := s.length) (q := 0) (d := 15) kz (e := 5) (size := 1) (bytes := 1) (j := 0) kz ae rfl (by first | omega | (simp only [List.length_append, be_length, List.length_cons, List.length_nil] at *; omega)) fun ax aj => ?_)
 clear ai
 refine of_op (wpOp_load aj (t := 5) (b := am) (o := ao + 0 * 1) (d := 16) kz (cs := [.int .u8 ((s.getD 0 0).toNat : Int)]) (v := .int .u8 ((s.getD 0 0).toNat : Int)) kz (AtF.move aa hW.step nilM keepF).at_ fun ay ak => ?_)
 clear aj
 refine go_rn [3, 4] [] [(0, .v (.slice A s.length c)), (4, .v (.int .u32 (IntKind.u32.wrap (IntKind.u8.wrap (BitVec.ofInt 8 ((s.getD 0 0).toNat : Int) &&& BitVec.ofInt 8 127).toNat)))), (18, .v (.bool ((IntKind.u8.wrap (BitVec.ofInt 8 ((s.getD 0 0).toNat : Int) &&& BitVec.ofInt 8 128).toNat) == 0)))] hW ak fun az ab => ?_
 clear ak
 refine wpOps_nil (then_normal ?_)
 refine cond_true ab (b := (IntKind.u8.wrap (BitVec.ofInt 8 ((s.getD 0 0).toNat : Int) &&& BitVec.ofInt 8 128).toNat) == 0) kz ((and128 _ (oc_lt s 0)).trans (decide_eq_true (by have := h0; unfold oc at this; omega))) ?_
 refine go_sp [(2, .v (.int .u32 (IntKind.u32.wrap (IntKind.u8.wrap (BitVec.ofInt 8 ((s.getD 0 0).toNat : Int) &&& BitVec.ofInt 8 127).toNat)))), (3, .v (.int .i64 1))] hW ab fun aA al => ?_
 clear ab
 refine wp_ret ?_
 refine then_ret ?_
 refine scope_ret ?_
 refine leave al hW.cells (v := .tuple #[.int .u32 (IntKind.u32.wrap (IntKind.u8.wrap (BitVec.ofInt 8 ((s.getD 0 0).toNat : Int) &&& BitVec.ofInt 8 127).toNat)), .int .i64 1]) kz ?_
 have e_ := uv_1 (oc s 0) (oc_lt s 0)
 refine ⟨congrArg (fun z_ : Int => Ending.returned (.tuple #[.int .u32 z_, .int .i64 1])) (Eq.trans e_ ?_), hW.step⟩
 omega
theorem rUv2 {A : Option Addr} {c : Nat} (s : Bs) {w : World} {F : Nat → Nat → Prop} (ho : Octs w F A c s) (hl : 2 ≤ s.length) (d0 d1 : Nat) (h0 : oc s 0 = d0 + 128) (h1 : oc s 1 = d1) (g0 : d0 < 128) (g1 : d1 < 128) :
  Calls Tryz.prog 238 #[.slice A s.length c] w (Gives w (.tuple #[.int .u32 ((d0 + d1 * 128 : Nat) : Int), .int .i64 2])) := by
 refine enter (n := 87) Tryz.func238 rfl Tryz.ntmps238 kz fun a hE => ?_
 have hW := WOk.start w Nil
 refine go_sp [(0, .v (.slice A s.length c))] hW hE fun a1 hE2 => ?_
 clear hE
 refine wp_scope_straight ?_
 refine go_sp [(0, .v (.slice A s.length c))] hW hE2 fun a3 hE4 => ?_
 clear hE2
 refine go_sp [(0, .v (.slice A s.length c))] hW hE4 fun a5 hE6 => ?_
 clear hE4
 refine wp_seq ?_
 refine go_sp [(0, .v (.slice A s.length c)), (8, .v (.bool (decide (((s.length : Nat) : Int) < 1))))] hW hE6 fun a7 hE8 => ?_
 clear hE6
 refine cond_false hE8 (b := decide (((s.length : Nat) : Int) < 1)) kz (decide_eq_false (by omega)) ?_
 refine wp_skip ?_
 refine then_normal ?_
 refine go_seq_region [0, 1, 2, 3, 4, 5] kz ?_
 refine go_rn [0] [1, 2, 3, 4, 5] [(0, .v (.slice A s.length c)), (9, .v (.slice A s.length c))] hW hE8 fun a9 ag => ?_
 clear hE8
 obtain ⟨aB, aC, ah, aF, aa⟩ := Slots.get ho (i := 0) (by first | omega | (simp only [List.length_append, be_length, List.length_cons, List.length_nil] at *; omega))
 refine of_op (wpOp_index ag (t := 22) (A := A) (m := s.length) (q := 0) (d := 10) kz (e := 5) (size := 1) (bytes := 1) (j := 0) kz ah rfl (by first | omega | (simp only [List.length_append, be_length, List.length_cons, List.length_nil] at *; omega)) fun aH ai => ?_)
 clear ag
 refine of_op (wpOp_load ai (t := 5) (b := aB) (o := aC + 0 * 1) (d := 11) kz (cs := [.int .u8 ((s.getD 0 0).toNat : Int)]) (v := .int .u8 ((s.getD 0 0).toNat : Int)) kz (AtF.move aa hW.step nilM keepF).at_ fun aI aj => ?_)
 clear ai
 refine go_rn [3, 4, 5] [] [(0, .v (.slice A s.length c)), (4, .v (.int .u32 (IntKind.u32.wrap (IntKind.u8.wrap (BitVec.ofInt 8 ((s.getD 0 0).toNat : Int) &&& BitVec.ofInt 8 127).toNat))))] hW aj fun aJ ak => ?_
 clear aj
 refine wpOps_nil (then_normal ?_)
 refine wp_seq ?_
 refine go_seq_region [0, 1, 2, 3, 4] kz ?_
 refine go_rn [0] [1, 2, 3, 4] [(0, .v (.slice A s.length c)), (4, .v (.int .u32 (IntKind.u32.wrap (IntKind.u8.wrap (BitVec.ofInt 8 ((s.getD 0 0).toNat : Int) &&& BitVec.ofInt 8 127).toNat)))), (14, .v (.slice A s.length c))] hW ak fun aK al => ?_
 clear ak
 refine of_op (wpOp_index al (t := 22) (A := A) (m := s.length) (q := 0) (d := 15) kz (e := 5) (size := 1) (bytes := 1) (j := 0) kz ah rfl (by first | omega | (simp only [List.length_append, be_length, List.length_cons, List.length_nil] at *; omega)) fun aL am => ?_)
 clear al
 refine of_op (wpOp_load am (t := 5) (b := aB) (o := aC + 0 * 1) (d := 16) kz (cs := [.int .u8 ((s.getD 0 0).toNat : Int)]) (v := .int .u8 ((s.getD 0 0).toNat : Int)) kz (AtF.move aa hW.step nilM keepF).at_ fun aM ao => ?_)
 clear am
 refine go_rn [3, 4] [] [(0, .v (.slice A s.length c)), (4, .v (.int .u32 (IntKind.u32.wrap (IntKind.u8.wrap (BitVec.ofInt 8 ((s.getD 0 0).toNat : Int) &&& BitVec.ofInt 8 127).toNat)))), (18, .v (.bool ((IntKind.u8.wrap (BitVec.ofInt 8 ((s.getD 0 0).toNat : Int) &&& BitVec.ofInt 8 128).toNat) == 0)))] hW ao fun aN ac => ?_
 clear ao
 refine wpOps_nil (then_normal ?_)
 refine cond_false ac (b := (IntKind.u8.wrap (BitVec.ofInt 8 ((s.getD 0 0).toNat : Int) &&& BitVec.ofInt 8 128).toNat) == 0) kz ((and128 _ (oc_lt s 0)).trans (decide_eq_false (by have := h0; unfold oc at this; omega))) ?_
 refine go_sp [(0, .v (.slice A s.length c)), (4, .v (.int .u32 (IntKind.u32.wrap (IntKind.u8.wrap (BitVec.ofInt 8 ((s.getD 0 0).toNat : Int) &&& BitVec.ofInt 8 127).toNat)))), (22, .v (.bool (decide (((s.length : Nat) : Int) < 2))))] hW ac fun aO ae => ?_
 clear ac
 refine cond_false ae (b := decide (((s.length : Nat) : Int) < 2)) kz (decide_eq_false (by omega)) ?_
 refine wp_skip ?_
 refine then_normal ?_
 refine go_seq_region [0, 1, 2, 3, 4, 5, 6, 7, 8] kz ?_
 refine go_rn [0, 1] [2, 3, 4, 5, 6, 7, 8] [(0, .v (.slice A s.length c)), (23, .v (.int .u32 (IntKind.u32.wrap (IntKind.u8.wrap (BitVec.ofInt 8 ((s.getD 0 0).toNat : Int) &&& BitVec.ofInt 8 127).toNat)))), (24, .v (.slice A s.length c))] hW ae fun aP ap => ?_
 clear ae
 obtain ⟨aD, aE, ar, aG, ab⟩ := Slots.get ho (i := 1) (by first | omega | (simp only [List.length_append, be_length, List.length_cons, List.length_nil] at *; omega))
 refine of_op (wpOp_index ap (t := 22) (A := A) (m := s.length) (q := 1) (d := 25) kz (e := 5) (size := 1) (bytes := 1) (j := 1) kz ar rfl (by first | omega | (simp only [List.length_append, be_length, List.length_cons, List.length_nil] at *; omega)) fun aQ au => ?_)
 clear ap
 refine of_op (wpOp_load au (t := 5) (b := aD) (o := aE + 1 * 1) (d := 26) kz (cs := [.int .u8 ((s.getD 1 0).toNat : Int)]) (v := .int .u8 ((s.getD 1 0).toNat : Int)) kz (AtF.move ab hW.step nilM keepF).at_ fun aR av => ?_)
 clear au
 refine go_rn [4, 5, 6, 7, 8] [] [(0, .v (.slice A s.length c)), (4, .v (.int .u32 (IntKind.u32.wrap (BitVec.ofInt 32 (IntKind.u32.wrap (IntKind.u8.wrap (BitVec.ofInt 8 ((s.getD 0 0).toNat : Int) &&& BitVec.ofInt 8 127).toNat)) ||| BitVec.ofInt 32 (IntKind.u32.wrap ((IntKind.u32.wrap (IntKind.u8.wrap (BitVec.ofInt 8 ((s.getD 1 0).toNat : Int) &&& BitVec.ofInt 8 127).toNat)) * 128))).toNat)))] hW av fun aS aw => ?_
 clear av
 refine wpOps_nil (then_normal ?_)
 refine wp_seq ?_
 refine go_seq_region [0, 1, 2, 3, 4] kz ?_
 refine go_rn [0] [1, 2, 3, 4] [(0, .v (.slice A s.length c)), (4, .v (.int .u32 (IntKind.u32.wrap (BitVec.ofInt 32 (IntKind.u32.wrap (IntKind.u8.wrap (BitVec.ofInt 8 ((s.getD 0 0).toNat : Int) &&& BitVec.ofInt 8 127).toNat)) ||| BitVec.ofInt 32 (IntKind.u32.wrap ((IntKind.u32.wrap (IntKind.u8.wrap (BitVec.ofInt 8 ((s.getD 1 0).toNat : Int) &&& BitVec.ofInt 8 127).toNat)) * 128))).toNat))), (31, .v (.slice A s.length c))] hW aw fun aT ax => ?_
 clear aw
 refine of_op (wpOp_index ax (t := 22) (A := A) (m := s.length) (q := 1) (d := 32) kz (e := 5) (size := 1) (bytes := 1) (j := 1) kz ar rfl (by first | omega | (simp only [List.length_append, be_length, List.length_cons, List.length_nil] at *; omega)) fun aU ay => ?_)
 clear ax
 refine of_op (wpOp_load ay (t := 5) (b := aD) (o := aE + 1 * 1) (d := 33) kz (cs := [.int .u8 ((s.getD 1 0).toNat : Int)]) (v := .int .u8 ((s.getD 1 0).toNat : Int)) kz (AtF.move ab hW.step nilM keepF).at_ fun aV az => ?_)
 clear ay
 refine go_rn [3, 4] [] [(0, .v (.slice A s.length c)), (4, .v (.int .u32 (IntKind.u32.wrap (BitVec.ofInt 32 (IntKind.u32.wrap (IntKind.u8.wrap (BitVec.ofInt 8 ((s.getD 0 0).toNat : Int) &&& BitVec.ofInt 8 127).toNat)) ||| BitVec.ofInt 32 (IntKind.u32.wrap ((IntKind.u32.wrap (IntKind.u8.wrap (BitVec.ofInt 8 ((s.getD 1 0).toNat : Int) &&& BitVec.ofInt 8 127).toNat)) * 128))).toNat))), (35, .v (.bool ((IntKind.u8.wrap (BitVec.ofInt 8 ((s.getD 1 0).toNat : Int) &&& BitVec.ofInt 8 128).toNat) == 0)))] hW az fun aW af => ?_
 clear az
 refine wpOps_nil (then_normal ?_)
 refine cond_true af (b := (IntKind.u8.wrap (BitVec.ofInt 8 ((s.getD 1 0).toNat : Int) &&& BitVec.ofInt 8 128).toNat) == 0) kz ((and128 _ (oc_lt s 1)).trans (decide_eq_true (by have := h1; unfold oc at this; omega))) ?_
 refine go_sp [(2, .v (.int .u32 (IntKind.u32.wrap (BitVec.ofInt 32 (IntKind.u32.wrap (IntKind.u8.wrap (BitVec.ofInt 8 ((s.getD 0 0).toNat : Int) &&& BitVec.ofInt 8 127).toNat)) ||| BitVec.ofInt 32 (IntKind.u32.wrap ((IntKind.u32.wrap (IntKind.u8.wrap (BitVec.ofInt 8 ((s.getD 1 0).toNat : Int) &&& BitVec.ofInt 8 127).toNat)) * 128))).toNat))), (3, .v (.int .i64 2))] hW af fun aX aA => ?_
 clear af
 refine wp_ret ?_
 refine then_ret ?_
 refine scope_ret ?_
 refine leave aA hW.cells (v := .tuple #[.int .u32 (IntKind.u32.wrap (BitVec.ofInt 32 (IntKind.u32.wrap (IntKind.u8.wrap (BitVec.ofInt 8 ((s.getD 0 0).toNat : Int) &&& BitVec.ofInt 8 127).toNat)) ||| BitVec.ofInt 32 (IntKind.u32.wrap ((IntKind.u32.wrap (IntKind.u8.wrap (BitVec.ofInt 8 ((s.getD 1 0).toNat : Int) &&& BitVec.ofInt 8 127).toNat)) * 128))).toNat), .int .i64 2]) kz ?_
 have e_ := uv_2 (oc s 0) (oc s 1) (oc_lt s 0) (oc_lt s 1)
 refine ⟨congrArg (fun z_ : Int => Ending.returned (.tuple #[.int .u32 z_, .int .i64 2])) (Eq.trans e_ ?_), hW.step⟩
 omega
theorem rUv3 {A : Option Addr} {c : Nat} (s : Bs) {w : World} {F : Nat → Nat → Prop} (ho : Octs w F A c s) (hl : 3 ≤ s.length) (d0 d1 d2 : Nat) (h0 : oc s 0 = d0 + 128) (h1 : oc s 1 = d1 + 128) (h2 : oc s 2 = d2) (g0 : d0 < 128) (g1 : d1 < 128) (g2 : d2 < 128) :
  Calls Tryz.prog 238 #[.slice A s.length c] w (Gives w (.tuple #[.int .u32 ((d0 + d1 * 128 + d2 * 16384 : Nat) : Int), .int .i64 3])) := by
 refine enter (n := 87) Tryz.func238 rfl Tryz.ntmps238 kz fun a hE => ?_
 have hW := WOk.start w Nil
 refine go_sp [(0, .v (.slice A s.length c))] hW hE fun a1 hE2 => ?_
 clear hE
 refine wp_scope_straight ?_
 refine go_sp [(0, .v (.slice A s.length c))] hW hE2 fun a3 hE4 => ?_
 clear hE2
 refine go_sp [(0, .v (.slice A s.length c))] hW hE4 fun a5 hE6 => ?_
 clear hE4
 refine wp_seq ?_
 refine go_sp [(0, .v (.slice A s.length c)), (8, .v (.bool (decide (((s.length : Nat) : Int) < 1))))] hW hE6 fun a7 hE8 => ?_
 clear hE6
 refine cond_false hE8 (b := decide (((s.length : Nat) : Int) < 1)) kz (decide_eq_false (by omega)) ?_
 refine wp_skip ?_
 refine then_normal ?_
 refine go_seq_region [0, 1, 2, 3, 4, 5] kz ?_
 refine go_rn [0] [1, 2, 3, 4, 5] [(0, .v (.slice A s.length c)), (9, .v (.slice A s.length c))] hW hE8 fun a9 aj => ?_
 clear hE8
 obtain ⟨aM, aN, ak, aS, aa⟩ := Slots.get ho (i := 0) (by first | omega | (simp only [List.length_append, be_length, List.length_cons, List.length_nil] at *; omega))
 refine of_op (wpOp_index aj (t := 22) (A := A) (m := s.length) (q := 0) (d := 10) kz (e := 5) (size := 1) (bytes := 1) (j := 0) kz ak rfl (by first | omega | (simp only [List.length_append, be_length, List.length_cons, List.length_nil] at *; omega)) fun aV al => ?_)
 clear aj
 refine of_op (wpOp_load al (t := 5) (b := aM) (o := aN + 0 * 1) (d := 11) kz (cs := [.int .u8 ((s.getD 0 0).toNat : Int)]) (v := .int .u8 ((s.getD 0 0).toNat : Int)) kz (AtF.move aa hW.step nilM keepF).at_ fun aW am => ?_)
 clear al
 refine go_rn [3, 4, 5] [] [(0, .v (.slice A s.length c)), (4, .v (.int .u32 (IntKind.u32.wrap (IntKind.u8.wrap (BitVec.ofInt 8 ((s.getD 0 0).toNat : Int) &&& BitVec.ofInt 8 127).toNat))))] hW am fun aX ao => ?_
 clear am
 refine wpOps_nil (then_normal ?_)
 refine wp_seq ?_
 refine go_seq_region [0, 1, 2, 3, 4] kz ?_
 refine go_rn [0] [1, 2, 3, 4] [(0, .v (.slice A s.length c)), (4, .v (.int .u32 (IntKind.u32.wrap (IntKind.u8.wrap (BitVec.ofInt 8 ((s.getD 0 0).toNat : Int) &&& BitVec.ofInt 8 127).toNat)))), (14, .v (.slice A s.length c))] hW ao fun aY ap => ?_
 clear ao
 refine of_op (wpOp_index ap (t := 22) (A := A) (m := s.length) (q := 0) (d := 15) kz (e := 5) (size := 1) (bytes := 1) (j := 0) kz ak rfl (by first | omega | (simp only [List.length_append, be_length, List.length_cons, List.length_nil] at *; omega)) fun aZ ar => ?_)
 clear ap
 refine of_op (wpOp_load ar (t := 5) (b := aM) (o := aN + 0 * 1) (d := 16) kz (cs := [.int .u8 ((s.getD 0 0).toNat : Int)]) (v := .int .u8 ((s.getD 0 0).toNat : Int)) kz (AtF.move aa hW.step nilM keepF).at_ fun ba au => ?_)
 clear ar
 refine go_rn [3, 4] [] [(0, .v (.slice A s.length c)), (4, .v (.int .u32 (IntKind.u32.wrap (IntKind.u8.wrap (BitVec.ofInt 8 ((s.getD 0 0).toNat : Int) &&& BitVec.ofInt 8 127).toNat)))), (18, .v (.bool ((IntKind.u8.wrap (BitVec.ofInt 8 ((s.getD 0 0).toNat : Int) &&& BitVec.ofInt 8 128).toNat) == 0)))] hW au fun bd ae => ?_
 clear au
 refine wpOps_nil (then_normal ?_)
 refine cond_false ae (b := (IntKind.u8.wrap (BitVec.ofInt 8 ((s.getD 0 0).toNat : Int) &&& BitVec.ofInt 8 128).toNat) == 0) kz ((and128 _ (oc_lt s 0)).trans (decide_eq_false (by have := h0; unfold oc at this; omega))) ?_
 refine go_sp [(0, .v (.slice A s.length c)), (4, .v (.int .u32 (IntKind.u32.wrap (IntKind.u8.wrap (BitVec.ofInt 8 ((s.getD 0 0).toNat : Int) &&& BitVec.ofInt 8 127).toNat)))), (22, .v (.bool (decide (((s.length : Nat) : Int) < 2))))] hW ae fun bf af => ?_
 clear ae
 refine cond_false af (b := decide (((s.length : Nat) : Int) < 2)) kz (decide_eq_false (by omega)) ?_
 refine wp_skip ?_
 refine then_normal ?_
 refine go_seq_region [0, 1, 2, 3, 4, 5, 6, 7, 8] kz ?_
 refine go_rn [0, 1] [2, 3, 4, 5, 6, 7, 8] [(0, .v (.slice A s.length c)), (23, .v (.int .u32 (IntKind.u32.wrap (IntKind.u8.wrap (BitVec.ofInt 8 ((s.getD 0 0).toNat : Int) &&& BitVec.ofInt 8 127).toNat)))), (24, .v (.slice A s.length c))] hW af fun bg av => ?_
 clear af
 obtain ⟨aO, aP, aw, aT, ab⟩ := Slots.get ho (i := 1) (by first | omega | (simp only [List.length_append, be_length, List.length_cons, List.length_nil] at *; omega))
 refine of_op (wpOp_index av (t := 22) (A := A) (m := s.length) (q := 1) (d := 25) kz (e := 5) (size := 1) (bytes := 1) (j := 1) kz aw rfl (by first | omega | (simp only [List.length_append, be_length, List.length_cons, List.length_nil] at *; omega)) fun bh ax => ?_)
 clear av
 refine of_op (wpOp_load ax (t := 5) (b := aO) (o := aP + 1 * 1) (d := 26) kz (cs := [.int .u8 ((s.getD 1 0).toNat : Int)]) (v := .int .u8 ((s.getD 1 0).toNat : Int)) kz (AtF.move ab hW.step nilM keepF).at_ fun bi ay => ?_)
 clear ax
 refine go_rn [4, 5, 6, 7, 8] [] [(0, .v (.slice A s.length c)), (4, .v (.int .u32 (IntKind.u32.wrap (BitVec.ofInt 32 (IntKind.u32.wrap (IntKind.u8.wrap (BitVec.ofInt 8 ((s.getD 0 0).toNat : Int) &&& BitVec.ofInt 8 127).toNat)) ||| BitVec.ofInt 32 (IntKind.u32.wrap ((IntKind.u32.wrap (IntKind.u8.wrap (BitVec.ofInt 8 ((s.getD 1 0).toNat : Int) &&& BitVec.ofInt 8 127).toNat)) * 128))).toNat)))] hW ay fun bj az => ?_
 clear ay
 refine wpOps_nil (then_normal ?_)
 refine wp_seq ?_
 refine go_seq_region [0, 1, 2, 3, 4] kz ?_
 refine go_rn [0] [1, 2, 3, 4] [(0, .v (.slice A s.length c)), (4, .v (.int .u32 (IntKind.u32.wrap (BitVec.ofInt 32 (IntKind.u32.wrap (IntKind.u8.wrap (BitVec.ofInt 8 ((s.getD 0 0).toNat : Int) &&& BitVec.ofInt 8 127).toNat)) ||| BitVec.ofInt 32 (IntKind.u32.wrap ((IntKind.u32.wrap (IntKind.u8.wrap (BitVec.ofInt 8 ((s.getD 1 0).toNat : Int) &&& BitVec.ofInt 8 127).toNat)) * 128))).toNat))), (31, .v (.slice A s.length c))] hW az fun bk aA => ?_
 clear az
 refine of_op (wpOp_index aA (t := 22) (A := A) (m := s.length) (q := 1) (d := 32) kz (e := 5) (size := 1) (bytes := 1) (j := 1) kz aw rfl (by first | omega | (simp only [List.length_append, be_length, List.length_cons, List.length_nil] at *; omega)) fun bn aB => ?_)
 clear aA
 refine of_op (wpOp_load aB (t := 5) (b := aO) (o := aP + 1 * 1) (d := 33) kz (cs := [.int .u8 ((s.getD 1 0).toNat : Int)]) (v := .int .u8 ((s.getD 1 0).toNat : Int)) kz (AtF.move ab hW.step nilM keepF).at_ fun bo aC => ?_)
 clear aB
 refine go_rn [3, 4] [] [(0, .v (.slice A s.length c)), (4, .v (.int .u32 (IntKind.u32.wrap (BitVec.ofInt 32 (IntKind.u32.wrap (IntKind.u8.wrap (BitVec.ofInt 8 ((s.getD 0 0).toNat : Int) &&& BitVec.ofInt 8 127).toNat)) ||| BitVec.ofInt 32 (IntKind.u32.wrap ((IntKind.u32.wrap (IntKind.u8.wrap (BitVec.ofInt 8 ((s.getD 1 0).toNat : Int) &&& BitVec.ofInt 8 127).toNat)) * 128))).toNat))), (35, .v (.bool ((IntKind.u8.wrap (BitVec.ofInt 8 ((s.getD 1 0).toNat : Int) &&& BitVec.ofInt 8 128).toNat) == 0)))] hW aC fun bp ag => ?_
 clear aC
 refine wpOps_nil (then_normal ?_)
 refine cond_false ag (b := (IntKind.u8.wrap (BitVec.ofInt 8 ((s.getD 1 0).toNat : Int) &&& BitVec.ofInt 8 128).toNat) == 0) kz ((and128 _ (oc_lt s 1)).trans (decide_eq_false (by have := h1; unfold oc at this; omega))) ?_
 refine go_sp [(0, .v (.slice A s.length c)), (4, .v (.int .u32 (IntKind.u32.wrap (BitVec.ofInt 32 (IntKind.u32.wrap (IntKind.u8.wrap (BitVec.ofInt 8 ((s.getD 0 0).toNat : Int) &&& BitVec.ofInt 8 127).toNat)) ||| BitVec.ofInt 32 (IntKind.u32.wrap ((IntKind.u32.wrap (IntKind.u8.wrap (BitVec.ofInt 8 ((s.getD 1 0).toNat : Int) &&& BitVec.ofInt 8 127).toNat)) * 128))).toNat))), (39, .v (.bool (decide (((s.length : Nat) : Int) < 3))))] hW ag fun bq ah => ?_
 clear ag
 refine cond_false ah (b := decide (((s.length : Nat) : Int) < 3)) kz (decide_eq_false (by omega)) ?_
 refine wp_skip ?_
 refine then_normal ?_
 refine go_seq_region [0, 1, 2, 3, 4, 5, 6, 7, 8] kz ?_
 refine go_rn [0, 1] [2, 3, 4, 5, 6, 7, 8] [(0, .v (.slice A s.length c)), (40, .v (.int .u32 (IntKind.u32.wrap (BitVec.ofInt 32 (IntKind.u32.wrap (IntKind.u8.wrap (BitVec.ofInt 8 ((s.getD 0 0).toNat : Int) &&& BitVec.ofInt 8 127).toNat)) ||| BitVec.ofInt 32 (IntKind.u32.wrap ((IntKind.u32.wrap (IntKind.u8.wrap (BitVec.ofInt 8 ((s.getD 1 0).toNat : Int) &&& BitVec.ofInt 8 127).toNat)) * 128))).toNat))), (41, .v (.slice A s.length c))] hW ah fun bt aD => ?_
 clear ah
 obtain ⟨aQ, aR, aE, aU, ac⟩ := Slots.get ho (i := 2) (by first | omega | (simp only [List.length_append, be_length, List.length_cons, List.length_nil] at *; omega))
 refine of_op (wpOp_index aD (t := 22) (A := A) (m := s.length) (q := 2) (d := 42) kz (e := 5) (size := 1) (bytes := 1) (j := 2) kz aE rfl (by first | omega | (simp only [List.length_append, be_length, List.length_cons, List.length_nil] at *; omega)) fun bu aF => ?_)
 clear aD
 refine of_op (wpOp_load aF (t := 5) (b := aQ) (o := aR + 2 * 1) (d := 43) kz (cs := [.int .u8 ((s.getD 2 0).toNat : Int)]) (v := .int .u8 ((s.getD 2 0).toNat : Int)) kz (AtF.move ac hW.step nilM keepF).at_ fun bw aG => ?_)
 clear aF
 refine go_rn [4, 5, 6, 7, 8] [] [(0, .v (.slice A s.length c)), (4, .v (.int .u32 (IntKind.u32.wrap (BitVec.ofInt 32 (IntKind.u32.wrap (BitVec.ofInt 32 (IntKind.u32.wrap (IntKind.u8.wrap (BitVec.ofInt 8 ((s.getD 0 0).toNat : Int) &&& BitVec.ofInt 8 127).toNat)) ||| BitVec.ofInt 32 (IntKind.u32.wrap ((IntKind.u32.wrap (IntKind.u8.wrap (BitVec.ofInt 8 ((s.getD 1 0).toNat : Int) &&& BitVec.ofInt 8 127).toNat)) * 128))).toNat) ||| BitVec.ofInt 32 (IntKind.u32.wrap ((IntKind.u32.wrap (IntKind.u8.wrap (BitVec.ofInt 8 ((s.getD 2 0).toNat : Int) &&& BitVec.ofInt 8 127).toNat)) * 16384))).toNat)))] hW aG fun bx aH => ?_
 clear aG
 refine wpOps_nil (then_normal ?_)
 refine wp_seq ?_
 refine go_seq_region [0, 1, 2, 3, 4] kz ?_
 refine go_rn [0] [1, 2, 3, 4] [(0, .v (.slice A s.length c)), (4, .v (.int .u32 (IntKind.u32.wrap (BitVec.ofInt 32 (IntKind.u32.wrap (BitVec.ofInt 32 (IntKind.u32.wrap (IntKind.u8.wrap (BitVec.ofInt 8 ((s.getD 0 0).toNat : Int) &&& BitVec.ofInt 8 127).toNat)) ||| BitVec.ofInt 32 (IntKind.u32.wrap ((IntKind.u32.wrap (IntKind.u8.wrap (BitVec.ofInt 8 ((s.getD 1 0).toNat : Int) &&& BitVec.ofInt 8 127).toNat)) * 128))).toNat) ||| BitVec.ofInt 32 (IntKind.u32.wrap ((IntKind.u32.wrap (IntKind.u8.wrap (BitVec.ofInt 8 ((s.getD 2 0).toNat : Int) &&& BitVec.ofInt 8 127).toNat)) * 16384))).toNat))), (48, .v (.slice A s.length c))] hW aH fun bz aI => ?_
 clear aH
 refine of_op (wpOp_index aI (t := 22) (A := A) (m := s.length) (q := 2) (d := 49) kz (e := 5) (size := 1) (bytes := 1) (j := 2) kz aE rfl (by first | omega | (simp only [List.length_append, be_length, List.length_cons, List.length_nil] at *; omega)) fun bA aJ => ?_)
 clear aI
 refine of_op (wpOp_load aJ (t := 5) (b := aQ) (o := aR + 2 * 1) (d := 50) kz (cs := [.int .u8 ((s.getD 2 0).toNat : Int)]) (v := .int .u8 ((s.getD 2 0).toNat : Int)) kz (AtF.move ac hW.step nilM keepF).at_ fun bB aK => ?_)
 clear aJ
 refine go_rn [3, 4] [] [(0, .v (.slice A s.length c)), (4, .v (.int .u32 (IntKind.u32.wrap (BitVec.ofInt 32 (IntKind.u32.wrap (BitVec.ofInt 32 (IntKind.u32.wrap (IntKind.u8.wrap (BitVec.ofInt 8 ((s.getD 0 0).toNat : Int) &&& BitVec.ofInt 8 127).toNat)) ||| BitVec.ofInt 32 (IntKind.u32.wrap ((IntKind.u32.wrap (IntKind.u8.wrap (BitVec.ofInt 8 ((s.getD 1 0).toNat : Int) &&& BitVec.ofInt 8 127).toNat)) * 128))).toNat) ||| BitVec.ofInt 32 (IntKind.u32.wrap ((IntKind.u32.wrap (IntKind.u8.wrap (BitVec.ofInt 8 ((s.getD 2 0).toNat : Int) &&& BitVec.ofInt 8 127).toNat)) * 16384))).toNat))), (52, .v (.bool ((IntKind.u8.wrap (BitVec.ofInt 8 ((s.getD 2 0).toNat : Int) &&& BitVec.ofInt 8 128).toNat) == 0)))] hW aK fun bC ai => ?_
 clear aK
 refine wpOps_nil (then_normal ?_)
 refine cond_true ai (b := (IntKind.u8.wrap (BitVec.ofInt 8 ((s.getD 2 0).toNat : Int) &&& BitVec.ofInt 8 128).toNat) == 0) kz ((and128 _ (oc_lt s 2)).trans (decide_eq_true (by have := h2; unfold oc at this; omega))) ?_
 refine go_sp [(2, .v (.int .u32 (IntKind.u32.wrap (BitVec.ofInt 32 (IntKind.u32.wrap (BitVec.ofInt 32 (IntKind.u32.wrap (IntKind.u8.wrap (BitVec.ofInt 8 ((s.getD 0 0).toNat : Int) &&& BitVec.ofInt 8 127).toNat)) ||| BitVec.ofInt 32 (IntKind.u32.wrap ((IntKind.u32.wrap (IntKind.u8.wrap (BitVec.ofInt 8 ((s.getD 1 0).toNat : Int) &&& BitVec.ofInt 8 127).toNat)) * 128))).toNat) ||| BitVec.ofInt 32 (IntKind.u32.wrap ((IntKind.u32.wrap (IntKind.u8.wrap (BitVec.ofInt 8 ((s.getD 2 0).toNat : Int) &&& BitVec.ofInt 8 127).toNat)) * 16384))).toNat))), (3, .v (.int .i64 3))] hW ai fun bD aL => ?_
 clear ai
 refine wp_ret ?_
 refine then_ret ?_
 refine scope_ret ?_
 refine leave aL hW.cells (v := .tuple #[.int .u32 (IntKind.u32.wrap (BitVec.ofInt 32 (IntKind.u32.wrap (BitVec.ofInt 32 (IntKind.u32.wrap (IntKind.u8.wrap (BitVec.ofInt 8 ((s.getD 0 0).toNat : Int) &&& BitVec.ofInt 8 127).toNat)) ||| BitVec.ofInt 32 (IntKind.u32.wrap ((IntKind.u32.wrap (IntKind.u8.wrap (BitVec.ofInt 8 ((s.getD 1 0).toNat : Int) &&& BitVec.ofInt 8 127).toNat)) * 128))).toNat) ||| BitVec.ofInt 32 (IntKind.u32.wrap ((IntKind.u32.wrap (IntKind.u8.wrap (BitVec.ofInt 8 ((s.getD 2 0).toNat : Int) &&& BitVec.ofInt 8 127).toNat)) * 16384))).toNat), .int .i64 3]) kz ?_
 have e_ := uv_3 (oc s 0) (oc s 1) (oc s 2) (oc_lt s 0) (oc_lt s 1) (oc_lt s 2)
 refine ⟨congrArg (fun z_ : Int => Ending.returned (.tuple #[.int .u32 z_, .int .i64 3])) (Eq.trans e_ ?_), hW.step⟩
 omega
theorem rUv4 {A : Option Addr} {c : Nat} (s : Bs) {w : World} {F : Nat → Nat → Prop} (ho : Octs w F A c s) (hl : 4 ≤ s.length) (d0 d1 d2 d3 : Nat) (h0 : oc s 0 = d0 + 128) (h1 : oc s 1 = d1 + 128) (h2 : oc s 2 = d2 + 128) (h3 : oc s 3 = d3) (g0 : d0 < 128) (g1 : d1 < 128) (g2 : d2 < 128) (g3 : d3 < 128) :
  Calls Tryz.prog 238 #[.slice A s.length c] w (Gives w (.tuple #[.int .u32 ((d0 + d1 * 128 + d2 * 16384 + d3 * 2097152 : Nat) : Int), .int .i64 4])) := by
 refine enter (n := 87) Tryz.func238 rfl Tryz.ntmps238 kz fun a hE => ?_
 have hW := WOk.start w Nil
 refine go_sp [(0, .v (.slice A s.length c))] hW hE fun a1 hE2 => ?_
 clear hE
 refine wp_scope_straight ?_
 refine go_sp [(0, .v (.slice A s.length c))] hW hE2 fun a3 hE4 => ?_
 clear hE2
 refine go_sp [(0, .v (.slice A s.length c))] hW hE4 fun a5 hE6 => ?_
 clear hE4
 refine wp_seq ?_
 refine go_sp [(0, .v (.slice A s.length c)), (8, .v (.bool (decide (((s.length : Nat) : Int) < 1))))] hW hE6 fun a7 hE8 => ?_
 clear hE6
 refine cond_false hE8 (b := decide (((s.length : Nat) : Int) < 1)) kz (decide_eq_false (by omega)) ?_
 refine wp_skip ?_
 refine then_normal ?_
 refine go_seq_region [0, 1, 2, 3, 4, 5] kz ?_
 refine go_rn [0] [1, 2, 3, 4, 5] [(0, .v (.slice A s.length c)), (9, .v (.slice A s.length c))] hW hE8 fun a9 am => ?_
 clear hE8
 obtain ⟨aX, aY, ao, bi, aa⟩ := Slots.get ho (i := 0) (by first | omega | (simp only [List.length_append, be_length, List.length_cons, List.length_nil] at *; omega))
 refine of_op (wpOp_index am (t := 22) (A := A) (m := s.length) (q := 0) (d := 10) kz (e := 5) (size := 1) (bytes := 1) (j := 0) kz ao rfl (by first | omega | (simp only [List.length_append, be_length, List.length_cons, List.length_nil] at *; omega)) fun bo ap => ?_)
 clear am
 refine of_op (wpOp_load ap (t := 5) (b := aX) (o := aY + 0 * 1) (d := 11) kz (cs := [.int .u8 ((s.getD 0 0).toNat : Int)]) (v := .int .u8 ((s.getD 0 0).toNat : Int)) kz (AtF.move aa hW.step nilM keepF).at_ fun bp ar => ?_)
 clear ap
 refine go_rn [3, 4, 5] [] [(0, .v (.slice A s.length c)), (4, .v (.int .u32 (IntKind.u32.wrap (IntKind.u8.wrap (BitVec.ofInt 8 ((s.getD 0 0).toNat : Int) &&& BitVec.ofInt 8 127).toNat))))] hW ar fun bq au => ?_
 clear ar
 refine wpOps_nil (then_normal ?_)
 refine wp_seq ?_
 refine go_seq_region [0, 1, 2, 3, 4] kz ?_
 refine go_rn [0] [1, 2, 3, 4] [(0, .v (.slice A s.length c)), (4, .v (.int .u32 (IntKind.u32.wrap (IntKind.u8.wrap (BitVec.ofInt 8 ((s.getD 0 0).toNat : Int) &&& BitVec.ofInt 8 127).toNat)))), (14, .v (.slice A s.length c))] hW au fun bt av => ?_
 clear au
 refine of_op (wpOp_index av (t := 22) (A := A) (m := s.length) (q := 0) (d := 15) kz (e := 5) (size := 1) (bytes := 1) (j := 0) kz ao rfl (by first | omega | (simp only [List.length_append, be_length, List.length_cons, List.length_nil] at *; omega)) fun bu aw => ?_)
 clear av
 refine of_op (wpOp_load aw (t := 5) (b := aX) (o := aY + 0 * 1) (d := 16) kz (cs := [.int .u8 ((s.getD 0 0).toNat : Int)]) (v := .int .u8 ((s.getD 0 0).toNat : Int)) kz (AtF.move aa hW.step nilM keepF).at_ fun bw ax => ?_)
 clear aw
 refine go_rn [3, 4] [] [(0, .v (.slice A s.length c)), (4, .v (.int .u32 (IntKind.u32.wrap (IntKind.u8.wrap (BitVec.ofInt 8 ((s.getD 0 0).toNat : Int) &&& BitVec.ofInt 8 127).toNat)))), (18, .v (.bool ((IntKind.u8.wrap (BitVec.ofInt 8 ((s.getD 0 0).toNat : Int) &&& BitVec.ofInt 8 128).toNat) == 0)))] hW ax fun bx af => ?_
 clear ax
 refine wpOps_nil (then_normal ?_)
 refine cond_false af (b := (IntKind.u8.wrap (BitVec.ofInt 8 ((s.getD 0 0).toNat : Int) &&& BitVec.ofInt 8 128).toNat) == 0) kz ((and128 _ (oc_lt s 0)).trans (decide_eq_false (by have := h0; unfold oc at this; omega))) ?_
 refine go_sp [(0, .v (.slice A s.length c)), (4, .v (.int .u32 (IntKind.u32.wrap (IntKind.u8.wrap (BitVec.ofInt 8 ((s.getD 0 0).toNat : Int) &&& BitVec.ofInt 8 127).toNat)))), (22, .v (.bool (decide (((s.length : Nat) : Int) < 2))))] hW af fun bz ag => ?_
 clear af
 refine cond_false ag (b := decide (((s.length : Nat) : Int) < 2)) kz (decide_eq_false (by omega)) ?_
 refine wp_skip ?_
 refine then_normal ?_
 refine go_seq_region [0, 1, 2, 3, 4, 5, 6, 7, 8] kz ?_
 refine go_rn [0, 1] [2, 3, 4, 5, 6, 7, 8] [(0, .v (.slice A s.length c)), (23, .v (.int .u32 (IntKind.u32.wrap (IntKind.u8.wrap (BitVec.ofInt 8 ((s.getD 0 0).toNat : Int) &&& BitVec.ofInt 8 127).toNat)))), (24, .v (.slice A s.length c))] hW ag fun bA ay => ?_
 clear ag
 obtain ⟨aZ, ba, az, bj, ab⟩ := Slots.get ho (i := 1) (by first | omega | (simp only [List.length_append, be_length, List.length_cons, List.length_nil] at *; omega))
 refine of_op (wpOp_index ay (t := 22) (A := A) (m := s.length) (q := 1) (d := 25) kz (e := 5) (size := 1) (bytes := 1) (j := 1) kz az rfl (by first | omega | (simp only [List.length_append, be_length, List.length_cons, List.length_nil] at *; omega)) fun bB aA => ?_)
 clear ay
 refine of_op (wpOp_load aA (t := 5) (b := aZ) (o := ba + 1 * 1) (d := 26) kz (cs := [.int .u8 ((s.getD 1 0).toNat : Int)]) (v := .int .u8 ((s.getD 1 0).toNat : Int)) kz (AtF.move ab hW.step nilM keepF).at_ fun bC aB => ?_)
 clear aA
 refine go_rn [4, 5, 6, 7, 8] [] [(0, .v (.slice A s.length c)), (4, .v (.int .u32 (IntKind.u32.wrap (BitVec.ofInt 32 (IntKind.u32.wrap (IntKind.u8.wrap (BitVec.ofInt 8 ((s.getD 0 0).toNat : Int) &&& BitVec.ofInt 8 127).toNat)) ||| BitVec.ofInt 32 (IntKind.u32.wrap ((IntKind.u32.wrap (IntKind.u8.wrap (BitVec.ofInt 8 ((s.getD 1 0).toNat : Int) &&& BitVec.ofInt 8 127).toNat)) * 128))).toNat)))] hW aB fun bD aC => ?_
 clear aB
 refine wpOps_nil (then_normal ?_)
 refine wp_seq ?_
 refine go_seq_region [0, 1, 2, 3, 4] kz ?_
 refine go_rn [0] [1, 2, 3, 4] [(0, .v (.slice A s.length c)), (4, .v (.int .u32 (IntKind.u32.wrap (BitVec.ofInt 32 (IntKind.u32.wrap (IntKind.u8.wrap (BitVec.ofInt 8 ((s.getD 0 0).toNat : Int) &&& BitVec.ofInt 8 127).toNat)) ||| BitVec.ofInt 32 (IntKind.u32.wrap ((IntKind.u32.wrap (IntKind.u8.wrap (BitVec.ofInt 8 ((s.getD 1 0).toNat : Int) &&& BitVec.ofInt 8 127).toNat)) * 128))).toNat))), (31, .v (.slice A s.length c))] hW aC fun bE aD => ?_
 clear aC
 refine of_op (wpOp_index aD (t := 22) (A := A) (m := s.length) (q := 1) (d := 32) kz (e := 5) (size := 1) (bytes := 1) (j := 1) kz az rfl (by first | omega | (simp only [List.length_append, be_length, List.length_cons, List.length_nil] at *; omega)) fun bF aE => ?_)
 clear aD
 refine of_op (wpOp_load aE (t := 5) (b := aZ) (o := ba + 1 * 1) (d := 33) kz (cs := [.int .u8 ((s.getD 1 0).toNat : Int)]) (v := .int .u8 ((s.getD 1 0).toNat : Int)) kz (AtF.move ab hW.step nilM keepF).at_ fun bG aF => ?_)
 clear aE
 refine go_rn [3, 4] [] [(0, .v (.slice A s.length c)), (4, .v (.int .u32 (IntKind.u32.wrap (BitVec.ofInt 32 (IntKind.u32.wrap (IntKind.u8.wrap (BitVec.ofInt 8 ((s.getD 0 0).toNat : Int) &&& BitVec.ofInt 8 127).toNat)) ||| BitVec.ofInt 32 (IntKind.u32.wrap ((IntKind.u32.wrap (IntKind.u8.wrap (BitVec.ofInt 8 ((s.getD 1 0).toNat : Int) &&& BitVec.ofInt 8 127).toNat)) * 128))).toNat))), (35, .v (.bool ((IntKind.u8.wrap (BitVec.ofInt 8 ((s.getD 1 0).toNat : Int) &&& BitVec.ofInt 8 128).toNat) == 0)))] hW aF fun bH ah => ?_
 clear aF
 refine wpOps_nil (then_normal ?_)
 refine cond_false ah (b := (IntKind.u8.wrap (BitVec.ofInt 8 ((s.getD 1 0).toNat : Int) &&& BitVec.ofInt 8 128).toNat) == 0) kz ((and128 _ (oc_lt s 1)).trans (decide_eq_false (by have := h1; unfold oc at this; omega))) ?_
 refine go_sp [(0, .v (.slice A s.length c)), (4, .v (.int .u32 (IntKind.u32.wrap (BitVec.ofInt 32 (IntKind.u32.wrap (IntKind.u8.wrap (BitVec.ofInt 8 ((s.getD 0 0).toNat : Int) &&& BitVec.ofInt 8 127).toNat)) ||| BitVec.ofInt 32 (IntKind.u32.wrap ((IntKind.u32.wrap (IntKind.u8.wrap (BitVec.ofInt 8 ((s.getD 1 0).toNat : Int) &&& BitVec.ofInt 8 127).toNat)) * 128))).toNat))), (39, .v (.bool (decide (((s.length : Nat) : Int) < 3))))] hW ah fun bI ai => ?_
 clear ah
 refine cond_false ai (b := decide (((s.length : Nat) : Int) < 3)) kz (decide_eq_false (by omega)) ?_
 refine wp_skip ?_
 refine then_normal ?_
 refine go_seq_region [0, 1, 2, 3, 4, 5, 6, 7, 8] kz ?_
 refine go_rn [0, 1] [2, 3, 4, 5, 6, 7, 8] [(0, .v (.slice A s.length c)), (40, .v (.int .u32 (IntKind.u32.wrap (BitVec.ofInt 32 (IntKind.u32.wrap (IntKind.u8.wrap (BitVec.ofInt 8 ((s.getD 0 0).toNat : Int) &&& BitVec.ofInt 8 127).toNat)) ||| BitVec.ofInt 32 (IntKind.u32.wrap ((IntKind.u32.wrap (IntKind.u8.wrap (BitVec.ofInt 8 ((s.getD 1 0).toNat : Int) &&& BitVec.ofInt 8 127).toNat)) * 128))).toNat))), (41, .v (.slice A s.length c))] hW ai fun bJ aG => ?_
 clear ai
 obtain ⟨bd, bf, aH, bk, ac⟩ := Slots.get ho (i := 2) (by first | omega | (simp only [List.length_append, be_length, List.length_cons, List.length_nil] at *; omega))
 refine of_op (wpOp_index aG (t := 22) (A := A) (m := s.length) (q := 2) (d := 42) kz (e := 5) (size := 1) (bytes := 1) (j := 2) kz aH rfl (by first | omega | (simp only [List.length_append, be_length, List.length_cons, List.length_nil] at *; omega)) fun bK aI => ?_)
 clear aG
 refine of_op (wpOp_load aI (t := 5) (b := bd) (o := bf + 2 * 1) (d := 43) kz (cs := [.int .u8 ((s.getD 2 0).toNat : Int)]) (v := .int .u8 ((s.getD 2 0).toNat : Int)) kz (AtF.move ac hW.step nilM keepF).at_ fun bL aJ => ?_)
 clear aI
 refine go_rn [4, 5, 6, 7, 8] [] [(0, .v (.slice A s.length c)), (4, .v (.int .u32 (IntKind.u32.wrap (BitVec.ofInt 32 (IntKind.u32.wrap (BitVec.ofInt 32 (IntKind.u32.wrap (IntKind.u8.wrap (BitVec.ofInt 8 ((s.getD 0 0).toNat : Int) &&& BitVec.ofInt 8 127).toNat)) ||| BitVec.ofInt 32 (IntKind.u32.wrap ((IntKind.u32.wrap (IntKind.u8.wrap (BitVec.ofInt 8 ((s.getD 1 0).toNat : Int) &&& BitVec.ofInt 8 127).toNat)) * 128))).toNat) ||| BitVec.ofInt 32 (IntKind.u32.wrap ((IntKind.u32.wrap (IntKind.u8.wrap (BitVec.ofInt 8 ((s.getD 2 0).toNat : Int) &&& BitVec.ofInt 8 127).toNat)) * 16384))).toNat)))] hW aJ fun bM aK => ?_
 clear aJ
 refine wpOps_nil (then_normal ?_)
 refine wp_seq ?_
 refine go_seq_region [0, 1, 2, 3, 4] kz ?_
 refine go_rn [0] [1, 2, 3, 4] [(0, .v (.slice A s.length c)), (4, .v (.int .u32 (IntKind.u32.wrap (BitVec.ofInt 32 (IntKind.u32.wrap (BitVec.ofInt 32 (IntKind.u32.wrap (IntKind.u8.wrap (BitVec.ofInt 8 ((s.getD 0 0).toNat : Int) &&& BitVec.ofInt 8 127).toNat)) ||| BitVec.ofInt 32 (IntKind.u32.wrap ((IntKind.u32.wrap (IntKind.u8.wrap (BitVec.ofInt 8 ((s.getD 1 0).toNat : Int) &&& BitVec.ofInt 8 127).toNat)) * 128))).toNat) ||| BitVec.ofInt 32 (IntKind.u32.wrap ((IntKind.u32.wrap (IntKind.u8.wrap (BitVec.ofInt 8 ((s.getD 2 0).toNat : Int) &&& BitVec.ofInt 8 127).toNat)) * 16384))).toNat))), (48, .v (.slice A s.length c))] hW aK fun bN aL => ?_
 clear aK
 refine of_op (wpOp_index aL (t := 22) (A := A) (m := s.length) (q := 2) (d := 49) kz (e := 5) (size := 1) (bytes := 1) (j := 2) kz aH rfl (by first | omega | (simp only [List.length_append, be_length, List.length_cons, List.length_nil] at *; omega)) fun bO aM => ?_)
 clear aL
 refine of_op (wpOp_load aM (t := 5) (b := bd) (o := bf + 2 * 1) (d := 50) kz (cs := [.int .u8 ((s.getD 2 0).toNat : Int)]) (v := .int .u8 ((s.getD 2 0).toNat : Int)) kz (AtF.move ac hW.step nilM keepF).at_ fun bP aN => ?_)
 clear aM
 refine go_rn [3, 4] [] [(0, .v (.slice A s.length c)), (4, .v (.int .u32 (IntKind.u32.wrap (BitVec.ofInt 32 (IntKind.u32.wrap (BitVec.ofInt 32 (IntKind.u32.wrap (IntKind.u8.wrap (BitVec.ofInt 8 ((s.getD 0 0).toNat : Int) &&& BitVec.ofInt 8 127).toNat)) ||| BitVec.ofInt 32 (IntKind.u32.wrap ((IntKind.u32.wrap (IntKind.u8.wrap (BitVec.ofInt 8 ((s.getD 1 0).toNat : Int) &&& BitVec.ofInt 8 127).toNat)) * 128))).toNat) ||| BitVec.ofInt 32 (IntKind.u32.wrap ((IntKind.u32.wrap (IntKind.u8.wrap (BitVec.ofInt 8 ((s.getD 2 0).toNat : Int) &&& BitVec.ofInt 8 127).toNat)) * 16384))).toNat))), (52, .v (.bool ((IntKind.u8.wrap (BitVec.ofInt 8 ((s.getD 2 0).toNat : Int) &&& BitVec.ofInt 8 128).toNat) == 0)))] hW aN fun bQ aj => ?_
 clear aN
 refine wpOps_nil (then_normal ?_)
 refine cond_false aj (b := (IntKind.u8.wrap (BitVec.ofInt 8 ((s.getD 2 0).toNat : Int) &&& BitVec.ofInt 8 128).toNat) == 0) kz ((and128 _ (oc_lt s 2)).trans (decide_eq_false (by have := h2; unfold oc at this; omega))) ?_
 refine go_sp [(0, .v (.slice A s.length c)), (4, .v (.int .u32 (IntKind.u32.wrap (BitVec.ofInt 32 (IntKind.u32.wrap (BitVec.ofInt 32 (IntKind.u32.wrap (IntKind.u8.wrap (BitVec.ofInt 8 ((s.getD 0 0).toNat : Int) &&& BitVec.ofInt 8 127).toNat)) ||| BitVec.ofInt 32 (IntKind.u32.wrap ((IntKind.u32.wrap (IntKind.u8.wrap (BitVec.ofInt 8 ((s.getD 1 0).toNat : Int) &&& BitVec.ofInt 8 127).toNat)) * 128))).toNat) ||| BitVec.ofInt 32 (IntKind.u32.wrap ((IntKind.u32.wrap (IntKind.u8.wrap (BitVec.ofInt 8 ((s.getD 2 0).toNat : Int) &&& BitVec.ofInt 8 127).toNat)) * 16384))).toNat))), (56, .v (.bool (decide (((s.length : Nat) : Int) < 4))))] hW aj fun bR ak => ?_
 clear aj
 refine cond_false ak (b := decide (((s.length : Nat) : Int) < 4)) kz (decide_eq_false (by omega)) ?_
 refine wp_skip ?_
 refine then_normal ?_
 refine go_seq_region [0, 1, 2, 3, 4, 5, 6, 7, 8] kz ?_
 refine go_rn [0, 1] [2, 3, 4, 5, 6, 7, 8] [(0, .v (.slice A s.length c)), (57, .v (.int .u32 (IntKind.u32.wrap (BitVec.ofInt 32 (IntKind.u32.wrap (BitVec.ofInt 32 (IntKind.u32.wrap (IntKind.u8.wrap (BitVec.ofInt 8 ((s.getD 0 0).toNat : Int) &&& BitVec.ofInt 8 127).toNat)) ||| BitVec.ofInt 32 (IntKind.u32.wrap ((IntKind.u32.wrap (IntKind.u8.wrap (BitVec.ofInt 8 ((s.getD 1 0).toNat : Int) &&& BitVec.ofInt 8 127).toNat)) * 128))).toNat) ||| BitVec.ofInt 32 (IntKind.u32.wrap ((IntKind.u32.wrap (IntKind.u8.wrap (BitVec.ofInt 8 ((s.getD 2 0).toNat : Int) &&& BitVec.ofInt 8 127).toNat)) * 16384))).toNat))), (58, .v (.slice A s.length c))] hW ak fun bS aO => ?_
 clear ak
 obtain ⟨bg, bh, aP, bn, ae⟩ := Slots.get ho (i := 3) (by first | omega | (simp only [List.length_append, be_length, List.length_cons, List.length_nil] at *; omega))
 refine of_op (wpOp_index aO (t := 22) (A := A) (m := s.length) (q := 3) (d := 59) kz (e := 5) (size := 1) (bytes := 1) (j := 3) kz aP rfl (by first | omega | (simp only [List.length_append, be_length, List.length_cons, List.length_nil] at *; omega)) fun bT aQ => ?_)
 clear aO
 refine of_op (wpOp_load aQ (t := 5) (b := bg) (o := bh + 3 * 1) (d := 60) kz (cs := [.int .u8 ((s.getD 3 0).toNat : Int)]) (v := .int .u8 ((s.getD 3 0).toNat : Int)) kz (AtF.move ae hW.step nilM keepF).at_ fun bU aR => ?_)
 clear aQ
 refine go_rn [4, 5, 6, 7, 8] [] [(0, .v (.slice A s.length c)), (4, .v (.int .u32 (IntKind.u32.wrap (BitVec.ofInt 32 (IntKind.u32.wrap (BitVec.ofInt 32 (IntKind.u32.wrap (BitVec.ofInt 32 (IntKind.u32.wrap (IntKind.u8.wrap (BitVec.ofInt 8 ((s.getD 0 0).toNat : Int) &&& BitVec.ofInt 8 127).toNat)) ||| BitVec.ofInt 32 (IntKind.u32.wrap ((IntKind.u32.wrap (IntKind.u8.wrap (BitVec.ofInt 8 ((s.getD 1 0).toNat : Int) &&& BitVec.ofInt 8 127).toNat)) * 128))).toNat) ||| BitVec.ofInt 32 (IntKind.u32.wrap ((IntKind.u32.wrap (IntKind.u8.wrap (BitVec.ofInt 8 ((s.getD 2 0).toNat : Int) &&& BitVec.ofInt 8 127).toNat)) * 16384))).toNat) ||| BitVec.ofInt 32 (IntKind.u32.wrap ((IntKind.u32.wrap (IntKind.u8.wrap (BitVec.ofInt 8 ((s.getD 3 0).toNat : Int) &&& BitVec.ofInt 8 127).toNat)) * 2097152))).toNat)))] hW aR fun bV aS => ?_
 clear aR
 refine wpOps_nil (then_normal ?_)
 refine wp_seq ?_
 refine go_seq_region [0, 1, 2, 3, 4] kz ?_
 refine go_rn [0] [1, 2, 3, 4] [(0, .v (.slice A s.length c)), (4, .v (.int .u32 (IntKind.u32.wrap (BitVec.ofInt 32 (IntKind.u32.wrap (BitVec.ofInt 32 (IntKind.u32.wrap (BitVec.ofInt 32 (IntKind.u32.wrap (IntKind.u8.wrap (BitVec.ofInt 8 ((s.getD 0 0).toNat : Int) &&& BitVec.ofInt 8 127).toNat)) ||| BitVec.ofInt 32 (IntKind.u32.wrap ((IntKind.u32.wrap (IntKind.u8.wrap (BitVec.ofInt 8 ((s.getD 1 0).toNat : Int) &&& BitVec.ofInt 8 127).toNat)) * 128))).toNat) ||| BitVec.ofInt 32 (IntKind.u32.wrap ((IntKind.u32.wrap (IntKind.u8.wrap (BitVec.ofInt 8 ((s.getD 2 0).toNat : Int) &&& BitVec.ofInt 8 127).toNat)) * 16384))).toNat) ||| BitVec.ofInt 32 (IntKind.u32.wrap ((IntKind.u32.wrap (IntKind.u8.wrap (BitVec.ofInt 8 ((s.getD 3 0).toNat : Int) &&& BitVec.ofInt 8 127).toNat)) * 2097152))).toNat))), (65, .v (.slice A s.length c))] hW aS fun bW aT => ?_
 clear aS
 refine of_op (wpOp_index aT (t := 22) (A := A) (m := s.length) (q := 3) (d := 66) kz (e := 5) (size := 1) (bytes := 1) (j := 3) kz aP rfl (by first | omega | (simp only [List.length_append, be_length, List.length_cons, List.length_nil] at *; omega)) fun bX aU => ?_)
 clear aT
 refine of_op (wpOp_load aU (t := 5) (b := bg) (o := bh + 3 * 1) (d := 67) kz (cs := [.int .u8 ((s.getD 3 0).toNat : Int)]) (v := .int .u8 ((s.getD 3 0).toNat : Int)) kz (AtF.move ae hW.step nilM keepF).at_ fun bY aV => ?_)
 clear aU
 refine go_rn [3, 4] [] [(0, .v (.slice A s.length c)), (4, .v (.int .u32 (IntKind.u32.wrap (BitVec.ofInt 32 (IntKind.u32.wrap (BitVec.ofInt 32 (IntKind.u32.wrap (BitVec.ofInt 32 (IntKind.u32.wrap (IntKind.u8.wrap (BitVec.ofInt 8 ((s.getD 0 0).toNat : Int) &&& BitVec.ofInt 8 127).toNat)) ||| BitVec.ofInt 32 (IntKind.u32.wrap ((IntKind.u32.wrap (IntKind.u8.wrap (BitVec.ofInt 8 ((s.getD 1 0).toNat : Int) &&& BitVec.ofInt 8 127).toNat)) * 128))).toNat) ||| BitVec.ofInt 32 (IntKind.u32.wrap ((IntKind.u32.wrap (IntKind.u8.wrap (BitVec.ofInt 8 ((s.getD 2 0).toNat : Int) &&& BitVec.ofInt 8 127).toNat)) * 16384))).toNat) ||| BitVec.ofInt 32 (IntKind.u32.wrap ((IntKind.u32.wrap (IntKind.u8.wrap (BitVec.ofInt 8 ((s.getD 3 0).toNat : Int) &&& BitVec.ofInt 8 127).toNat)) * 2097152))).toNat))), (69, .v (.bool ((IntKind.u8.wrap (BitVec.ofInt 8 ((s.getD 3 0).toNat : Int) &&& BitVec.ofInt 8 128).toNat) == 0)))] hW aV fun bZ al => ?_
 clear aV
 refine wpOps_nil (then_normal ?_)
 refine cond_true al (b := (IntKind.u8.wrap (BitVec.ofInt 8 ((s.getD 3 0).toNat : Int) &&& BitVec.ofInt 8 128).toNat) == 0) kz ((and128 _ (oc_lt s 3)).trans (decide_eq_true (by have := h3; unfold oc at this; omega))) ?_
 refine go_sp [(2, .v (.int .u32 (IntKind.u32.wrap (BitVec.ofInt 32 (IntKind.u32.wrap (BitVec.ofInt 32 (IntKind.u32.wrap (BitVec.ofInt 32 (IntKind.u32.wrap (IntKind.u8.wrap (BitVec.ofInt 8 ((s.getD 0 0).toNat : Int) &&& BitVec.ofInt 8 127).toNat)) ||| BitVec.ofInt 32 (IntKind.u32.wrap ((IntKind.u32.wrap (IntKind.u8.wrap (BitVec.ofInt 8 ((s.getD 1 0).toNat : Int) &&& BitVec.ofInt 8 127).toNat)) * 128))).toNat) ||| BitVec.ofInt 32 (IntKind.u32.wrap ((IntKind.u32.wrap (IntKind.u8.wrap (BitVec.ofInt 8 ((s.getD 2 0).toNat : Int) &&& BitVec.ofInt 8 127).toNat)) * 16384))).toNat) ||| BitVec.ofInt 32 (IntKind.u32.wrap ((IntKind.u32.wrap (IntKind.u8.wrap (BitVec.ofInt 8 ((s.getD 3 0).toNat : Int) &&& BitVec.ofInt 8 127).toNat)) * 2097152))).toNat))), (3, .v (.int .i64 4))] hW al fun b8 aW => ?_
 clear al
 refine wp_ret ?_
 refine then_ret ?_
 refine scope_ret ?_
 refine leave aW hW.cells (v := .tuple #[.int .u32 (IntKind.u32.wrap (BitVec.ofInt 32 (IntKind.u32.wrap (BitVec.ofInt 32 (IntKind.u32.wrap (BitVec.ofInt 32 (IntKind.u32.wrap (IntKind.u8.wrap (BitVec.ofInt 8 ((s.getD 0 0).toNat : Int) &&& BitVec.ofInt 8 127).toNat)) ||| BitVec.ofInt 32 (IntKind.u32.wrap ((IntKind.u32.wrap (IntKind.u8.wrap (BitVec.ofInt 8 ((s.getD 1 0).toNat : Int) &&& BitVec.ofInt 8 127).toNat)) * 128))).toNat) ||| BitVec.ofInt 32 (IntKind.u32.wrap ((IntKind.u32.wrap (IntKind.u8.wrap (BitVec.ofInt 8 ((s.getD 2 0).toNat : Int) &&& BitVec.ofInt 8 127).toNat)) * 16384))).toNat) ||| BitVec.ofInt 32 (IntKind.u32.wrap ((IntKind.u32.wrap (IntKind.u8.wrap (BitVec.ofInt 8 ((s.getD 3 0).toNat : Int) &&& BitVec.ofInt 8 127).toNat)) * 2097152))).toNat), .int .i64 4]) kz ?_
 have e_ := uv_4 (oc s 0) (oc s 1) (oc s 2) (oc s 3) (oc_lt s 0) (oc_lt s 1) (oc_lt s 2) (oc_lt s 3)
 refine ⟨congrArg (fun z_ : Int => Ending.returned (.tuple #[.int .u32 z_, .int .i64 4])) (Eq.trans e_ ?_), hW.step⟩
 omega
theorem rUv5 {A : Option Addr} {c : Nat} (s : Bs) {w : World} {F : Nat → Nat → Prop} (ho : Octs w F A c s) (hl : 5 ≤ s.length) (d0 d1 d2 d3 d4 : Nat) (h0 : oc s 0 = d0 + 128) (h1 : oc s 1 = d1 + 128) (h2 : oc s 2 = d2 + 128) (h3 : oc s 3 = d3 + 128) (h4 : oc s 4 = d4) (g0 : d0 < 128) (g1 : d1 < 128) (g2 : d2 < 128) (g3 : d3 < 128) (g4 : d4 < 16) :
  Calls Tryz.prog 238 #[.slice A s.length c] w (Gives w (.tuple #[.int .u32 ((d0 + d1 * 128 + d2 * 16384 + d3 * 2097152 + d4 * 268435456 : Nat) : Int), .int .i64 5])) := by
 refine enter (n := 87) Tryz.func238 rfl Tryz.ntmps238 kz fun a hE => ?_
 have hW := WOk.start w Nil
 refine go_sp [(0, .v (.slice A s.length c))] hW hE fun a1 hE2 => ?_
 clear hE
 refine wp_scope_straight ?_
 refine go_sp [(0, .v (.slice A s.length c))] hW hE2 fun a3 hE4 => ?_
 clear hE2
 refine go_sp [(0, .v (.slice A s.length c))] hW hE4 fun a5 hE6 => ?_
 clear hE4
 refine wp_seq ?_
 refine go_sp [(0, .v (.slice A s.length c)), (8, .v (.bool (decide (((s.length : Nat) : Int) < 1))))] hW hE6 fun a7 hE8 => ?_
 clear hE6
 refine cond_false hE8 (b := decide (((s.length : Nat) : Int) < 1)) kz (decide_eq_false (by omega)) ?_
 refine wp_skip ?_
 refine then_normal ?_
 refine go_seq_region [0, 1, 2, 3, 4, 5] kz ?_
 refine go_rn [0] [1, 2, 3, 4, 5] [(0, .v (.slice A s.length c)), (9, .v (.slice A s.length c))] hW hE8 fun a9 aB => ?_
 clear hE8
 obtain ⟨bp, bq, aC, bC, ae⟩ := Slots.get ho (i := 0) (by first | omega | (simp only [List.length_append, be_length, List.length_cons, List.length_nil] at *; omega))
 refine of_op (wpOp_index aB (t := 22) (A := A) (m := s.length) (q := 0) (d := 10) kz (e := 5) (size := 1) (bytes := 1) (j := 0) kz aC rfl (by first | omega | (simp only [List.length_append, be_length, List.length_cons, List.length_nil] at *; omega)) fun bP aD => ?_)
 clear aB
 refine of_op (wpOp_load aD (t := 5) (b := bp) (o := bq + 0 * 1) (d := 11) kz (cs := [.int .u8 ((s.getD 0 0).toNat : Int)]) (v := .int .u8 ((s.getD 0 0).toNat : Int)) kz (AtF.move ae hW.step nilM keepF).at_ fun bQ aE => ?_)
 clear aD
 refine go_rn [3, 4, 5] [] [(0, .v (.slice A s.length c)), (4, .v (.int .u32 (IntKind.u32.wrap (IntKind.u8.wrap (BitVec.ofInt 8 ((s.getD 0 0).toNat : Int) &&& BitVec.ofInt 8 127).toNat))))] hW aE fun bR aF => ?_
 clear aE
 refine wpOps_nil (then_normal ?_)
 refine wp_seq ?_
 refine go_seq_region [0, 1, 2, 3, 4] kz ?_
 refine go_rn [0] [1, 2, 3, 4] [(0, .v (.slice A s.length c)), (4, .v (.int .u32 (IntKind.u32.wrap (IntKind.u8.wrap (BitVec.ofInt 8 ((s.getD 0 0).toNat : Int) &&& BitVec.ofInt 8 127).toNat)))), (14, .v (.slice A s.length c))] hW aF fun bS aG => ?_
 clear aF
 refine of_op (wpOp_index aG (t := 22) (A := A) (m := s.length) (q := 0) (d := 15) kz (e := 5) (size := 1) (bytes := 1) (j := 0) kz aC rfl (by first | omega | (simp only [List.length_append, be_length, List.length_cons, List.length_nil] at *; omega)) fun bT aH => ?_)
 clear aG
 refine of_op (wpOp_load aH (t := 5) (b := bp) (o := bq + 0 * 1) (d := 16) kz (cs := [.int .u8 ((s.getD 0 0).toNat : Int)]) (v := .int .u8 ((s.getD 0 0).toNat : Int)) kz (AtF.move ae hW.step nilM keepF).at_ fun bU aI => ?_)
 clear aH
 refine go_rn [3, 4] [] [(0, .v (.slice A s.length c)), (4, .v (.int .u32 (IntKind.u32.wrap (IntKind.u8.wrap (BitVec.ofInt 8 ((s.getD 0 0).toNat : Int) &&& BitVec.ofInt 8 127).toNat)))), (18, .v (.bool ((IntKind.u8.wrap (BitVec.ofInt 8 ((s.getD 0 0).toNat : Int) &&& BitVec.ofInt 8 128).toNat) == 0)))] hW aI fun bV au => ?_
 clear aI
 refine wpOps_nil (then_normal ?_)
 refine cond_false au (b := (IntKind.u8.wrap (BitVec.ofInt 8 ((s.getD 0 0).toNat : Int) &&& BitVec.ofInt 8 128).toNat) == 0) kz ((and128 _ (oc_lt s 0)).trans (decide_eq_false (by have := h0; unfold oc at this; omega))) ?_
 refine go_sp [(0, .v (.slice A s.length c)), (4, .v (.int .u32 (IntKind.u32.wrap (IntKind.u8.wrap (BitVec.ofInt 8 ((s.getD 0 0).toNat : Int) &&& BitVec.ofInt 8 127).toNat)))), (22, .v (.bool (decide (((s.length : Nat) : Int) < 2))))] hW au fun bW av => ?_
 clear au
 refine cond_false av (b := decide (((s.length : Nat) : Int) < 2)) kz (decide_eq_false (by omega)) ?_
 refine wp_skip ?_
 refine then_normal ?_
 refine go_seq_region [0, 1, 2, 3, 4, 5, 6, 7, 8] kz ?_
 refine go_rn [0, 1] [2, 3, 4, 5, 6, 7, 8] [(0, .v (.slice A s.length c)), (23, .v (.int .u32 (IntKind.u32.wrap (IntKind.u8.wrap (BitVec.ofInt 8 ((s.getD 0 0).toNat : Int) &&& BitVec.ofInt 8 127).toNat)))), (24, .v (.slice A s.length c))] hW av fun bX aJ => ?_
 clear av
 obtain ⟨bt, bu, aK, bD, af⟩ := Slots.get ho (i := 1) (by first | omega | (simp only [List.length_append, be_length, List.length_cons, List.length_nil] at *; omega))
 refine of_op (wpOp_index aJ (t := 22) (A := A) (m := s.length) (q := 1) (d := 25) kz (e := 5) (size := 1) (bytes := 1) (j := 1) kz aK rfl (by first | omega | (simp only [List.length_append, be_length, List.length_cons, List.length_nil] at *; omega)) fun bY aL => ?_)
 clear aJ
 refine of_op (wpOp_load aL (t := 5) (b := bt) (o := bu + 1 * 1) (d := 26) kz (cs := [.int .u8 ((s.getD 1 0).toNat : Int)]) (v := .int .u8 ((s.getD 1 0).toNat : Int)) kz (AtF.move af hW.step nilM keepF).at_ fun bZ aM => ?_)
 clear aL
 refine go_rn [4, 5, 6, 7, 8] [] [(0, .v (.slice A s.length c)), (4, .v (.int .u32 (IntKind.u32.wrap (BitVec.ofInt 32 (IntKind.u32.wrap (IntKind.u8.wrap (BitVec.ofInt 8 ((s.getD 0 0).toNat : Int) &&& BitVec.ofInt 8 127).toNat)) ||| BitVec.ofInt 32 (IntKind.u32.wrap ((IntKind.u32.wrap (IntKind.u8.wrap (BitVec.ofInt 8 ((s.getD 1 0).toNat : Int) &&& BitVec.ofInt 8 127).toNat)) * 128))).toNat)))] hW aM fun b8 aN => ?_
 clear aM
 refine wpOps_nil (then_normal ?_)
 refine wp_seq ?_
 refine go_seq_region [0, 1, 2, 3, 4] kz ?_
 refine go_rn [0] [1, 2, 3, 4] [(0, .v (.slice A s.length c)), (4, .v (.int .u32 (IntKind.u32.wrap (BitVec.ofInt 32 (IntKind.u32.wrap (IntKind.u8.wrap (BitVec.ofInt 8 ((s.getD 0 0).toNat : Int) &&& BitVec.ofInt 8 127).toNat)) ||| BitVec.ofInt 32 (IntKind.u32.wrap ((IntKind.u32.wrap (IntKind.u8.wrap (BitVec.ofInt 8 ((s.getD 1 0).toNat : Int) &&& BitVec.ofInt 8 127).toNat)) * 128))).toNat))), (31, .v (.slice A s.length c))] hW aN fun cd aO => ?_
 clear aN
 refine of_op (wpOp_index aO (t := 22) (A := A) (m := s.length) (q := 1) (d := 32) kz (e := 5) (size := 1) (bytes := 1) (j := 1) kz aK rfl (by first | omega | (simp only [List.length_append, be_length, List.length_cons, List.length_nil] at *; omega)) fun ce aP => ?_)
 clear aO
 refine of_op (wpOp_load aP (t := 5) (b := bt) (o := bu + 1 * 1) (d := 33) kz (cs := [.int .u8 ((s.getD 1 0).toNat : Int)]) (v := .int .u8 ((s.getD 1 0).toNat : Int)) kz (AtF.move af hW.step nilM keepF).at_ fun cm aQ => ?_)
 clear aP
 refine go_rn [3, 4] [] [(0, .v (.slice A s.length c)), (4, .v (.int .u32 (IntKind.u32.wrap (BitVec.ofInt 32 (IntKind.u32.wrap (IntKind.u8.wrap (BitVec.ofInt 8 ((s.getD 0 0).toNat : Int) &&& BitVec.ofInt 8 127).toNat)) ||| BitVec.ofInt 32 (IntKind.u32.wrap ((IntKind.u32.wrap (IntKind.u8.wrap (BitVec.ofInt 8 ((s.getD 1 0).toNat : Int) &&& BitVec.ofInt 8 127).toNat)) * 128))).toNat))), (35, .v (.bool ((IntKind.u8.wrap (BitVec.ofInt 8 ((s.getD 1 0).toNat : Int) &&& BitVec.ofInt 8 128).toNat) == 0)))] hW aQ fun cq aw => ?_
 clear aQ
 refine wpOps_nil (then_normal ?_)
 refine cond_false aw (b := (IntKind.u8.wrap (BitVec.ofInt 8 ((s.getD 1 0).toNat : Int) &&& BitVec.ofInt 8 128).toNat) == 0) kz ((and128 _ (oc_lt s 1)).trans (decide_eq_false (by have := h1; unfold oc at this; omega))) ?_
 refine go_sp [(0, .v (.slice A s.length c)), (4, .v (.int .u32 (IntKind.u32.wrap (BitVec.ofInt 32 (IntKind.u32.wrap (IntKind.u8.wrap (BitVec.ofInt 8 ((s.getD 0 0).toNat : Int) &&& BitVec.ofInt 8 127).toNat)) ||| BitVec.ofInt 32 (IntKind.u32.wrap ((IntKind.u32.wrap (IntKind.u8.wrap (BitVec.ofInt 8 ((s.getD 1 0).toNat : Int) &&& BitVec.ofInt 8 127).toNat)) * 128))).toNat))), (39, .v (.bool (decide (((s.length : Nat) : Int) < 3))))] hW aw fun cr ax => ?_
 clear aw
 refine cond_false ax (b := decide (((s.length : Nat) : Int) < 3)) kz (decide_eq_false (by omega)) ?_
 refine wp_skip ?_
 refine then_normal ?_
 refine go_seq_region [0, 1, 2, 3, 4, 5, 6, 7, 8] kz ?_
 refine go_rn [0, 1] [2, 3, 4, 5, 6, 7, 8] [(0, .v (.slice A s.length c)), (40, .v (.int .u32 (IntKind.u32.wrap (BitVec.ofInt 32 (IntKind.u32.wrap (IntKind.u8.wrap (BitVec.ofInt 8 ((s.getD 0 0).toNat : Int) &&& BitVec.ofInt 8 127).toNat)) ||| BitVec.ofInt 32 (IntKind.u32.wrap ((IntKind.u32.wrap (IntKind.u8.wrap (BitVec.ofInt 8 ((s.getD 1 0).toNat : Int) &&& BitVec.ofInt 8 127).toNat)) * 128))).toNat))), (41, .v (.slice A s.length c))] hW ax fun cu aR => ?_
 clear ax
 obtain ⟨bw, bx, aS, bE, ag⟩ := Slots.get ho (i := 2) (by first | omega | (simp only [List.length_append, be_length, List.length_cons, List.length_nil] at *; omega))
 refine of_op (wpOp_index aR (t := 22) (A := A) (m := s.length) (q := 2) (d := 42) kz (e := 5) (size := 1) (bytes := 1) (j := 2) kz aS rfl (by first | omega | (simp only [List.length_append, be_length, List.length_cons, List.length_nil] at *; omega)) fun cw aT => ?_)
 clear aR
 refine of_op (wpOp_load aT (t := 5) (b := bw) (o := bx + 2 * 1) (d := 43) kz (cs := [.int .u8 ((s.getD 2 0).toNat : Int)]) (v := .int .u8 ((s.getD 2 0).toNat : Int)) kz (AtF.move ag hW.step nilM keepF).at_ fun cz aU => ?_)
 clear aT
 refine go_rn [4, 5, 6, 7, 8] [] [(0, .v (.slice A s.length c)), (4, .v (.int .u32 (IntKind.u32.wrap (BitVec.ofInt 32 (IntKind.u32.wrap (BitVec.ofInt 32 (IntKind.u32.wrap (IntKind.u8.wrap (BitVec.ofInt 8 ((s.getD 0 0).toNat : Int) &&& BitVec.ofInt 8 127).toNat)) ||| BitVec.ofInt 32 (IntKind.u32.wrap ((IntKind.u32.wrap (IntKind.u8.wrap (BitVec.ofInt 8 ((s.getD 1 0).toNat : Int) &&& BitVec.ofInt 8 127).toNat)) * 128))).toNat) ||| BitVec.ofInt 32 (IntKind.u32.wrap ((IntKind.u32.wrap (IntKind.u8.wrap (BitVec.ofInt 8 ((s.getD 2 0).toNat : Int) &&& BitVec.ofInt 8 127).toNat)) * 16384))).toNat)))] hW aU fun cA aV => ?_
 clear aU
 refine wpOps_nil (then_normal ?_)
 refine wp_seq ?_
 refine go_seq_region [0, 1, 2, 3, 4] kz ?_
 refine go_rn [0] [1, 2, 3, 4] [(0, .v (.slice A s.length c)), (4, .v (.int .u32 (IntKind.u32.wrap (BitVec.ofInt 32 (IntKind.u32.wrap (BitVec.ofInt 32 (IntKind.u32.wrap (IntKind.u8.wrap (BitVec.ofInt 8 ((s.getD 0 0).toNat : Int) &&& BitVec.ofInt 8 127).toNat)) ||| BitVec.ofInt 32 (IntKind.u32.wrap ((IntKind.u32.wrap (IntKind.u8.wrap (BitVec.ofInt 8 ((s.getD 1 0).toNat : Int) &&& BitVec.ofInt 8 127).toNat)) * 128))).toNat) ||| BitVec.ofInt 32 (IntKind.u32.wrap ((IntKind.u32.wrap (IntKind.u8.wrap (BitVec.ofInt 8 ((s.getD 2 0).toNat : Int) &&& BitVec.ofInt 8 127).toNat)) * 16384))).toNat))), (48, .v (.slice A s.length c))] hW aV fun cB aW => ?_
 clear aV
 refine of_op (wpOp_index aW (t := 22) (A := A) (m := s.length) (q := 2) (d := 49) kz (e := 5) (size := 1) (bytes := 1) (j := 2) kz aS rfl (by first | omega | (simp only [List.length_append, be_length, List.length_cons, List.length_nil] at *; omega)) fun cC aX => ?_)
 clear aW
 refine of_op (wpOp_load aX (t := 5) (b := bw) (o := bx + 2 * 1) (d := 50) kz (cs := [.int .u8 ((s.getD 2 0).toNat : Int)]) (v := .int .u8 ((s.getD 2 0).toNat : Int)) kz (AtF.move ag hW.step nilM keepF).at_ fun cD aY => ?_)
 clear aX
 refine go_rn [3, 4] [] [(0, .v (.slice A s.length c)), (4, .v (.int .u32 (IntKind.u32.wrap (BitVec.ofInt 32 (IntKind.u32.wrap (BitVec.ofInt 32 (IntKind.u32.wrap (IntKind.u8.wrap (BitVec.ofInt 8 ((s.getD 0 0).toNat : Int) &&& BitVec.ofInt 8 127).toNat)) ||| BitVec.ofInt 32 (IntKind.u32.wrap ((IntKind.u32.wrap (IntKind.u8.wrap (BitVec.ofInt 8 ((s.getD 1 0).toNat : Int) &&& BitVec.ofInt 8 127).toNat)) * 128))).toNat) ||| BitVec.ofInt 32 (IntKind.u32.wrap ((IntKind.u32.wrap (IntKind.u8.wrap (BitVec.ofInt 8 ((s.getD 2 0).toNat : Int) &&& BitVec.ofInt 8 127).toNat)) * 16384))).toNat))), (52, .v (.bool ((IntKind.u8.wrap (BitVec.ofInt 8 ((s.getD 2 0).toNat : Int) &&& BitVec.ofInt 8 128).toNat) == 0)))] hW aY fun cE ay => ?_
 clear aY
 refine wpOps_nil (then_normal ?_)
 refine cond_false ay (b := (IntKind.u8.wrap (BitVec.ofInt 8 ((s.getD 2 0).toNat : Int) &&& BitVec.ofInt 8 128).toNat) == 0) kz ((and128 _ (oc_lt s 2)).trans (decide_eq_false (by have := h2; unfold oc at this; omega))) ?_
 refine go_sp [(0, .v (.slice A s.length c)), (4, .v (.int .u32 (IntKind.u32.wrap (BitVec.ofInt 32 (IntKind.u32.wrap (BitVec.ofInt 32 (IntKind.u32.wrap (IntKind.u8.wrap (BitVec.ofInt 8 ((s.getD 0 0).toNat : Int) &&& BitVec.ofInt 8 127).toNat)) ||| BitVec.ofInt 32 (IntKind.u32.wrap ((IntKind.u32.wrap (IntKind.u8.wrap (BitVec.ofInt 8 ((s.getD 1 0).toNat : Int) &&& BitVec.ofInt 8 127).toNat)) * 128))).toNat) ||| BitVec.ofInt 32 (IntKind.u32.wrap ((IntKind.u32.wrap (IntKind.u8.wrap (BitVec.ofInt 8 ((s.getD 2 0).toNat : Int) &&& BitVec.ofInt 8 127).toNat)) * 16384))).toNat))), (56, .v (.bool (decide (((s.length : Nat) : Int) < 4))))] hW ay fun cG az => ?_
 clear ay
 refine cond_false az (b := decide (((s.length : Nat) : Int) < 4)) kz (decide_eq_false (by omega)) ?_
 refine wp_skip ?_
 refine then_normal ?_
 refine go_seq_region [0, 1, 2, 3, 4, 5, 6, 7, 8] kz ?_
 refine go_rn [0, 1] [2, 3, 4, 5, 6, 7, 8] [(0, .v (.slice A s.length c)), (57, .v (.int .u32 (IntKind.u32.wrap (BitVec.ofInt 32 (IntKind.u32.wrap (BitVec.ofInt 32 (IntKind.u32.wrap (IntKind.u8.wrap (BitVec.ofInt 8 ((s.getD 0 0).toNat : Int) &&& BitVec.ofInt 8 127).toNat)) ||| BitVec.ofInt 32 (IntKind.u32.wrap ((IntKind.u32.wrap (IntKind.u8.wrap (BitVec.ofInt 8 ((s.getD 1 0).toNat : Int) &&& BitVec.ofInt 8 127).toNat)) * 128))).toNat) ||| BitVec.ofInt 32 (IntKind.u32.wrap ((IntKind.u32.wrap (IntKind.u8.wrap (BitVec.ofInt 8 ((s.getD 2 0).toNat : Int) &&& BitVec.ofInt 8 127).toNat)) * 16384))).toNat))), (58, .v (.slice A s.length c))] hW az fun cH aZ => ?_
 clear az
 obtain ⟨bz, bA, ba, bF, ah⟩ := Slots.get ho (i := 3) (by first | omega | (simp only [List.length_append, be_length, List.length_cons, List.length_nil] at *; omega))
 refine of_op (wpOp_index aZ (t := 22) (A := A) (m := s.length) (q := 3) (d := 59) kz (e := 5) (size := 1) (bytes := 1) (j := 3) kz ba rfl (by first | omega | (simp only [List.length_append, be_length, List.length_cons, List.length_nil] at *; omega)) fun cI bd => ?_)
 clear aZ
 refine of_op (wpOp_load bd (t := 5) (b := bz) (o := bA + 3 * 1) (d := 60) kz (cs := [.int .u8 ((s.getD 3 0).toNat : Int)]) (v := .int .u8 ((s.getD 3 0).toNat : Int)) kz (AtF.move ah hW.step nilM keepF).at_ fun cJ bf => ?_)
 clear bd
 refine go_rn [4, 5, 6, 7, 8] [] [(0, .v (.slice A s.length c)), (4, .v (.int .u32 (IntKind.u32.wrap (BitVec.ofInt 32 (IntKind.u32.wrap (BitVec.ofInt 32 (IntKind.u32.wrap (BitVec.ofInt 32 (IntKind.u32.wrap (IntKind.u8.wrap (BitVec.ofInt 8 ((s.getD 0 0).toNat : Int) &&& BitVec.ofInt 8 127).toNat)) ||| BitVec.ofInt 32 (IntKind.u32.wrap ((IntKind.u32.wrap (IntKind.u8.wrap (BitVec.ofInt 8 ((s.getD 1 0).toNat : Int) &&& BitVec.ofInt 8 127).toNat)) * 128))).toNat) ||| BitVec.ofInt 32 (IntKind.u32.wrap ((IntKind.u32.wrap (IntKind.u8.wrap (BitVec.ofInt 8 ((s.getD 2 0).toNat : Int) &&& BitVec.ofInt 8 127).toNat)) * 16384))).toNat) ||| BitVec.ofInt 32 (IntKind.u32.wrap ((IntKind.u32.wrap (IntKind.u8.wrap (BitVec.ofInt 8 ((s.getD 3 0).toNat : Int) &&& BitVec.ofInt 8 127).toNat)) * 2097152))).toNat)))] hW bf fun cK bg => ?_
 clear bf
 refine wpOps_nil (then_normal ?_)
 refine wp_seq ?_
 refine go_seq_region [0, 1, 2, 3, 4] kz ?_
 refine go_rn [0] [1, 2, 3, 4] [(0, .v (.slice A s.length c)), (4, .v (.int .u32 (IntKind.u32.wrap (BitVec.ofInt 32 (IntKind.u32.wrap (BitVec.ofInt 32 (IntKind.u32.wrap (BitVec.ofInt 32 (IntKind.u32.wrap (IntKind.u8.wrap (BitVec.ofInt 8 ((s.getD 0 0).toNat : Int) &&& BitVec.ofInt 8 127).toNat)) ||| BitVec.ofInt 32 (IntKind.u32.wrap ((IntKind.u32.wrap (IntKind.u8.wrap (BitVec.ofInt 8 ((s.getD 1 0).toNat : Int) &&& BitVec.ofInt 8 127).toNat)) * 128))).toNat) ||| BitVec.ofInt 32 (IntKind.u32.wrap ((IntKind.u32.wrap (IntKind.u8.wrap (BitVec.ofInt 8 ((s.getD 2 0).toNat : Int) &&& BitVec.ofInt 8 127).toNat)) * 16384))).toNat) ||| BitVec.ofInt 32 (IntKind.u32.wrap ((IntKind.u32.wrap (IntKind.u8.wrap (BitVec.ofInt 8 ((s.getD 3 0).toNat : Int) &&& BitVec.ofInt 8 127).toNat)) * 2097152))).toNat))), (65, .v (.slice A s.length c))] hW bg fun cL bh => ?_
 clear bg
 refine of_op (wpOp_index bh (t := 22) (A := A) (m := s.length) (q := 3) (d := 66) kz (e := 5) (size := 1) (bytes := 1) (j := 3) kz ba rfl (by first | omega | (simp only [List.length_append, be_length, List.length_cons, List.length_nil] at *; omega)) fun cM bi => ?_)
 clear bh
 refine of_op (wpOp_load bi (t := 5) (b := bz) (o := bA + 3 * 1) (d := 67) kz (cs := [.int .u8 ((s.getD 3 0).toNat : Int)]) (v := .int .u8 ((s.getD 3 0).toNat : Int)) kz (AtF.move ah hW.step nilM keepF).at_ fun cN bj => ?_)
 clear bi
 refine go_rn [3, 4] [] [(0, .v (.slice A s.length c)), (4, .v (.int .u32 (IntKind.u32.wrap (BitVec.ofInt 32 (IntKind.u32.wrap (BitVec.ofInt 32 (IntKind.u32.wrap (BitVec.ofInt 32 (IntKind.u32.wrap (IntKind.u8.wrap (BitVec.ofInt 8 ((s.getD 0 0).toNat : Int) &&& BitVec.ofInt 8 127).toNat)) ||| BitVec.ofInt 32 (IntKind.u32.wrap ((IntKind.u32.wrap (IntKind.u8.wrap (BitVec.ofInt 8 ((s.getD 1 0).toNat : Int) &&& BitVec.ofInt 8 127).toNat)) * 128))).toNat) ||| BitVec.ofInt 32 (IntKind.u32.wrap ((IntKind.u32.wrap (IntKind.u8.wrap (BitVec.ofInt 8 ((s.getD 2 0).toNat : Int) &&& BitVec.ofInt 8 127).toNat)) * 16384))).toNat) ||| BitVec.ofInt 32 (IntKind.u32.wrap ((IntKind.u32.wrap (IntKind.u8.wrap (BitVec.ofInt 8 ((s.getD 3 0).toNat : Int) &&& BitVec.ofInt 8 127).toNat)) * 2097152))).toNat))), (69, .v (.bool ((IntKind.u8.wrap (BitVec.ofInt 8 ((s.getD 3 0).toNat : Int) &&& BitVec.ofInt 8 128).toNat) == 0)))] hW bj fun cO aA => ?_
 clear bj
 refine wpOps_nil (then_normal ?_)
 refine cond_false aA (b := (IntKind.u8.wrap (BitVec.ofInt 8 ((s.getD 3 0).toNat : Int) &&& BitVec.ofInt 8 128).toNat) == 0) kz ((and128 _ (oc_lt s 3)).trans (decide_eq_false (by have := h3; unfold oc at this; omega))) ?_
 refine go_sp [(0, .v (.slice A s.length c)), (4, .v (.int .u32 (IntKind.u32.wrap (BitVec.ofInt 32 (IntKind.u32.wrap (BitVec.ofInt 32 (IntKind.u32.wrap (BitVec.ofInt 32 (IntKind.u32.wrap (IntKind.u8.wrap (BitVec.ofInt 8 ((s.getD 0 0).toNat : Int) &&& BitVec.ofInt 8 127).toNat)) ||| BitVec.ofInt 32 (IntKind.u32.wrap ((IntKind.u32.wrap (IntKind.u8.wrap (BitVec.ofInt 8 ((s.getD 1 0).toNat : Int) &&& BitVec.ofInt 8 127).toNat)) * 128))).toNat) ||| BitVec.ofInt 32 (IntKind.u32.wrap ((IntKind.u32.wrap (IntKind.u8.wrap (BitVec.ofInt 8 ((s.getD 2 0).toNat : Int) &&& BitVec.ofInt 8 127).toNat)) * 16384))).toNat) ||| BitVec.ofInt 32 (IntKind.u32.wrap ((IntKind.u32.wrap (IntKind.u8.wrap (BitVec.ofInt 8 ((s.getD 3 0).toNat : Int) &&& BitVec.ofInt 8 127).toNat)) * 2097152))).toNat))), (73, .v (.bool (decide (((s.length : Nat) : Int) < 5))))] hW aA fun cP aa => ?_
 clear aA
 refine cond_false aa (b := decide (((s.length : Nat) : Int) < 5)) kz (decide_eq_false (by omega)) ?_
 refine wp_skip ?_
 refine then_normal ?_
 refine go_seq_region [0, 1, 2, 3, 4, 5, 6, 7] kz ?_
 refine go_rn [0, 1] [2, 3, 4, 5, 6, 7] [(0, .v (.slice A s.length c)), (74, .v (.int .u32 (IntKind.u32.wrap (BitVec.ofInt 32 (IntKind.u32.wrap (BitVec.ofInt 32 (IntKind.u32.wrap (BitVec.ofInt 32 (IntKind.u32.wrap (IntKind.u8.wrap (BitVec.ofInt 8 ((s.getD 0 0).toNat : Int) &&& BitVec.ofInt 8 127).toNat)) ||| BitVec.ofInt 32 (IntKind.u32.wrap ((IntKind.u32.wrap (IntKind.u8.wrap (BitVec.ofInt 8 ((s.getD 1 0).toNat : Int) &&& BitVec.ofInt 8 127).toNat)) * 128))).toNat) ||| BitVec.ofInt 32 (IntKind.u32.wrap ((IntKind.u32.wrap (IntKind.u8.wrap (BitVec.ofInt 8 ((s.getD 2 0).toNat : Int) &&& BitVec.ofInt 8 127).toNat)) * 16384))).toNat) ||| BitVec.ofInt 32 (IntKind.u32.wrap ((IntKind.u32.wrap (IntKind.u8.wrap (BitVec.ofInt 8 ((s.getD 3 0).toNat : Int) &&& BitVec.ofInt 8 127).toNat)) * 2097152))).toNat))), (75, .v (.slice A s.length c))] hW aa fun bG ai => ?_
 clear aa
 obtain ⟨bk, bn, aj, bB, ab⟩ := Slots.get ho (i := 4) (by first | omega | (simp only [List.length_append, be_length, List.length_cons, List.length_nil] at *; omega))
 refine of_op (wpOp_index ai (t := 22) (A := A) (m := s.length) (q := 4) (d := 76) kz (e := 5) (size := 1) (bytes := 1) (j := 4) kz aj rfl (by first | omega | (simp only [List.length_append, be_length, List.length_cons, List.length_nil] at *; omega)) fun bH ak => ?_)
 clear ai
 refine of_op (wpOp_load ak (t := 5) (b := bk) (o := bn + 4 * 1) (d := 77) kz (cs := [.int .u8 ((s.getD 4 0).toNat : Int)]) (v := .int .u8 ((s.getD 4 0).toNat : Int)) kz (AtF.move ab hW.step nilM keepF).at_ fun bI al => ?_)
 clear ak
 refine go_rn [4, 5, 6, 7] [] [(0, .v (.slice A s.length c)), (4, .v (.int .u32 (IntKind.u32.wrap (BitVec.ofInt 32 (IntKind.u32.wrap (BitVec.ofInt 32 (IntKind.u32.wrap (BitVec.ofInt 32 (IntKind.u32.wrap (BitVec.ofInt 32 (IntKind.u32.wrap (IntKind.u8.wrap (BitVec.ofInt 8 ((s.getD 0 0).toNat : Int) &&& BitVec.ofInt 8 127).toNat)) ||| BitVec.ofInt 32 (IntKind.u32.wrap ((IntKind.u32.wrap (IntKind.u8.wrap (BitVec.ofInt 8 ((s.getD 1 0).toNat : Int) &&& BitVec.ofInt 8 127).toNat)) * 128))).toNat) ||| BitVec.ofInt 32 (IntKind.u32.wrap ((IntKind.u32.wrap (IntKind.u8.wrap (BitVec.ofInt 8 ((s.getD 2 0).toNat : Int) &&& BitVec.ofInt 8 127).toNat)) * 16384))).toNat) ||| BitVec.ofInt 32 (IntKind.u32.wrap ((IntKind.u32.wrap (IntKind.u8.wrap (BitVec.ofInt 8 ((s.getD 3 0).toNat : Int) &&& BitVec.ofInt 8 127).toNat)) * 2097152))).toNat) ||| BitVec.ofInt 32 (IntKind.u32.wrap ((IntKind.u32.wrap ((s.getD 4 0).toNat : Int)) * 268435456))).toNat)))] hW al fun bJ am => ?_
 clear al
 refine wpOps_nil (then_normal ?_)
 refine wp_seq ?_
 refine go_seq_region [0, 1, 2, 3] kz ?_
 refine go_rn [0] [1, 2, 3] [(4, .v (.int .u32 (IntKind.u32.wrap (BitVec.ofInt 32 (IntKind.u32.wrap (BitVec.ofInt 32 (IntKind.u32.wrap (BitVec.ofInt 32 (IntKind.u32.wrap (BitVec.ofInt 32 (IntKind.u32.wrap (IntKind.u8.wrap (BitVec.ofInt 8 ((s.getD 0 0).toNat : Int) &&& BitVec.ofInt 8 127).toNat)) ||| BitVec.ofInt 32 (IntKind.u32.wrap ((IntKind.u32.wrap (IntKind.u8.wrap (BitVec.ofInt 8 ((s.getD 1 0).toNat : Int) &&& BitVec.ofInt 8 127).toNat)) * 128))).toNat) ||| BitVec.ofInt 32 (IntKind.u32.wrap ((IntKind.u32.wrap (IntKind.u8.wrap (BitVec.ofInt 8 ((s.getD 2 0).toNat : Int) &&& BitVec.ofInt 8 127).toNat)) * 16384))).toNat) ||| BitVec.ofInt 32 (IntKind.u32.wrap ((IntKind.u32.wrap (IntKind.u8.wrap (BitVec.ofInt 8 ((s.getD 3 0).toNat : Int) &&& BitVec.ofInt 8 127).toNat)) * 2097152))).toNat) ||| BitVec.ofInt 32 (IntKind.u32.wrap ((IntKind.u32.wrap ((s.getD 4 0).toNat : Int)) * 268435456))).toNat))), (81, .v (.slice A s.length c))] hW am fun bK ao => ?_
 clear am
 refine of_op (wpOp_index ao (t := 22) (A := A) (m := s.length) (q := 4) (d := 82) kz (e := 5) (size := 1) (bytes := 1) (j := 4) kz aj rfl (by first | omega | (simp only [List.length_append, be_length, List.length_cons, List.length_nil] at *; omega)) fun bL ap => ?_)
 clear ao
 refine of_op (wpOp_load ap (t := 5) (b := bk) (o := bn + 4 * 1) (d := 83) kz (cs := [.int .u8 ((s.getD 4 0).toNat : Int)]) (v := .int .u8 ((s.getD 4 0).toNat : Int)) kz (AtF.move ab hW.step nilM keepF).at_ fun bM ar => ?_)
 clear ap
 refine go_rn [3] [] [(4, .v (.int .u32 (IntKind.u32.wrap (BitVec.ofInt 32 (IntKind.u32.wrap (BitVec.ofInt 32 (IntKind.u32.wrap (BitVec.ofInt 32 (IntKind.u32.wrap (BitVec.ofInt 32 (IntKind.u32.wrap (IntKind.u8.wrap (BitVec.ofInt 8 ((s.getD 0 0).toNat : Int) &&& BitVec.ofInt 8 127).toNat)) ||| BitVec.ofInt 32 (IntKind.u32.wrap ((IntKind.u32.wrap (IntKind.u8.wrap (BitVec.ofInt 8 ((s.getD 1 0).toNat : Int) &&& BitVec.ofInt 8 127).toNat)) * 128))).toNat) ||| BitVec.ofInt 32 (IntKind.u32.wrap ((IntKind.u32.wrap (IntKind.u8.wrap (BitVec.ofInt 8 ((s.getD 2 0).toNat : Int) &&& BitVec.ofInt 8 127).toNat)) * 16384))).toNat) ||| BitVec.ofInt 32 (IntKind.u32.wrap ((IntKind.u32.wrap (IntKind.u8.wrap (BitVec.ofInt 8 ((s.getD 3 0).toNat : Int) &&& BitVec.ofInt 8 127).toNat)) * 2097152))).toNat) ||| BitVec.ofInt 32 (IntKind.u32.wrap ((IntKind.u32.wrap ((s.getD 4 0).toNat : Int)) * 268435456))).toNat))), (84, .v (.bool (decide (((s.getD 4 0).toNat : Int) ≤ 15))))] hW ar fun bN ac => ?_
 clear ar
 refine wpOps_nil (then_normal ?_)
 refine cond_true ac (b := decide (((s.getD 4 0).toNat : Int) ≤ 15)) kz (decide_eq_true (by have := h4; unfold oc at this; omega)) ?_
 refine go_sp [(2, .v (.int .u32 (IntKind.u32.wrap (BitVec.ofInt 32 (IntKind.u32.wrap (BitVec.ofInt 32 (IntKind.u32.wrap (BitVec.ofInt 32 (IntKind.u32.wrap (BitVec.ofInt 32 (IntKind.u32.wrap (IntKind.u8.wrap (BitVec.ofInt 8 ((s.getD 0 0).toNat : Int) &&& BitVec.ofInt 8 127).toNat)) ||| BitVec.ofInt 32 (IntKind.u32.wrap ((IntKind.u32.wrap (IntKind.u8.wrap (BitVec.ofInt 8 ((s.getD 1 0).toNat : Int) &&& BitVec.ofInt 8 127).toNat)) * 128))).toNat) ||| BitVec.ofInt 32 (IntKind.u32.wrap ((IntKind.u32.wrap (IntKind.u8.wrap (BitVec.ofInt 8 ((s.getD 2 0).toNat : Int) &&& BitVec.ofInt 8 127).toNat)) * 16384))).toNat) ||| BitVec.ofInt 32 (IntKind.u32.wrap ((IntKind.u32.wrap (IntKind.u8.wrap (BitVec.ofInt 8 ((s.getD 3 0).toNat : Int) &&& BitVec.ofInt 8 127).toNat)) * 2097152))).toNat) ||| BitVec.ofInt 32 (IntKind.u32.wrap ((IntKind.u32.wrap ((s.getD 4 0).toNat : Int)) * 268435456))).toNat))), (3, .v (.int .i64 5))] hW ac fun bO bo => ?_
 clear ac
 refine wp_ret ?_
 refine then_ret ?_
 refine scope_ret ?_
 refine leave bo hW.cells (v := .tuple #[.int .u32 (IntKind.u32.wrap (BitVec.ofInt 32 (IntKind.u32.wrap (BitVec.ofInt 32 (IntKind.u32.wrap (BitVec.ofInt 32 (IntKind.u32.wrap (BitVec.ofInt 32 (IntKind.u32.wrap (IntKind.u8.wrap (BitVec.ofInt 8 ((s.getD 0 0).toNat : Int) &&& BitVec.ofInt 8 127).toNat)) ||| BitVec.ofInt 32 (IntKind.u32.wrap ((IntKind.u32.wrap (IntKind.u8.wrap (BitVec.ofInt 8 ((s.getD 1 0).toNat : Int) &&& BitVec.ofInt 8 127).toNat)) * 128))).toNat) ||| BitVec.ofInt 32 (IntKind.u32.wrap ((IntKind.u32.wrap (IntKind.u8.wrap (BitVec.ofInt 8 ((s.getD 2 0).toNat : Int) &&& BitVec.ofInt 8 127).toNat)) * 16384))).toNat) ||| BitVec.ofInt 32 (IntKind.u32.wrap ((IntKind.u32.wrap (IntKind.u8.wrap (BitVec.ofInt 8 ((s.getD 3 0).toNat : Int) &&& BitVec.ofInt 8 127).toNat)) * 2097152))).toNat) ||| BitVec.ofInt 32 (IntKind.u32.wrap ((IntKind.u32.wrap ((s.getD 4 0).toNat : Int)) * 268435456))).toNat), .int .i64 5]) kz ?_
 have e_ := uv_5 (oc s 0) (oc s 1) (oc s 2) (oc s 3) (oc s 4) (oc_lt s 0) (oc_lt s 1) (oc_lt s 2) (oc_lt s 3) (by omega)
 refine ⟨congrArg (fun z_ : Int => Ending.returned (.tuple #[.int .u32 z_, .int .i64 5])) (Eq.trans e_ ?_), hW.step⟩
 omega
theorem rUv (x : Nat) (hx : x < 4294967296) (rest : Bs) {A : Option Addr} {c : Nat} {w : World} {F : Nat → Nat → Prop} (ho : Octs w F A c (uv x ++ rest)) :
  Calls Tryz.prog 238 #[.slice A (uv x ++ rest).length c] w (Gives w (.tuple #[.int .u32 ((x : Nat) : Int), .int .i64 (((uv x).length : Nat) : Int)])) := by
 have hl := uv_len_of hx
 have hL : (uv x ++ rest).length = (uv x).length + rest.length := List.length_append
 by_cases h1 : x < 128
 ·rw [if_pos h1] at hl
  have h := rUv1 (uv x ++ rest) ho (by omega) x (by rw [uv_oc, if_pos h1]) h1
  rw [hl]; simpa using h
 rw [if_neg h1] at hl
 have o0 : oc (uv x ++ rest) 0 = x % 128 + 128 := by rw [uv_oc, if_neg h1]
 have o1 : oc (uv x ++ rest) 1 = oc (uv (x / 128) ++ rest) 0 := uv_oc1 (by omega) rest 0
 by_cases h2 : x < 16384
 ·rw [if_pos h2] at hl
  rw [uv_oc, if_pos (by omega)] at o1
  have h := rUv2 (uv x ++ rest) ho (by omega) (x % 128) (x / 128) o0 o1 (by omega) (by omega)
  rw [show x % 128 + x / 128 * 128 = x by omega] at h
  rw [hl]; exact h
 rw [if_neg h2] at hl
 have o2 : oc (uv x ++ rest) 2 = oc (uv (x / 128 / 128) ++ rest) 0 := (uv_oc1 (by omega) rest 1).trans (uv_oc1 (by omega) rest 0)
 rw [uv_oc, if_neg (by omega)] at o1
 by_cases h3 : x < 2097152
 ·rw [if_pos h3] at hl
  rw [uv_oc, if_pos (by omega)] at o2
  have h := rUv3 (uv x ++ rest) ho (by omega) (x % 128) (x / 128 % 128) (x / 128 / 128) o0 o1 o2 (by omega) (by omega) (by omega)
  rw [show x % 128 + x / 128 % 128 * 128 + x / 128 / 128 * 16384 = x by omega] at h
  rw [hl]; exact h
 rw [if_neg h3] at hl
 have o3 : oc (uv x ++ rest) 3 = oc (uv (x / 128 / 128 / 128) ++ rest) 0 := (uv_oc1 (by omega) rest 2).trans ((uv_oc1 (by omega) rest 1).trans (uv_oc1 (by omega) rest 0))
 rw [uv_oc, if_neg (by omega)] at o2
 by_cases h4 : x < 268435456
 ·rw [if_pos h4] at hl
  rw [uv_oc, if_pos (by omega)] at o3
  have h := rUv4 (uv x ++ rest) ho (by omega) (x % 128) (x / 128 % 128) (x / 128 / 128 % 128) (x / 128 / 128 / 128) o0 o1 o2 o3 (by omega) (by omega) (by omega) (by omega)
  rw [show x % 128 + x / 128 % 128 * 128 + x / 128 / 128 % 128 * 16384 + x / 128 / 128 / 128 * 2097152 = x by omega] at h
  rw [hl]; exact h
 rw [if_neg h4] at hl
 have o4 : oc (uv x ++ rest) 4 = oc (uv (x / 128 / 128 / 128 / 128) ++ rest) 0 := (uv_oc1 (by omega) rest 3).trans ((uv_oc1 (by omega) rest 2).trans ((uv_oc1 (by omega) rest 1).trans (uv_oc1 (by omega) rest 0)))
 rw [uv_oc, if_neg (by omega)] at o3
 rw [uv_oc, if_pos (by omega)] at o4
 have h := rUv5 (uv x ++ rest) ho (by omega) (x % 128) (x / 128 % 128) (x / 128 / 128 % 128) (x / 128 / 128 / 128 % 128) (x / 128 / 128 / 128 / 128) o0 o1 o2 o3 o4 (by omega) (by omega) (by omega) (by omega) (by omega)
 rw [show x % 128 + x / 128 % 128 * 128 + x / 128 / 128 % 128 * 16384 + x / 128 / 128 / 128 % 128 * 2097152 + x / 128 / 128 / 128 / 128 * 268435456 = x by omega] at h
 rw [hl]; exact h
theorem rUvarint (x : Nat) (hx : x < 4294967296) (rest : Bs)  {br : Nat} {A : Option Addr} {m c : Nat} {w : World} {F : Nat → Nat → Prop} (hst : Str w br [.slice A m c, .bool false]) (hr : RdS w F A m c (uv x ++ rest)) (hFd : ∀ b o, F b o → ¬ RdM br b o) :
  Calls Tryz.prog 222 #[.pointer (some ⟨br, 0, none⟩)] w (RdPost w br F rest fun v w' => v = .int .u32 ((x : Nat) : Int)) := by
 obtain ⟨hm, ho⟩ := hr
 subst hm
 have hle := ho.le
 have hpos := uv_len_pos x
 refine enter (n := 31) Tryz.func222 rfl Tryz.ntmps222 kz fun a hE => ?_
 have hW : WOk w (RdM br) w [⟨br, 0, [.slice A ((uv x ++ rest).length) c, .bool false], true⟩] [] := WOk.startStr hst
 have hE1 := (hE.grow ⟨br, 0, [.slice A ((uv x ++ rest).length) c, .bool false], true⟩).recast 0 (.v (.pointer (some ⟨br, 0, none⟩))) (.p 0 0) rfl rfl (Nat.le_of_ble_eq_true (n := 1) rfl)
 refine go_sp [(0, .p 0 0)] hW hE1 fun a1 hE2 => ?_
 clear hE1
 refine go_seq_region [0, 1, 2, 3, 4, 5, 6, 7, 8, 9] kz ?_
 refine go_rn [0, 1, 2, 3] [4, 5, 6, 7, 8, 9] [(0, .p 0 0), (9, .v (.slice A ((uv x ++ rest).length) c))] hW hE2 fun a3 hE4 => ?_
 clear hE2
 refine of_op (wpOp_call hE4 (f := 238) (vs := [.slice A ((uv x ++ rest).length) c]) (d := 10) kz Tryz.call238 (rUv x hx rest (ho.move hW.step (fun b_ o_ h_ _ => hFd b_ o_ h_) (hW.immM hFd))) ?_)
 rintro e_ w6 ⟨rfl, hs5⟩
 refine ⟨_, rfl, fun a7 hE8 => ?_⟩
 have hW9 := hW.next_nil hs5
 have aj := hW.frN hs5
 clear hE4 hW
 refine go_rn [5, 6, 7, 8, 9] [] [(0, .p 0 0), (3, .v (.int .u32 ((x : Nat) : Int))), (4, .v (.int .i64 (((uv x).length : Nat) : Int)))] hW9 hE8 fun al ac => ?_
 clear hE8
 refine wpOps_nil (then_normal ?_)
 refine wp_seq ?_
 refine go_sp [(0, .p 0 0), (3, .v (.int .u32 ((x : Nat) : Int))), (4, .v (.int .i64 (((uv x).length : Nat) : Int))), (14, .v (.bool (decide ((((uv x).length : Nat) : Int) ≤ 0))))] hW9 ac fun am ab => ?_
 clear ac
 refine cond_false ab (b := decide ((((uv x).length : Nat) : Int) ≤ 0)) kz (decide_eq_false (by omega)) ?_
 refine wp_skip ?_
 refine then_normal ?_
 refine go_seq_region [0, 1, 2, 3, 4, 5, 6, 7, 8, 9] kz ?_
 refine go_rn [0, 1, 2, 3, 4, 5] [6, 7, 8, 9] [(3, .v (.int .u32 ((x : Nat) : Int))), (21, .p 0 0), (25, .v (.slice A ((uv x ++ rest).length) c)), (26, .v (.int .i64 (((uv x).length : Nat) : Int)))] hW9 ab fun ao ae => ?_
 clear ab
 refine of_op (wpOp_cut_lo ae (t := 22) (A := A) (m := ((uv x ++ rest).length)) (cp := c) (q := (((uv x).length : Nat) : Int)) (d := 27) (j := ((uv x).length)) kz (e := 5) (bytes := 1) kz (rfl) (by first | omega | (simp only [List.length_append, be_length, List.length_cons, List.length_nil] at *; omega)) fun ap af => ?_)
 clear ae
 refine go_rn [7, 8] [9] [(3, .v (.int .u32 ((x : Nat) : Int))), (27, .v (.slice (cutA A c ((uv x).length)) (((uv x ++ rest).length) - ((uv x).length)) (c - ((uv x).length)))), (29, .p 0 0)] hW9 af fun ar ag => ?_
 clear af
 refine of_op (wpOp_store hW9 ag (oi := 0) (cs := [.slice (cutA A c ((uv x).length)) (((uv x ++ rest).length) - ((uv x).length)) (c - ((uv x).length)), .bool false]) kz fun au ak aa ah => ?_)
 clear ag hW9
 refine wpOps_nil (then_normal ?_)
 refine go_sp [(2, .v (.int .u32 ((x : Nat) : Int)))] aa ah fun av ai => ?_
 clear ah
 refine wp_ret ?_
 refine leave ai aa.cells (v := .int .u32 ((x : Nat) : Int)) kz ?_
 exact ⟨_, _, _, _, rfl, Str.of aa 0 rfl, RdS.drop (s := uv x) ⟨rfl, ho.move aa.step (fun b_ o_ h_ _ => hFd b_ o_ h_) keepF⟩ (rfl), aa.step, rfl⟩
theorem rSpan (X : Bs) (rest : Bs)  {br : Nat} {A : Option Addr} {m c : Nat} {w : World} {F : Nat → Nat → Prop} (hst : Str w br [.slice A m c, .bool false]) (hr : RdS w F A m c (X ++ rest)) (hFd : ∀ b o, F b o → ¬ RdM br b o) :
  Calls Tryz.prog 224 #[.pointer (some ⟨br, 0, none⟩), .int .i64 ((X.length : Nat) : Int)] w (RdPost w br F rest fun v w' => ∃ A2, v = .slice A2 X.length X.length ∧ Octs w' F A2 X.length X) := by
 obtain ⟨hm, ho⟩ := hr
 subst hm
 have hle := ho.le
 refine enter (n := 40) Tryz.func224 rfl Tryz.ntmps224 kz fun a hE => ?_
 have hW : WOk w (RdM br) w [⟨br, 0, [.slice A ((X ++ rest).length) c, .bool false], true⟩] [] := WOk.startStr hst
 have hE1 := (hE.grow ⟨br, 0, [.slice A ((X ++ rest).length) c, .bool false], true⟩).recast 0 (.v (.pointer (some ⟨br, 0, none⟩))) (.p 0 0) rfl rfl (Nat.le_of_ble_eq_true (n := 1) rfl)
 refine go_sp [(0, .p 0 0), (1, .v (.int .i64 ((X.length : Nat) : Int)))] hW hE1 fun a1 hE2 => ?_
 clear hE1
 refine wp_seq ?_
 refine go_seq_region [0, 1, 2, 3, 4, 5, 6, 7, 8, 9, 10] kz ?_
 refine go_rn [0, 1, 2, 3, 4, 5, 6, 7] [8, 9, 10] [(0, .p 0 0), (1, .v (.int .i64 ((X.length : Nat) : Int))), (13, .v (.bool (decide ((((X ++ rest).length : Nat) : Int) < ((X.length : Nat) : Int)))))] hW hE2 fun a3 hE4 => ?_
 clear hE2
 have hc5 : (decide ((((X ++ rest).length : Nat) : Int) < ((X.length : Nat) : Int))) = false := decide_eq_false (by first | omega | (simp only [List.length_append, be_length, List.length_cons, List.length_nil] at *; omega))
 have hE6 := hE4.cast (env' := [(0, .p 0 0), (1, .v (.int .i64 ((X.length : Nat) : Int))), (13, .v (.bool false))]) (by rw [hc5])
 clear hE4
 refine go_rn [8, 9, 10] [] [(0, .p 0 0), (1, .v (.int .i64 ((X.length : Nat) : Int))), (16, .v (.bool (decide (((X.length : Nat) : Int) < 0))))] hW hE6 fun a7 hE8 => ?_
 clear hE6
 refine wpOps_nil (then_normal ?_)
 refine cond_false hE8 (b := decide (((X.length : Nat) : Int) < 0)) kz (decide_eq_false (by first | omega | (simp only [List.length_append, be_length, List.length_cons, List.length_nil] at *; omega))) ?_
 refine wp_skip ?_
 refine then_normal ?_
 refine go_seq_region [0, 1, 2, 3, 4, 5, 6, 7] kz ?_
 refine go_rn [0, 1, 2, 3, 4, 5] [6, 7] [(0, .p 0 0), (1, .v (.int .i64 ((X.length : Nat) : Int))), (26, .v (.slice A ((X ++ rest).length) c)), (27, .v (.int .i64 ((X.length : Nat) : Int))), (28, .v (.int .i64 ((X.length : Nat) : Int)))] hW hE8 fun a9 ab => ?_
 clear hE8
 refine of_op (wpOp_cutm ab (t := 22) (A := A) (m := ((X ++ rest).length)) (cp := c) (k := .i64) (q := ((X.length : Nat) : Int)) (d := 29) (j := X.length) kz (e := 5) (bytes := 1) kz (rfl) (by first | omega | (simp only [List.length_append, be_length, List.length_cons, List.length_nil] at *; omega)) fun al ac => ?_)
 clear ab
 refine go_rn [7] [] [(0, .p 0 0), (1, .v (.int .i64 ((X.length : Nat) : Int))), (5, .v (.slice A X.length X.length))] hW ac fun am ae => ?_
 clear ac
 refine wpOps_nil (then_normal ?_)
 refine go_seq_region [0, 1, 2, 3, 4, 5, 6, 7, 8, 9] kz ?_
 refine go_rn [0, 1, 2, 3, 4, 5] [6, 7, 8, 9] [(5, .v (.slice A X.length X.length)), (30, .p 0 0), (34, .v (.slice A ((X ++ rest).length) c)), (35, .v (.int .i64 ((X.length : Nat) : Int)))] hW ae fun ao af => ?_
 clear ae
 refine of_op (wpOp_cut_lo af (t := 22) (A := A) (m := ((X ++ rest).length)) (cp := c) (q := ((X.length : Nat) : Int)) (d := 36) (j := X.length) kz (e := 5) (bytes := 1) kz (rfl) (by first | omega | (simp only [List.length_append, be_length, List.length_cons, List.length_nil] at *; omega)) fun ap ag => ?_)
 clear af
 refine go_rn [7, 8] [9] [(5, .v (.slice A X.length X.length)), (36, .v (.slice (cutA A c X.length) (((X ++ rest).length) - X.length) (c - X.length))), (38, .p 0 0)] hW ag fun ar ah => ?_
 clear ag
 refine of_op (wpOp_store hW ah (oi := 0) (cs := [.slice (cutA A c X.length) (((X ++ rest).length) - X.length) (c - X.length), .bool false]) kz fun au ak aa ai => ?_)
 clear ah hW
 refine wpOps_nil (then_normal ?_)
 refine go_sp [(4, .v (.slice A X.length X.length))] aa ai fun av aj => ?_
 clear ai
 refine wp_ret ?_
 refine leave aj aa.cells (v := .slice A X.length X.length) kz ?_
 exact ⟨_, _, _, _, rfl, Str.of aa 0 rfl, RdS.drop (s := X) ⟨rfl, ho.move aa.step (fun b_ o_ h_ _ => hFd b_ o_ h_) keepF⟩ (rfl), aa.step, A, rfl, RdS.front (s := X) ⟨rfl, ho.move aa.step (fun b_ o_ h_ _ => hFd b_ o_ h_) keepF⟩ rfl⟩
theorem rComplete {br : Nat} {A : Option Addr} {m c : Nat} {w : World} (hst : Str w br [.slice A m c, .bool false]) :
  Calls Tryz.prog 176 #[.pointer (some ⟨br, 0, none⟩)] w (fun e w' => e = .returned .nilIface ∧ w' = w) := by
 refine enter (n := 8) Tryz.func176 rfl Tryz.ntmps176 kz fun a hE => ?_
 have hW : WOk w (RdM br) w [⟨br, 0, [.slice A m c, .bool false], true⟩] [] := WOk.startStr hst
 have hE1 := (hE.grow ⟨br, 0, [.slice A m c, .bool false], true⟩).recast 0 (.v (.pointer (some ⟨br, 0, none⟩))) (.p 0 0) rfl rfl (Nat.le_of_ble_eq_true (n := 1) rfl)
 refine go_sp [(0, .p 0 0)] hW hE1 fun a1 hE2 => ?_
 clear hE1
 refine wp_seq ?_
 refine go_sp [(6, .v (.bool false))] hW hE2 fun a3 hE4 => ?_
 clear hE2
 refine cond_false hE4 (b := false) kz rfl ?_
 refine wp_skip ?_
 refine then_normal ?_
 refine go_sp [(2, .v (.nilIface))] hW hE4 fun a5 hE6 => ?_
 clear hE4
 refine wp_ret ?_
 refine leave hE6 hW.cells (v := .nilIface) kz ?_
 exact ⟨rfl, rfl⟩
structure TR (w w' : World) (br p2 p3 : Nat) (F : Nat → Nat → Prop) (A : Option Addr) (n c : Nat) (s : Bs) (m : Option Nat) (u : List (Int × Bs)) : Prop where
 step : Step w w' (RdM br)
 old : br < w.heap.size
 new2 : w.heap.size ≤ p2
 new3 : w.heap.size ≤ p3
 ne : p2 ≠ p3
 rd : Str w' br [.slice A n c, .bool false]
 s2 : Str w' p2 [.map none]
 s3 : Str w' p3 [.map m]
 oct : RdS w' (fun b o => F b o ∧ b < w.heap.size) A n c s
 own : OwnM w' (fun b o => F b o ∧ b < w.heap.size) m u
 new : ∀ r, m = some r → w.heap.size ≤ r
theorem TR.mne {w w' : World} {br p2 p3 : Nat} {F : Nat → Nat → Prop} {A : Option Addr} {n c : Nat} {s : Bs} {m : Option Nat} {u : List (Int × Bs)} (h : TR w w' br p2 p3 F A n c s m u) : m ≠ some p2 ∧ m ≠ some p3 := by
 refine ⟨fun e => ?_, fun e => ?_⟩
 ·obtain ⟨es, clk, h1, _⟩ := h.own.some_ p2 e
  exact cell_block (h.s2.at_ 0 _ rfl) h1 rfl
 ·obtain ⟨es, clk, h1, _⟩ := h.own.some_ p3 e
  exact cell_block (h.s3.at_ 0 _ rfl) h1 rfl
theorem TR.read {w w' w1 : World} {br p2 p3 : Nat} {F : Nat → Nat → Prop} {A A' : Option Addr} {n c n' c' : Nat} {s s' : Bs} {m : Option Nat} {u : List (Int × Bs)} (h : TR w w' br p2 p3 F A n c s m u) (hFd : ∀ b o, F b o → ¬ RdM br b o) (hs : Str w1 br [.slice A' n' c', .bool false]) (hr : RdS w1 (fun b o => F b o ∧ b < w.heap.size) A' n' c' s') (hst : Step w' w1 (RdM br)) : TR w w1 br p2 p3 F A' n' c' s' m u := by
 have ho := h.old
 have h2 := h.new2
 have h3 := h.new3
 refine ⟨h.step.trans hst fun _ _ _ e => e, ho, h2, h3, h.ne, hs, h.s2.move hst fun o e => ?_, h.s3.move hst fun o e => ?_, hr, h.own.move hst (fun b o hg _ => hFd b o hg.1) keepF (fun r o e he => ?_), h.new⟩
 ·have := e.1; omega
 ·have := e.1; omega
 ·have := h.new r e; have := he.1; omega
theorem TR.set {w w' : World} {br p2 p3 : Nat} {F : Nat → Nat → Prop} {A A1 : Option Addr} {n c c1 j : Nat} {s x : Bs} {k : Int} {m : Option Nat} {u : List (Int × Bs)} (h : TR w w' br p2 p3 F A n c s m (u.take j)) (hsort : Sorted u) (hj : u[j]? = some (k, x)) (hx : Octs w' (fun b o => F b o ∧ b < w.heap.size) A1 c1 x) (hk : 0 ≤ k ∧ k < 4294967296) :
  Calls Tryz.prog 225 [.pointer (some ⟨p3, 0, none⟩), .int .u32 k, .slice A1 x.length c1].toArray w' (fun e w1 => e = .returned (.tuple #[]) ∧ ∃ r, TR w w1 br p2 p3 F A n c s (some r) (u.take (j + 1))) := by
 have hcell : w'.cell? ⟨p3, 0, none⟩ = some (.map m) := h.s3.at_ 0 _ rfl
 have hfz : w'.frozen? ⟨p3, 0, none⟩ = false := h.s3.frz 0 (by simp)
 have hnew := h.new
 have h2 := h.new2
 have h3 := h.new3
 have ho := h.old
 have hsz := h.step.size
 obtain ⟨m2, m3⟩ := h.mne
 refine (kTagsSet hcell hfz h.own hx hk (fun b' o' hg => ⟨fun e => ?_, fun e => ?_⟩) (fun b' o' hg => Nat.lt_of_lt_of_le hg.2 hsz)).mono ?_
 ·have := hg.2; omega
 ·have := hnew b' e; have := hg.2; omega
 ·rintro e w1 ⟨rfl, r, g1, g2, g3, g4, g5⟩
  rw [setT_next hsort hj] at g3
  refine ⟨rfl, r, h.step.trans g5 fun b o hl e => ?_, ho, h2, h3, h.ne, h.rd.move g5 fun o e => ?_, h.s2.move g5 fun o e => ?_, ⟨fun i v hi => ?_, fun i hi => ?_⟩, ⟨h.oct.len, Octs.move h.oct.oct g5 (fun b o hg _ e => ?_) keepF⟩, g3, fun r' hr' => ?_⟩
  ·rcases e with ⟨e1, _⟩ | e1
   ·omega
   ·have := hnew b e1; omega
  ·rcases e with ⟨e1, _⟩ | e1
   ·omega
   ·have := hnew br e1; omega
  ·rcases e with ⟨e1, _⟩ | e1
   ·exact h.ne e1
   ·exact m2 e1
  ·cases i with
   | zero =>
    simp only [List.getElem?_cons_zero, Option.some.injEq] at hi
    subst hi
    exact g1
   | succ i => simp at hi
  ·have : i = 0 := by simp at hi; omega
   subst this
   exact g2
  ·have := hg.2
   rcases e with ⟨e1, _⟩ | e1
   ·omega
   ·have := hnew b e1; omega
  ·obtain rfl := Option.some.inj hr'
   rcases g4 with g4 | g4
   ·exact hnew _ g4
   ·exact Nat.le_trans hsz g4
theorem tagsR_cons (x : Int × Bs) (u : List (Int × Bs)) : tagsR (x :: u) = tagR x.1 x.2 ++ tagsR u := by unfold tagsR; rw [List.flatMap_cons]
theorem tagsR_drop {u : List (Int × Bs)} {j : Nat} {k : Int} {x : Bs} (h : u[j]? = some (k, x)) (rest : Bs) : tagsR (u.drop j) ++ rest = uv k.toNat ++ (uv x.length ++ (x ++ (tagsR (u.drop (j + 1)) ++ rest))) := by
 obtain ⟨hlt, he⟩ := List.getElem?_eq_some_iff.1 h
 rw [List.drop_eq_getElem_cons hlt, he, tagsR_cons]
 simp only [tagR, List.append_assoc]
theorem rTags (u : List (Int × Bs)) (rest : Bs) (hsort : Sorted u) (hk : ∀ x ∈ u, 0 ≤ x.1 ∧ x.1 < 4294967296) (hul : u.length ≤ 1000000) (hxl : ∀ x ∈ u, x.2.length < 4294967296) {br : Nat} {A : Option Addr} {m c : Nat} {w : World} {F : Nat → Nat → Prop} (hst : Str w br [.slice A m c, .bool false]) (hr : RdS w F A m c (uv u.length ++ (tagsR u ++ rest))) (hFd : ∀ b o, F b o → ¬ RdM br b o) :
  Calls Tryz.prog 182 #[.pointer (some ⟨br, 0, none⟩)] w (RdPost w br (Fp F w) rest fun v w' => ∃ mm, v = .agg #[.map mm] ∧ MapR w' (Fp F w) mm u) := by
 have hbr : br < w.heap.size := World.lt_of_cell (hst.at_ 0 _ rfl)
 refine enter (n := 24) (vs := [.pointer (some ⟨br, 0, none⟩)]) Tryz.func182 rfl Tryz.ntmps182 kz fun a hE => ?_
 have hW := WOk.start w Nil
 refine go_seq_region [0] kz ?_
 refine of_op (wpOp_alloc hW hE (d := 2) (cs := [.map none]) kz fun p2 a1 w1 hp2 hz2 hF1 hW1 hE1 => wpOps_nil (then_normal ?_))
 refine go_seq_region [0] kz ?_
 refine of_op (wpOp_alloc hW1 hE1 (d := 3) (cs := [.map none]) kz fun p3 a2 w2 hp3 hz3 hF2 hW2 hE2 => wpOps_nil (then_normal ?_))
 have hne : p2 ≠ p3 := by
  have h1 := hW1.live 0 _ rfl
  simp only at h1
  omega
 have hS : Step w w2 Nil := hW2.step
 have hT0 : TR w w2 br p2 p3 F A m c (uv u.length ++ (tagsR u ++ rest)) none (u.take 0) := by
  refine ⟨hS.mono fun _ _ _ h => h.elim, hbr, hz2, hz3, hne, hst.move hS (fun _ h => h), Str.of hW2 0 rfl, Str.of hW2 1 rfl, hr.move hS nilM (fun b o h hb => ⟨h, hb⟩), ?_, fun _ h => by cases h⟩
  rw [List.take_zero]
  exact OwnM.nil _ _
 refine wp_seq ?_
 have hE3 := (((hE2.recast 2 (.p 0 0) (.v (.pointer (some ⟨p2, 0, none⟩))) rfl rfl trivial).recast 3 (.p 1 0) (.v (.pointer (some ⟨p3, 0, none⟩))) rfl rfl trivial).pick (ks := [0, 2, 3]) (env' := [(0, .v (.pointer (some ⟨br, 0, none⟩))), (2, .v (.pointer (some ⟨p2, 0, none⟩))), (3, .v (.pointer (some ⟨p3, 0, none⟩)))]) kz).cutTb 0 kz
 have hWz := WOk.start w2 Nil
 refine go_seq_region [0, 1, 2] kz ?_
 refine go_rn [0] [1, 2] [(0, .v (.pointer (some ⟨br, 0, none⟩))), (2, .v (.pointer (some ⟨p2, 0, none⟩))), (3, .v (.pointer (some ⟨p3, 0, none⟩))), (7, .v (.pointer (some ⟨br, 0, none⟩)))] hWz hE3 fun a3 hE4 => ?_
 have hFd' : ∀ b o, (F b o ∧ b < w.heap.size) → ¬ RdM br b o := fun b o h => hFd b o h.1
 refine of_op (wpOp_call hE4 (f := 222) (vs := [.pointer (some ⟨br, 0, none⟩)]) (d := 8) kz Tryz.call222 (rUvarint u.length (by omega) (tagsR u ++ rest) hT0.rd hT0.oct hFd') ?_)
 rintro e_ w3 ⟨_, A3, n3, c3, rfl, hs3, hr3, hst3, rfl⟩
 have hT1 := hT0.read hFd hs3 hr3 hst3
 refine ⟨_, rfl, fun a4 hE5 => ?_⟩
 refine go_rn [2] [] [(0, .v (.pointer (some ⟨br, 0, none⟩))), (2, .v (.pointer (some ⟨p2, 0, none⟩))), (3, .v (.pointer (some ⟨p3, 0, none⟩))), (4, .v (.int .u32 ((u.length : Nat) : Int)))] (WOk.start w3 Nil) hE5 fun a5 hE6 => wpOps_nil (then_normal ?_)
 refine wp_block ?_
 refine wp_loop_ghost (fun q a_ w_ => ∃ (j : Nat) (m_ : Option Nat) (A_ : Option Addr) (n_ c_ : Nat), q = u.length - j ∧ j ≤ u.length ∧ EnvOk 24 [] [(0, .v (.pointer (some ⟨br, 0, none⟩))), (2, .v (.pointer (some ⟨p2, 0, none⟩))), (3, .v (.pointer (some ⟨p3, 0, none⟩))), (4, .v (.int .u32 ((u.length - j : Nat) : Int)))] a_ ∧ TR w w_ br p2 p3 F A_ n_ c_ (tagsR (u.drop j) ++ rest) m_ (u.take j)) u.length
  ⟨0, none, A3, n3, c3, by omega, by omega, hE6, hT1⟩ ?_
 rintro q aq wq ⟨j, m_, A_, n_, c_, rfl, hj, hEq, hT⟩
 have hWq := WOk.start wq Nil
 refine wp_seq (go_sp [(0, .v (.pointer (some ⟨br, 0, none⟩))), (2, .v (.pointer (some ⟨p2, 0, none⟩))), (3, .v (.pointer (some ⟨p3, 0, none⟩))), (4, .v (.int .u32 ((u.length - j : Nat) : Int))), (10, .v (.bool (decide (((u.length - j : Nat) : Int) > 0))))] hWq hEq fun aq1 hE7 => ?_)
 refine cond_of hE7 (b := decide (((u.length - j : Nat) : Int) > 0)) kz (fun hc => ?_) (fun hc => ?_)
 ·have hlt : j < u.length := by have := of_decide_eq_true hc; omega
  obtain ⟨⟨k, x⟩, hu⟩ : ∃ y, u[j]? = some y := ⟨_, List.getElem?_eq_getElem hlt⟩
  have hk' := hk (k, x) (List.mem_of_getElem? hu)
  have hx' := hxl (k, x) (List.mem_of_getElem? hu)
  dsimp only at hk' hx'
  have hoct := hT.oct
  rw [tagsR_drop hu rest] at hoct
  refine wp_skip (then_normal (wp_seq (wp_block ?_)))
  refine go_seq_region [0, 1, 2, 3, 4, 5] kz ?_
  refine go_rn [0] [1, 2, 3, 4, 5] [(0, .v (.pointer (some ⟨br, 0, none⟩))), (2, .v (.pointer (some ⟨p2, 0, none⟩))), (3, .v (.pointer (some ⟨p3, 0, none⟩))), (4, .v (.int .u32 ((u.length - j : Nat) : Int))), (13, .v (.pointer (some ⟨br, 0, none⟩)))] hWq hE7 fun aq2 hE8 => ?_
  refine of_op (wpOp_call hE8 (f := 222) (vs := [.pointer (some ⟨br, 0, none⟩)]) (d := 14) kz Tryz.call222 (rUvarint k.toNat (by omega) _ hT.rd hoct hFd') ?_)
  rintro e_ wa ⟨_, Aa, na, ca, rfl, hsa, hra, hsta, rfl⟩
  have hTa := hT.read hFd hsa hra hsta
  refine ⟨_, rfl, fun aq3 hE9 => ?_⟩
  refine go_rn [2] [3, 4, 5] [(0, .v (.pointer (some ⟨br, 0, none⟩))), (2, .v (.pointer (some ⟨p2, 0, none⟩))), (3, .v (.pointer (some ⟨p3, 0, none⟩))), (4, .v (.int .u32 ((u.length - j : Nat) : Int))), (14, .v (.int .u32 ((k.toNat : Nat) : Int))), (15, .v (.pointer (some ⟨br, 0, none⟩)))] (WOk.start wa Nil) hE9 fun aq4 hE10 => ?_
  refine of_op (wpOp_call hE10 (f := 222) (vs := [.pointer (some ⟨br, 0, none⟩)]) (d := 16) kz Tryz.call222 (rUvarint x.length hx' _ hTa.rd hTa.oct hFd') ?_)
  rintro e_ wb ⟨_, Ab, nb, cb, rfl, hsb, hrb, hstb, rfl⟩
  have hTb := hTa.read hFd hsb hrb hstb
  refine ⟨_, rfl, fun aq5 hE11 => ?_⟩
  refine go_rn [4, 5] [] [(0, .v (.pointer (some ⟨br, 0, none⟩))), (2, .v (.pointer (some ⟨p2, 0, none⟩))), (3, .v (.pointer (some ⟨p3, 0, none⟩))), (4, .v (.int .u32 ((u.length - j : Nat) : Int))), (5, .v (.int .u32 ((k.toNat : Nat) : Int))), (6, .v (.int .u32 ((x.length : Nat) : Int)))] (WOk.start wb Nil) hE11 fun aq6 hE12 => wpOps_nil (then_normal ?_)
  refine go_region [0, 1, 2, 3, 4, 5] kz ?_
  refine go_rn [0, 1, 2, 3] [4, 5] [(0, .v (.pointer (some ⟨br, 0, none⟩))), (2, .v (.pointer (some ⟨p2, 0, none⟩))), (3, .v (.pointer (some ⟨p3, 0, none⟩))), (4, .v (.int .u32 ((u.length - j : Nat) : Int))), (17, .v (.int .u32 ((k.toNat : Nat) : Int))), (18, .v (.pointer (some ⟨br, 0, none⟩))), (20, .v (.int .i64 (IntKind.i64.wrap ((x.length : Nat) : Int))))] (WOk.start wb Nil) hE12 fun aq7 hE13 => ?_
  rw [show IntKind.i64.wrap ((x.length : Nat) : Int) = ((x.length : Nat) : Int) by rw [i64w]; omega, show ((k.toNat : Nat) : Int) = k by omega] at hE13
  refine of_op (wpOp_call hE13 (f := 224) (vs := [.pointer (some ⟨br, 0, none⟩), .int .i64 ((x.length : Nat) : Int)]) (d := 21) kz Tryz.call224 (rSpan x _ hTb.rd hTb.oct hFd') ?_)
  rintro e_ wc ⟨_, Ac, nc, cc, rfl, hsc, hrc, hstc, Ax, rfl, hox⟩
  have hTc := hTb.read hFd hsc hrc hstc
  refine ⟨_, rfl, fun aq8 hE14 => ?_⟩
  refine of_op (wpOp_call hE14 (f := 225) (vs := [.pointer (some ⟨p3, 0, none⟩), .int .u32 k, .slice Ax x.length x.length]) (d := 22) kz Tryz.call225 (hTc.set hsort hu hox hk') ?_)
  rintro e_ wd ⟨rfl, r, hTd⟩
  refine ⟨_, rfl, fun aq9 hE15 => wpOps_nil (block_normal (then_normal ?_))⟩
  refine go_region [0, 1, 2] kz (go_rn [0, 1, 2] [] [(0, .v (.pointer (some ⟨br, 0, none⟩))), (2, .v (.pointer (some ⟨p2, 0, none⟩))), (3, .v (.pointer (some ⟨p3, 0, none⟩))), (4, .v (.int .u32 (IntKind.u32.wrap (((u.length - j : Nat) : Int) - 1))))] (WOk.start wd Nil) hE15 fun aqa hE16 => wpOps_nil (then_normal ?_))
  rw [show IntKind.u32.wrap (((u.length - j : Nat) : Int) - 1) = ((u.length - (j + 1) : Nat) : Int) by rw [wrap_u32]; omega] at hE16
  exact ⟨u.length - (j + 1), by omega, j + 1, some r, Ac, nc, cc, rfl, by omega, hE16, hTd⟩
 ·obtain rfl : j = u.length := by have := of_decide_eq_false hc; omega
  refine wp_exit (then_exit (then_exit (block_exit (then_normal ?_))))
  rw [List.take_length, List.drop_length] at hT
  have hT' : TR w wq br p2 p3 F A_ n_ c_ rest m_ u := hT
  have h2 := hT'.new2
  have h3 := hT'.new3
  have hW9 : WOk w (RdM br) wq ([] ++ [⟨p3, 0, [.map m_], true⟩] ++ [⟨p2, 0, [.map none], true⟩]) [] := by
   have hb : WOk w (RdM br) wq [] [] := ⟨hT'.step, fun i o hi => by simp at hi, fun i o hi => by simp at hi, fun i o hi => by simp at hi, fun i j o o' _ hi => by simp at hi, fun i r hi => by simp at hi, fun i r hi => by simp at hi, fun i r hi => by simp at hi, fun i j r r' _ hi => by simp at hi⟩
   have h4 := hb.add ⟨p3, 0, [.map m_], true⟩ (World.lt_of_cell (hT'.s3.at_ 0 _ rfl)) (fun j v hj => by rw [Nat.zero_add]; exact hT'.s3.at_ j v hj) (fun _ j hj => ⟨.inl h3, by rw [Nat.zero_add]; exact hT'.s3.frz j hj⟩) (fun i o hi => by simp at hi) (fun i r hi => by simp at hi)
   refine h4.add ⟨p2, 0, [.map none], true⟩ (World.lt_of_cell (hT'.s2.at_ 0 _ rfl)) (fun j v hj => by rw [Nat.zero_add]; exact hT'.s2.at_ j v hj) (fun _ j hj => ⟨.inl h2, by rw [Nat.zero_add]; exact hT'.s2.frz j hj⟩) (fun i o hi _ => .inl ?_) (fun i r hi => by simp at hi)
   have : o = ⟨p3, 0, [.map m_], true⟩ := by
    have hm := List.mem_of_getElem? hi
    simpa using hm
   rw [this]
   exact fun e => hT'.ne e.symm
  have hE17 := (((hE7.retable [⟨p3, 0, [.map m_], true⟩, ⟨p2, 0, [.map none], true⟩]).recast 3 (.v (.pointer (some ⟨p3, 0, none⟩))) (.p 0 0) rfl rfl (Nat.le_of_ble_eq_true (n := 1) rfl)).recast 2 (.v (.pointer (some ⟨p2, 0, none⟩))) (.p 1 0) rfl rfl (Nat.le_of_ble_eq_true (n := 2) rfl))
  have hE18 : EnvOk 24 [⟨p3, 0, [.map m_], true⟩, ⟨p2, 0, [.map none], true⟩] [(2, .p 1 0), (3, .p 0 0)] _ := hE17.pk
  refine go_seq_region [0, 1] kz ?_
  refine go_rn [0] [1] [(2, .p 1 0), (23, .v (.agg #[.map m_]))] hW9 hE18 fun aqb hE19 => ?_
  refine of_op (wpOp_store hW9 hE19 (oi := 1) (cs := [.map m_]) kz fun wz hFz hWz hEz => wpOps_nil (then_normal (wp_ret ?_)))
  have hsz := hT'.step.size
  have hstz : Step wq wz (fun b o => b = p2 ∨ b = p3) := hFz.step.mono fun b o _ ha => by
   rcases ha with ⟨i, ob, hi, _, rfl, _⟩ | ⟨i, r, hi, _⟩
   ·have hm := List.mem_of_getElem? hi
    simp only [List.nil_append, List.cons_append, List.mem_cons, List.not_mem_nil, or_false] at hm
    rcases hm with rfl | rfl
    ·exact .inr rfl
    ·exact .inl rfl
   ·simp at hi
  obtain ⟨m2, m3⟩ := hT'.mne
  refine leave hEz hWz.cells (v := .agg #[.map m_]) kz ⟨_, A_, n_, c_, rfl, hT'.rd.move hstz (fun o e => ?_), hT'.oct.move hstz (fun b o hg _ e => ?_) (fun b o hg _ => .inl hg.1), hWz.step, m_, rfl, ?_⟩
  ·have := hT'.old; rcases e with e | e <;> omega
  ·have := hg.2; rcases e with e | e <;> omega
  ·refine (hT'.own.move hstz (fun b o hg _ e => ?_) keepF (fun r o e he => ?_)).map (fun b o h => .inl h.1) (fun r o e => .inr (hT'.new r e)) hsort hk
   ·have := hg.2; rcases e with e | e <;> omega
   ·rcases he with he | he
    ·exact m2 (by rw [e, he])
    ·exact m3 (by rw [e, he])
theorem rString (X : Bs) (hX : X.length ≤ 32767) (rest : Bs)  {br : Nat} {A : Option Addr} {m c : Nat} {w : World} {F : Nat → Nat → Prop} (hst : Str w br [.slice A m c, .bool false]) (hr : RdS w F A m c ((be 2 ((X.length : Nat) : Int)) ++ (X ++ rest))) (hFd : ∀ b o, F b o → ¬ RdM br b o) :
  Calls Tryz.prog 181 #[.pointer (some ⟨br, 0, none⟩)] w (RdPost w br (Fp F w) rest fun v w' => v = .string (bs X)) := by
 refine enter (n := 11) Tryz.func181 rfl Tryz.ntmps181 kz fun a hE => ?_
 have hW : WOk w (RdM br) w [⟨br, 0, [.slice A m c, .bool false], true⟩] [] := WOk.startStr hst
 have hE1 := (hE.grow ⟨br, 0, [.slice A m c, .bool false], true⟩).recast 0 (.v (.pointer (some ⟨br, 0, none⟩))) (.p 0 0) rfl rfl (Nat.le_of_ble_eq_true (n := 1) rfl)
 refine go_sp [(0, .p 0 0)] hW hE1 fun a1 hE2 => ?_
 clear hE1
 refine go_seq_region [0, 1, 2] kz ?_
 refine go_rn [0] [1, 2] [(0, .p 0 0), (4, .p 0 0)] hW hE2 fun a3 hE4 => ?_
 clear hE2
 refine of_op (wpOp_call hE4 (f := 197) (vs := [.pointer (some ⟨br, 0, none⟩)]) (d := 5) kz Tryz.call197 (rInt16 ((X.length : Nat) : Int) (X ++ rest) (Str.of hW 0 rfl) (hr.move hW.step (fun b_ o_ h_ _ => hFd b_ o_ h_) (hW.immM hFd)) (imm_rd 0 rfl)) ?_)
 rintro e_ w5 ⟨_, A6, n7, c8, rfl, hs9, ao, ac, rfl⟩
 obtain ⟨aa, ap, aG⟩ := hW.wrote 0 [⟨br, 0, [.slice A6 n7 c8, .bool false], true⟩] rfl ac hs9
 have ar := ao.move (Step.refl _ Nil) nilM (fun b_ o_ h_ _ => ap.to b_ o_ h_)
 refine ⟨_, rfl, fun aJ au => ?_⟩
 have ae : EnvOk 11 [⟨br, 0, [.slice A6 n7 c8, .bool false], true⟩] [(5, .v (.int .i16 (IntKind.i16.wrap ((X.length : Nat) : Int)))), (0, .p 0 0), (4, .p 0 0)] _ := au.places (⟨rfl, rfl, trivial⟩)
 clear hE4
 refine go_rn [2] [] [(0, .p 0 0), (3, .v (.int .i16 (IntKind.i16.wrap ((X.length : Nat) : Int))))] aa ae fun aK af => ?_
 clear ae
 refine wpOps_nil (then_normal ?_)
 refine go_seq_region [0, 1, 2, 3, 4, 5] kz ?_
 refine go_rn [0, 1, 2] [3, 4, 5] [(6, .p 0 0), (8, .v (.int .i64 (IntKind.i64.wrap (IntKind.i16.wrap ((X.length : Nat) : Int)))))] aa af fun aL ag => ?_
 clear af
 have av : IntKind.i64.wrap (IntKind.i16.wrap ((X.length : Nat) : Int)) = ((X.length : Nat) : Int) := by simp only [i16w, i32w, i64w]; omega
 have ah := EnvOk.pick ag (ks := [6, 8]) (env' := [(6, .p 0 0), (8, .v (.int .i64 (IntKind.i64.wrap (IntKind.i16.wrap ((X.length : Nat) : Int)))))]) kz
 have ai := ah.cast (env' := [(6, .p 0 0), (8, .v (.int .i64 ((X.length : Nat) : Int)))]) (by rw [av])
 clear ag ah
 refine of_op (wpOp_call ai (f := 224) (vs := [.pointer (some ⟨br, 0, none⟩), .int .i64 ((X.length : Nat) : Int)]) (d := 9) kz Tryz.call224 (rSpan X (rest) (Str.of aa 0 rfl) ar (imm_rd 0 rfl)) ?_)
 rintro e_ aM ⟨_, aD, aE, aF, rfl, aw, ax, aj, ⟨aH, rfl, ay⟩⟩
 obtain ⟨ab, ak, aI⟩ := aa.wrote 0 [⟨br, 0, [.slice aD aE aF, .bool false], true⟩] rfl aj aw
 have az := ax.move (Step.refl _ Nil) nilM (fun b_ o_ h_ _ => ak.to b_ o_ h_)
 refine ⟨_, rfl, fun aN aA => ?_⟩
 have al : EnvOk 11 [⟨br, 0, [.slice aD aE aF, .bool false], true⟩] [(9, .v (.slice aH X.length X.length)), (6, .p 0 0), (8, .v (.int .i64 ((X.length : Nat) : Int)))] _ := aA.places (⟨rfl, rfl, trivial⟩)
 clear ai
 have aB := ay.move (Step.refl _ Nil) nilM (fun b_ o_ h_ _ => ak.to b_ o_ h_)
 refine of_op (wpOp_conv al (src := 22) (dst := 9) (e := 5) (d := 10) kz kz kz kz aB fun aO am => ?_)
 clear al
 refine go_rn [5] [] [(2, .v (.string (bs X)))] ab am fun aP aC => ?_
 clear am
 refine wpOps_nil (then_normal ?_)
 refine wp_ret ?_
 refine leave aC ab.cells (v := .string (bs X)) kz ?_
 refine ⟨_, _, _, _, rfl, Str.of ab 0 rfl, (az.move (Step.refl _ Nil) nilM immOut), ab.step, rfl⟩
theorem rCompactString (X : Bs) (hX : X.length ≤ 1000000) (rest : Bs)  {br : Nat} {A : Option Addr} {m c : Nat} {w : World} {F : Nat → Nat → Prop} (hst : Str w br [.slice A m c, .bool false]) (hr : RdS w F A m c ((uv (X.length + 1)) ++ (X ++ rest))) (hFd : ∀ b o, F b o → ¬ RdM br b o) :
  Calls Tryz.prog 180 #[.pointer (some ⟨br, 0, none⟩)] w (RdPost w br (Fp F w) rest fun v w' => v = .string (bs X)) := by
 refine enter (n := 12) Tryz.func180 rfl Tryz.ntmps180 kz fun a hE => ?_
 have hW : WOk w (RdM br) w [⟨br, 0, [.slice A m c, .bool false], true⟩] [] := WOk.startStr hst
 have hE1 := (hE.grow ⟨br, 0, [.slice A m c, .bool false], true⟩).recast 0 (.v (.pointer (some ⟨br, 0, none⟩))) (.p 0 0) rfl rfl (Nat.le_of_ble_eq_true (n := 1) rfl)
 refine go_sp [(0, .p 0 0)] hW hE1 fun a1 hE2 => ?_
 clear hE1
 refine go_seq_region [0, 1, 2, 3, 4] kz ?_
 refine go_rn [0] [1, 2, 3, 4] [(0, .p 0 0), (4, .p 0 0)] hW hE2 fun a3 hE4 => ?_
 clear hE2
 refine of_op (wpOp_call hE4 (f := 222) (vs := [.pointer (some ⟨br, 0, none⟩)]) (d := 5) kz Tryz.call222 (rUvarint (X.length + 1) (by omega) (X ++ rest) (Str.of hW 0 rfl) (hr.move hW.step (fun b_ o_ h_ _ => hFd b_ o_ h_) (hW.immM hFd)) (imm_rd 0 rfl)) ?_)
 rintro e_ w5 ⟨_, A6, n7, c8, rfl, hs9, ao, ac, rfl⟩
 obtain ⟨aa, ap, aG⟩ := hW.wrote 0 [⟨br, 0, [.slice A6 n7 c8, .bool false], true⟩] rfl ac hs9
 have ar := ao.move (Step.refl _ Nil) nilM (fun b_ o_ h_ _ => ap.to b_ o_ h_)
 refine ⟨_, rfl, fun aJ au => ?_⟩
 have ae : EnvOk 12 [⟨br, 0, [.slice A6 n7 c8, .bool false], true⟩] [(5, .v (.int .u32 ((X.length + 1 : Nat) : Int))), (0, .p 0 0), (4, .p 0 0)] _ := au.places (⟨rfl, rfl, trivial⟩)
 clear hE4
 refine go_rn [2, 3, 4] [] [(0, .p 0 0), (3, .v (.int .i64 (IntKind.i64.wrap ((IntKind.i64.wrap ((X.length + 1 : Nat) : Int)) - 1))))] aa ae fun aK af => ?_
 clear ae
 refine wpOps_nil (then_normal ?_)
 refine go_seq_region [0, 1, 2, 3, 4] kz ?_
 refine go_rn [0, 1] [2, 3, 4] [(8, .p 0 0), (9, .v (.int .i64 (IntKind.i64.wrap ((IntKind.i64.wrap ((X.length + 1 : Nat) : Int)) - 1))))] aa af fun aL ag => ?_
 clear af
 have av : IntKind.i64.wrap ((IntKind.i64.wrap ((X.length + 1 : Nat) : Int)) - 1) = ((X.length : Nat) : Int) := by simp only [i16w, i32w, i64w]; omega
 have ah := EnvOk.pick ag (ks := [8, 9]) (env' := [(8, .p 0 0), (9, .v (.int .i64 (IntKind.i64.wrap ((IntKind.i64.wrap ((X.length + 1 : Nat) : Int)) - 1))))]) kz
 have ai := ah.cast (env' := [(8, .p 0 0), (9, .v (.int .i64 ((X.length : Nat) : Int)))]) (by rw [av])
 clear ag ah
 refine of_op (wpOp_call ai (f := 224) (vs := [.pointer (some ⟨br, 0, none⟩), .int .i64 ((X.length : Nat) : Int)]) (d := 10) kz Tryz.call224 (rSpan X (rest) (Str.of aa 0 rfl) ar (imm_rd 0 rfl)) ?_)
 rintro e_ aM ⟨_, aD, aE, aF, rfl, aw, ax, aj, ⟨aH, rfl, ay⟩⟩
 obtain ⟨ab, ak, aI⟩ := aa.wrote 0 [⟨br, 0, [.slice aD aE aF, .bool false], true⟩] rfl aj aw
 have az := ax.move (Step.refl _ Nil) nilM (fun b_ o_ h_ _ => ak.to b_ o_ h_)
 refine ⟨_, rfl, fun aN aA => ?_⟩
 have al : EnvOk 12 [⟨br, 0, [.slice aD aE aF, .bool false], true⟩] [(10, .v (.slice aH X.length X.length)), (8, .p 0 0), (9, .v (.int .i64 ((X.length : Nat) : Int)))] _ := aA.places (⟨rfl, rfl, trivial⟩)
 clear ai
 have aB := ay.move (Step.refl _ Nil) nilM (fun b_ o_ h_ _ => ak.to b_ o_ h_)
 refine of_op (wpOp_conv al (src := 22) (dst := 9) (e := 5) (d := 11) kz kz kz kz aB fun aO am => ?_)
 clear al
 refine go_rn [4] [] [(2, .v (.string (bs X)))] ab am fun aP aC => ?_
 clear am
 refine wpOps_nil (then_normal ?_)
 refine wp_ret ?_
 refine leave aC ab.cells (v := .string (bs X)) kz ?_
 refine ⟨_, _, _, _, rfl, Str.of ab 0 rfl, (az.move (Step.refl _ Nil) nilM immOut), ab.step, rfl⟩
theorem rArrayLen (x : Int) (hx : -1 ≤ x ∧ x ≤ 32767) (rest : Bs) (hl : x ≤ ((rest.length : Nat) : Int)) {br : Nat} {A : Option Addr} {m c : Nat} {w : World} {F : Nat → Nat → Prop} (hst : Str w br [.slice A m c, .bool false]) (hr : RdS w F A m c ((be 4 x) ++ rest)) (hFd : ∀ b o, F b o → ¬ RdM br b o) :
  Calls Tryz.prog 174 #[.pointer (some ⟨br, 0, none⟩)] w (RdPost w br (Fp F w) rest fun v w' => v = .int .i32 x) := by
 refine enter (n := 21) Tryz.func174 rfl Tryz.ntmps174 kz fun a hE => ?_
 have hW : WOk w (RdM br) w [⟨br, 0, [.slice A m c, .bool false], true⟩] [] := WOk.startStr hst
 have hE1 := (hE.grow ⟨br, 0, [.slice A m c, .bool false], true⟩).recast 0 (.v (.pointer (some ⟨br, 0, none⟩))) (.p 0 0) rfl rfl (Nat.le_of_ble_eq_true (n := 1) rfl)
 refine go_sp [(0, .p 0 0)] hW hE1 fun a1 hE2 => ?_
 clear hE1
 refine go_seq_region [0, 1, 2] kz ?_
 refine go_rn [0] [1, 2] [(0, .p 0 0), (4, .p 0 0)] hW hE2 fun a3 hE4 => ?_
 clear hE2
 refine of_op (wpOp_call hE4 (f := 195) (vs := [.pointer (some ⟨br, 0, none⟩)]) (d := 5) kz Tryz.call195 (rInt32 x (rest) (Str.of hW 0 rfl) (hr.move hW.step (fun b_ o_ h_ _ => hFd b_ o_ h_) (hW.immM hFd)) (imm_rd 0 rfl)) ?_)
 rintro e_ w5 ⟨_, A6, n7, c8, rfl, hs9, ah, ac, rfl⟩
 obtain ⟨aa, ai, al⟩ := hW.wrote 0 [⟨br, 0, [.slice A6 n7 c8, .bool false], true⟩] rfl ac hs9
 have ae := ah.move (Step.refl _ Nil) nilM (fun b_ o_ h_ _ => ai.to b_ o_ h_)
 refine ⟨_, rfl, fun am aj => ?_⟩
 have af : EnvOk 21 [⟨br, 0, [.slice A6 n7 c8, .bool false], true⟩] [(5, .v (.int .i32 (IntKind.i32.wrap x))), (0, .p 0 0), (4, .p 0 0)] _ := aj.places (⟨rfl, rfl, trivial⟩)
 clear hE4
 refine go_rn [2] [] [(0, .p 0 0), (3, .v (.int .i32 (IntKind.i32.wrap x)))] aa af fun ao ag => ?_
 clear af
 refine wpOps_nil (then_normal ?_)
 refine wp_seq ?_
 refine go_sp [(0, .p 0 0), (3, .v (.int .i32 (IntKind.i32.wrap x))), (13, .v (.bool (decide (((n7 : Nat) : Int) < (IntKind.i64.wrap (IntKind.i32.wrap x))))))] aa ag fun ap ab => ?_
 clear ag
 refine cond_false ab (b := decide (((n7 : Nat) : Int) < (IntKind.i64.wrap (IntKind.i32.wrap x)))) kz (decide_eq_false (by have h_ := ae.len; simp only [i32w, i64w]; omega)) ?_
 refine wp_skip ?_
 refine then_normal ?_
 refine go_sp [(2, .v (.int .i32 (IntKind.i32.wrap x)))] aa ab fun ar ak => ?_
 clear ab
 refine wp_ret ?_
 refine leave ak aa.cells (v := .int .i32 (IntKind.i32.wrap x)) kz ?_
 refine ⟨_, _, _, _, rfl, Str.of aa 0 rfl, (ae.move (Step.refl _ Nil) nilM immOut), aa.step, congrArg (Value.int .i32) (by simp only [i32w]; omega)⟩
theorem rCompactArrayLen (n : Nat) (hn : n ≤ 32768) (rest : Bs) (hl : n ≤ rest.length + 1) {br : Nat} {A : Option Addr} {m c : Nat} {w : World} {F : Nat → Nat → Prop} (hst : Str w br [.slice A m c, .bool false]) (hr : RdS w F A m c ((uv n) ++ rest)) (hFd : ∀ b o, F b o → ¬ RdM br b o) :
  Calls Tryz.prog 173 #[.pointer (some ⟨br, 0, none⟩)] w (RdPost w br (Fp F w) rest fun v w' => v = .int .i32 (((n : Nat) : Int) - 1)) := by
 refine enter (n := 23) Tryz.func173 rfl Tryz.ntmps173 kz fun a hE => ?_
 have hW : WOk w (RdM br) w [⟨br, 0, [.slice A m c, .bool false], true⟩] [] := WOk.startStr hst
 have hE1 := (hE.grow ⟨br, 0, [.slice A m c, .bool false], true⟩).recast 0 (.v (.pointer (some ⟨br, 0, none⟩))) (.p 0 0) rfl rfl (Nat.le_of_ble_eq_true (n := 1) rfl)
 refine go_sp [(0, .p 0 0)] hW hE1 fun a1 hE2 => ?_
 clear hE1
 refine go_seq_region [0, 1, 2, 3, 4] kz ?_
 refine go_rn [0] [1, 2, 3, 4] [(0, .p 0 0), (4, .p 0 0)] hW hE2 fun a3 hE4 => ?_
 clear hE2
 refine of_op (wpOp_call hE4 (f := 222) (vs := [.pointer (some ⟨br, 0, none⟩)]) (d := 5) kz Tryz.call222 (rUvarint n (by omega) (rest) (Str.of hW 0 rfl) (hr.move hW.step (fun b_ o_ h_ _ => hFd b_ o_ h_) (hW.immM hFd)) (imm_rd 0 rfl)) ?_)
 rintro e_ w5 ⟨_, A6, n7, c8, rfl, hs9, ah, ac, rfl⟩
 obtain ⟨aa, ai, al⟩ := hW.wrote 0 [⟨br, 0, [.slice A6 n7 c8, .bool false], true⟩] rfl ac hs9
 have ae := ah.move (Step.refl _ Nil) nilM (fun b_ o_ h_ _ => ai.to b_ o_ h_)
 refine ⟨_, rfl, fun am aj => ?_⟩
 have af : EnvOk 23 [⟨br, 0, [.slice A6 n7 c8, .bool false], true⟩] [(5, .v (.int .u32 ((n : Nat) : Int))), (0, .p 0 0), (4, .p 0 0)] _ := aj.places (⟨rfl, rfl, trivial⟩)
 clear hE4
 refine go_rn [2, 3, 4] [] [(0, .p 0 0), (3, .v (.int .i32 (IntKind.i32.wrap ((IntKind.i32.wrap ((n : Nat) : Int)) - 1))))] aa af fun ao ag => ?_
 clear af
 refine wpOps_nil (then_normal ?_)
 refine wp_seq ?_
 refine go_sp [(0, .p 0 0), (3, .v (.int .i32 (IntKind.i32.wrap ((IntKind.i32.wrap ((n : Nat) : Int)) - 1)))), (15, .v (.bool (decide (((n7 : Nat) : Int) < (IntKind.i64.wrap (IntKind.i32.wrap ((IntKind.i32.wrap ((n : Nat) : Int)) - 1)))))))] aa ag fun ap ab => ?_
 clear ag
 refine cond_false ab (b := decide (((n7 : Nat) : Int) < (IntKind.i64.wrap (IntKind.i32.wrap ((IntKind.i32.wrap ((n : Nat) : Int)) - 1))))) kz (decide_eq_false (by have h_ := ae.len; simp only [i32w, i64w]; omega)) ?_
 refine wp_skip ?_
 refine then_normal ?_
 refine go_sp [(2, .v (.int .i32 (IntKind.i32.wrap ((IntKind.i32.wrap ((n : Nat) : Int)) - 1))))] aa ab fun ar ak => ?_
 clear ab
 refine wp_ret ?_
 refine leave ak aa.cells (v := .int .i32 (IntKind.i32.wrap ((IntKind.i32.wrap ((n : Nat) : Int)) - 1))) kz ?_
 refine ⟨_, _, _, _, rfl, Str.of aa 0 rfl, (ae.move (Step.refl _ Nil) nilM immOut), aa.step, congrArg (Value.int .i32) (by simp only [i32w]; omega)⟩
theorem rOk  (rest : Bs)  {br : Nat} {A : Option Addr} {m c : Nat} {w : World} {F : Nat → Nat → Prop} (hst : Str w br [.slice A m c, .bool false]) (hr : RdS w F A m c (rest)) (hFd : ∀ b o, F b o → ¬ RdM br b o) :
  Calls Tryz.prog 175 #[.pointer (some ⟨br, 0, none⟩)] w (RdPost w br (Fp F w) rest fun v w' => v = .bool true) := by
 refine enter (n := 8) Tryz.func175 rfl Tryz.ntmps175 kz fun a hE => ?_
 have hW : WOk w (RdM br) w [⟨br, 0, [.slice A m c, .bool false], true⟩] [] := WOk.startStr hst
 have hE1 := (hE.grow ⟨br, 0, [.slice A m c, .bool false], true⟩).recast 0 (.v (.pointer (some ⟨br, 0, none⟩))) (.p 0 0) rfl rfl (Nat.le_of_ble_eq_true (n := 1) rfl)
 refine go_sp [(0, .p 0 0)] hW hE1 fun a1 hE2 => ?_
 clear hE1
 refine go_sp [(2, .v (.bool true))] hW hE2 fun a3 hE4 => ?_
 clear hE2
 refine wp_ret ?_
 refine leave hE4 hW.cells (v := .bool true) kz ?_
 refine ⟨_, _, _, _, rfl, Str.of hW 0 rfl, ((hr.move hW.step (fun b_ o_ h_ _ => hFd b_ o_ h_) (hW.immM hFd)).move (Step.refl _ Nil) nilM immOut), hW.step, rfl⟩
end Go.Proofs.YtgolpmkenmedoaaGreatDoor.ME
namespace Go.Proofs.YtgolpmkenmedoaaGreatDoor.ME
open Go
open Go.RowKit
set_option linter.unusedVariables false
set_option linter.unusedSimpArgs false
theorem wp_joinN {P : Program} {c : Code} {Mid : Act → World → Prop} {Q : Exit → Act → World → Prop} {a : Act} {w : World} (h1 : c.wp P (Exit.then Mid Q) a w) (h2 : ∀ a' w', Mid a' w' → Q .normal a' w') : c.wp P Q a w :=
 wp_mono h1 fun e a' w' h => by
  cases e <;> first | exact h2 a' w' h | exact h
theorem i32_succ {k : Nat} (h : k < 32768) : IntKind.i32.wrap (((k : Nat) : Int) + 1) = ((k + 1 : Nat) : Int) := by rw [i32w]; omega
theorem flat_ge {g : Tree → Bs} : ∀ {L : List Tree}, (∀ t, 0 < (g t).length) → L.length ≤ (L.flatMap g).length
 | [], _ => Nat.zero_le _
 | t :: r, h => by
  have h1 := h t
  have h2 := flat_ge (L := r) h
  rw [List.flatMap_cons, List.length_append, List.length_cons]; omega
theorem flat_ge' {g : Tree → Bs} {L : List Tree} (h : ∀ t, 0 < (g t).length) (rest : Bs) : L.length ≤ (L.flatMap g ++ rest).length := by
 have := flat_ge (L := L) h
 rw [List.length_append]; omega
theorem pos_l {x y : Bs} (h : 0 < x.length) : 0 < (x ++ y).length := by rw [List.length_append]; omega
theorem pos_if {b : Bool} {x y : Bs} (h : 0 < x.length) (h' : 0 < y.length) : 0 < (if b = true then x else y).length := by split <;> assumption
theorem pos_be {m : Nat} {x : Int} (h : 0 < m) : 0 < (be m x).length := by rw [be_length]; exact h
section
variable {Pr : Program} {ops : Array Oper} {Q : Exit → Act → World → Prop} {w0 : World} {M F : Nat → Nat → Prop} {n br : Nat} {tb : Tb} {env : Env} {P : FactW} {s : Bs} {a : Act} {w : World}
theorem rs_cut0 {id d : Nat} {t e : TypeId} {size bytes m cp : Nat} {A0 : Option Addr} (env1 env' : Env) (i : Nat) (h : RS w0 M F n br tb env P s a w) (K : ∀ a', RS w0 M F n br tb env' P s a' w → Q .normal a' w)
  (hr : List.range ops.size = List.range i ++ (i :: (List.range ops.size).drop (i + 1)) := by kernel_rfl) (e1 : ∀ A m c, runsP Pr ops n (rdo br A m c :: tb) (List.range i) (keysOf env1) env = some env1 := by intro _ _ _; kernel_rfl)
  (hc : ∀ A m_ c, cutE (rdo br A m_ c :: tb) env1 ops n i = some (t, .slice A0 m cp, none, some 0, d) := by intro _ _ _; kernel_rfl) (ht : rowTy Pr t = some (e, size, bytes) := by kernel_rfl)
  (e2 : ∀ A m_ c, runsP Pr ops n (rdo br A m_ c :: tb) ((List.range ops.size).drop (i + 1)) (keysOf env') ((d, .v (.slice A0 0 cp)) :: env1) = some env' := by intro _ _ _; kernel_rfl) : (Code.region id ops false).wp Pr Q a w := by
 refine go_region _ hr (rs_rn (List.range i) _ env1 h (fun a1 h1 => ?_) e1 rfl)
 obtain ⟨A, m1, c, hW, hrd, hE, hP⟩ := h1.open_
 refine of_op (wpOp_cut_hi hE (hc A m1 c) ht (j := 0) rfl (Nat.zero_le _) fun a2 hE2 => ?_)
 exact rs_rn _ [] env' (RS.mk' hW hrd hE2 h1.mv hP) (fun a3 h3 => wpOps_nil (K a3 h3)) e2 (List.append_nil _).symm
theorem rs_nop {i d : Nat} {f : FuncId} {vs : List Value} {v0 : Value} {N : Act → World → Prop} (h : RS w0 M F n br tb env P s a w) (hc : ∀ w, Calls Pr f vs.toArray w (fun e w' => e = .returned v0 ∧ w' = w))
  (hf : ∀ args w, (callFunc f args).run Pr w = .ok (.enter f args) w) (K : ∀ a', RS w0 M F n br tb ((d, .v v0) :: env) P s a' w → N a' w)
  (he : ∀ A m c, callE (rdo br A m c :: tb) env ops n i = some (f, vs, d) := by intro _ _ _; kernel_rfl) : wpOp Pr ops Q i N a w := by
 obtain ⟨A, m, c, hW, hr, hE, hP⟩ := h.open_
 refine wpOp_call hE (he A m c) hf (hc w) ?_
 rintro e_ _ ⟨rfl, rfl⟩
 exact ⟨_, rfl, fun a1 hE1 => K a1 (RS.mk' hW hr hE1 h.mv hP)⟩
theorem rs_ok {id d : Nat} {f : FuncId} {v0 : Value} (env' : Env) (h : RS w0 M F n br tb env P s a w) (hc : RPrim0 Pr f [] s v0)
  (hf : ∀ args w, (callFunc f args).run Pr w = .ok (.enter f args) w) (K : ∀ a' w', RS w0 M F n br tb env' P s a' w' → Q .normal a' w')
  (he : ∀ A m c, callE (rdo br A m c :: tb) env ops n 0 = some (f, [.pointer (some ⟨br, 0, none⟩)], d) := by intro _ _ _; kernel_rfl)
  (e : ∀ A m c, runsP Pr ops n (rdo br A m c :: tb) ((List.range ops.size).drop 1) (keysOf env') ((d, .v v0) :: env) = some env' := by intro _ _ _; kernel_rfl) (hs : Nat.blt 0 ops.size = true := by kernel_rfl) : (Code.region id ops false).wp Pr Q a w :=
 rs_ca0 (X := []) (rest := s) env' h hc hf K he e hs
theorem rs_index {i d k l g size bytes : Nat} {t e : TypeId} {z : Value} {N : Act → World → Prop} (h : RS w0 M F n br (tb ++ [restO g size z l k]) env P s a w) (hk : k < l) (hz : z.cells.size = size) (hl : below (tb.length + 1) env = true)
  (K : ∀ a', RS w0 M F n br (tb ++ [restO g size z l (k + 1), ⟨g, k * size, z.cells.toList, true⟩]) ((d, .p (tb.length + 2) 0) :: env) P s a' w → N a' w)
  (he : ∀ A m c, idxE (rdo br A m c :: (tb ++ [restO g size z l k])) env ops n i = some (t, some ⟨g, 0, none⟩, l, ((k : Nat) : Int), d) := by intro _ _ _; kernel_rfl) (ht : rowTy Pr t = some (e, size, bytes) := by kernel_rfl) : wpOp Pr ops Q i N a w := by
 obtain ⟨A, m, c, hW, hr, hE, hP⟩ := h.open_
 refine wpOp_index hE (he A m c) ht rfl rfl hk fun a1 hE1 => K a1 ?_
 have h1 : RS w0 M F n br (tb ++ [restO g size z l k]) ((d, .v (.pointer (some ⟨g, 0 + k * size, none⟩))) :: env) P s a1 w := RS.mk' hW hr hE1 h.mv hP
 have h2 := h1.next hk hz (by simpa only [below] using hl)
 have h3 := h2.recast d (.v (.pointer (some ⟨g, 0 + k * size, none⟩))) (.p (tb.length + 2) 0) (by simp [lk]) ?_ (by show tb.length + 2 < _; simp)
 ·refine ⟨h3.mv, h3.ex, ?_, h3.fact⟩
  refine ⟨h3.env_.defers, h3.env_.size, fun q x hx => h3.env_.at_ q x ?_⟩
  simp only [lk] at hx ⊢
  split at hx
  ·exact hx
  ·exact hx
 ·have : obAt (rdo br none 0 0 :: (tb ++ [restO g size z l (k + 1), ⟨g, k * size, z.cells.toList, true⟩])) (tb.length + 2) = ⟨g, k * size, z.cells.toList, true⟩ := by
   simp only [obAt, List.getD_eq_getElem?_getD]
   rw [show tb.length + 2 = (tb.length + 1) + 1 from rfl, List.getElem?_cons_succ, List.getElem?_append_right (by omega)]
   simp
  simp only [SV.val, this]
  simp
theorem rs_elem {id d k l g size bytes : Nat} {t e : TypeId} {z : Value} (env1 env' : Env) (i : Nat) (h : RS w0 M F n br (tb ++ [restO g size z l k]) env P s a w) (hk : k < l) (hz : z.cells.size = size) (hl : below (tb.length + 1) env1 = true)
  (K : ∀ a', RS w0 M F n br (tb ++ [restO g size z l (k + 1), ⟨g, k * size, z.cells.toList, true⟩]) env' P s a' w → Q .normal a' w)
  (hr : List.range ops.size = List.range i ++ (i :: (List.range ops.size).drop (i + 1)) := by kernel_rfl) (e1 : ∀ A m c, runsP Pr ops n (rdo br A m c :: (tb ++ [restO g size z l k])) (List.range i) (keysOf env1) env = some env1 := by intro _ _ _; kernel_rfl)
  (he : ∀ A m c, idxE (rdo br A m c :: (tb ++ [restO g size z l k])) env1 ops n i = some (t, some ⟨g, 0, none⟩, l, ((k : Nat) : Int), d) := by intro _ _ _; kernel_rfl) (ht : rowTy Pr t = some (e, size, bytes) := by kernel_rfl)
  (e2 : ∀ A m c, runsP Pr ops n (rdo br A m c :: (tb ++ [restO g size z l (k + 1), ⟨g, k * size, z.cells.toList, true⟩])) ((List.range ops.size).drop (i + 1)) (keysOf env') ((d, .p (tb.length + 2) 0) :: env1) = some env' := by intro _ _ _; kernel_rfl) : (Code.region id ops false).wp Pr Q a w := by
 refine go_region _ hr (rs_rn (List.range i) _ env1 h (fun a1 h1 => of_op (rs_index h1 hk hz hl (fun a2 h2 => ?_) he ht)) e1 rfl)
 exact rs_rn _ [] env' h2 (fun a3 h3 => wpOps_nil (K a3 h3)) e2 (List.append_nil _).symm
end
theorem pString (S : Bs) (hS : S.length ≤ 32767) (rest : Bs) : RPrim0 Tryz.prog 181 (be 2 S.length ++ S) rest (.string (bs S)) := fun hs hr hF => (rString S hS rest hs (hr.cast (by simp only [List.append_assoc])) hF).mono fun e w' hp => hp.q fun v w' h => h
theorem pCompactString (S : Bs) (hS : S.length ≤ 32767) (rest : Bs) : RPrim0 Tryz.prog 180 (uv (S.length + 1) ++ S) rest (.string (bs S)) := fun hs hr hF => (rCompactString S (by omega) rest hs (hr.cast (by simp only [List.append_assoc])) hF).mono fun e w' hp => hp.q fun v w' h => h
theorem pArrayLen (n : Nat) (hn : n ≤ 32767) (rest : Bs) (hl : n ≤ rest.length) : RPrim0 Tryz.prog 174 (be 4 n) rest (.int .i32 ((n : Nat) : Int)) := fun hs hr hF => (rArrayLen ((n : Nat) : Int) (by omega) rest (by omega) hs hr hF).mono fun e w' hp => hp.q fun v w' h => h
theorem pCompactArrayLen (n : Nat) (hn : n ≤ 32767) (rest : Bs) (hl : n ≤ rest.length) : RPrim0 Tryz.prog 173 (uv (n + 1)) rest (.int .i32 ((n : Nat) : Int)) := fun hs hr hF => (rCompactArrayLen (n + 1) (by omega) rest (by omega) hs hr hF).mono fun e w' hp => hp.q fun v w' h => h.trans (congrArg (Value.int .i32) (by omega))
theorem pOk (rest : Bs) : RPrim0 Tryz.prog 175 [] rest (.bool true) := fun hs hr hF => (rOk rest hs hr hF).mono fun e w' hp => hp.q fun v w' h => h
theorem pTags (u : List (Int × Bs)) (hU : canU u) (hk : ∀ x ∈ u, 0 ≤ x.1 ∧ x.1 < 4294967296) (rest : Bs) : RPrim Tryz.prog 182 (uv u.length ++ tagsR u) rest (fun m : Option Nat => .agg #[.map m]) (fun m => tagsF m u) := fun hs hr hF => (rTags u rest hU.1 hk hU.2.1 hU.2.2 hs (hr.cast (by simp only [List.append_assoc])) hF).mono fun e w' hp => hp.q fun v w' h => h
end Go.Proofs.YtgolpmkenmedoaaGreatDoor.ME
namespace Go.Proofs.YtgolpmkenmedoaaGreatDoor.ME
open Go
set_option linter.unusedVariables false
set_option linter.unusedSimpArgs false
set_option maxRecDepth 20000
theorem lFits3 (k : Int) (A : Option Addr) (m c : Nat) (w : World) : Calls Tryz.prog 118 #[.agg #[.int .u32 k, .slice A m c]] w (GivesB w) := by
 refine enter (n := 7) Tryz.func118 rfl Tryz.ntmps118 kz fun a hE => ?_
 have hW := WOk.start w Nil
 refine go_seq_region [0, 1] kz ?_
 refine of_op (wpOp_box hW hE (d := 1) (cs := [.int .u32 k, .slice A m c]) kz fun b1 a2 w3 hb4 hz5 hF6 hW7 hE8 => ?_)
 clear hE hW
 refine go_rn [1] [] [(1, .p 0 0)] hW7 hE8 fun a9 ac => ?_
 clear hE8
 refine wpOps_nil (then_normal ?_)
 refine wp_seq ?_
 refine go_sp [(6, .v (.bool (decide (((m : Nat) : Int) > 2147483647))))] hW7 ac fun ai aa => ?_
 clear ac
 refine cond_of aa (b := decide (((m : Nat) : Int) > 2147483647)) kz (fun ab => ?_) (fun ab => ?_)
 ·
  have ag := of_decide_eq_true ab
  refine go_sp [(2, .v (.bool false))] hW7 aa fun aj ae => ?_
  clear aa
  refine wp_ret ?_
  refine then_ret ?_
  refine leave ae hW7.cells (v := .bool false) kz ?_
  exact ⟨_, rfl, hW7.step⟩
 ·
  have ah := of_decide_eq_false ab
  refine wp_skip ?_
  refine then_normal ?_
  refine go_sp [(2, .v (.bool true))] hW7 aa fun ak af => ?_
  clear aa
  refine wp_ret ?_
  refine leave af hW7.cells (v := .bool true) kz ?_
  exact ⟨_, rfl, hW7.step⟩
theorem lFits2 (A : Option Addr) (c : Nat) (u : List (Int × Bs)) (w : World) (F : Nat → Nat → Prop) (hu : TagsR w F A c u) : Calls Tryz.prog 49 #[.slice A u.length c] w (GivesB w) := by
 obtain ⟨xu, h1, h2⟩ := hu.ex
 have hsm := h1.small
 refine enter (n := 18) Tryz.func49 rfl Tryz.ntmps49 kz fun a hE => ?_
 have hW := WOk.start w Nil
 refine go_sp [(0, .v (.slice A u.length c))] hW hE fun a1 hE2 => ?_
 clear hE
 refine wp_seq ?_
 refine go_sp [(0, .v (.slice A u.length c)), (7, .v (.bool (decide (((u.length : Nat) : Int) > 2147483647))))] hW hE2 fun a3 hE4 => ?_
 clear hE2
 refine cond_of hE4 (b := decide (((u.length : Nat) : Int) > 2147483647)) kz (fun hc5 => ?_) (fun hc5 => ?_)
 ·
  have hf6 := of_decide_eq_true hc5
  refine go_sp [(2, .v (.bool false))] hW hE4 fun a7 hE8 => ?_
  clear hE4
  refine wp_ret ?_
  refine then_ret ?_
  refine leave hE8 hW.cells (v := .bool false) kz ?_
  exact ⟨_, rfl, hW.step⟩
 ·
  have hf9 := of_decide_eq_false hc5
  refine wp_skip ?_
  refine then_normal ?_
  refine wp_seq ?_
  refine go_sp [(8, .v (.slice A u.length c)), (9, .v (.int .i64 ((u.length : Nat) : Int))), (10, .v (.int .i64 0))] hW hE4 fun ba ak => ?_
  clear hE4
  refine wp_block ?_
  refine wp_loop_ghost (fun n_ a_ w_ => ∃ (k : Nat), n_ = u.length - k ∧ k ≤ u.length ∧ LInv hW 18 [] [] [(8, .v (.slice A u.length c)), (9, .v (.int .i64 ((u.length : Nat) : Int))), (10, .v (.int .i64 ((k : Nat) : Int)))] a_ w_) (u.length) ⟨0, by omega, by omega, ak.pk, hW, Fr.refl _ _ _⟩ ?_
  clear ak
  rintro bd bf bg ⟨k, aQ, aR, al, aa, aC⟩
  refine go_sp [(8, .v (.slice A u.length c)), (9, .v (.int .i64 ((u.length : Nat) : Int))), (10, .v (.int .i64 ((k : Nat) : Int))), (11, .v (.bool (decide (((k : Nat) : Int) < ((u.length : Nat) : Int)))))] aa al fun bh ac => ?_
  clear al
  refine wp_seq ?_
  refine cond_of ac (b := decide (((k : Nat) : Int) < ((u.length : Nat) : Int))) kz (fun ah => ?_) (fun ah => ?_)
  ·
   have aS := of_decide_eq_true ah
   refine wp_skip ?_
   refine then_normal ?_
   refine wp_seq ?_
   refine wp_block ?_
   refine go_seq_region [0, 1, 2, 3] kz ?_
   obtain ⟨aT, aU, aD, aV, ag⟩ := Slots.get h1 (i := k) (by omega)
   obtain ⟨⟨ai, aj⟩, aE⟩ : ∃ x, u[k]? = some x := ⟨_, List.getElem?_eq_getElem (by omega)⟩
   obtain ⟨⟨am, ao, ap, aW⟩, bi, bj⟩ := h2 k ai aj aE
   rw [ap] at ag
   refine of_op (wpOp_index ac (t := 24) (A := A) (m := u.length) (q := ((k : Nat) : Int)) (d := 12) kz (e := 66) (size := 2) (bytes := 32) kz aD rfl (by omega) fun bk ar => ?_)
   clear ac
   refine of_op (wpOp_load ar (t := 66) (b := aT) (o := aU + k * 2) (d := 13) kz (cs := [.int .u32 ai, .slice am aj.length ao]) (v := .agg #[.int .u32 ai, .slice am aj.length ao]) kz (AtF.move ag aa.step nilM keepF).at_ fun bn au => ?_)
   clear ar
   refine of_op (wpOp_alloc aa au (d := 4) (cs := [.int .u32 0, .slice none 0 0]) kz fun bo bp bq aX aY aF av aw => ?_)
   clear au aa
   refine of_op (wpOp_store av aw (oi := 0) (cs := [.int .u32 ai, .slice am aj.length ao]) kz fun bt aG af ax => ?_)
   clear aw av
   refine wpOps_nil (then_normal ?_)
   refine go_seq_region [0, 1, 2] kz ?_
   refine go_rn [0] [1, 2] [(8, .v (.slice A u.length c)), (9, .v (.int .i64 ((u.length : Nat) : Int))), (10, .v (.int .i64 ((k : Nat) : Int))), (14, .v (.agg #[.int .u32 ai, .slice am aj.length ao]))] af ax fun bu ay => ?_
   clear ax
   refine of_op (wpOp_call ay (f := 118) (vs := [.agg #[.int .u32 ai, .slice am aj.length ao]]) (d := 15) kz Tryz.call118 (lFits3 _ _ _ _ _) ?_)
   rintro e_ bw ⟨aP, rfl, az⟩
   refine ⟨_, rfl, fun bx aA => ?_⟩
   have ab := af.next_nil az
   have aH := af.frN az
   clear ay af
   refine go_rn [2] [] [(8, .v (.slice A u.length c)), (9, .v (.int .i64 ((u.length : Nat) : Int))), (10, .v (.int .i64 ((k : Nat) : Int))), (16, .v (.bool (!aP)))] ab aA fun bz ae => ?_
   clear aA
   refine wpOps_nil (then_normal ?_)
   refine cond_of ae (b := !aP) kz (fun aI => ?_) (fun aI => ?_)
   ·
    refine go_sp [(2, .v (.bool false))] ab ae fun bA aJ => ?_
    clear ae
    refine wp_ret ?_
    refine block_ret ?_
    refine then_ret ?_
    refine then_ret ?_
    refine block_ret ?_
    refine then_ret ?_
    refine leave aJ ab.cells (v := .bool false) kz ?_
    exact ⟨_, rfl, ab.step⟩
   ·
    refine wp_skip ?_
    refine block_normal ?_
    refine then_normal ?_
    refine go_region [0, 1] kz ?_
    refine go_rn [0, 1] [] [(8, .v (.slice A u.length c)), (9, .v (.int .i64 ((u.length : Nat) : Int))), (10, .v (.int .i64 (IntKind.i64.wrap (((k : Nat) : Int) + 1))))] ab ae fun bB aK => ?_
    clear ae
    refine wpOps_nil (then_normal ?_)
    obtain ⟨aB, aL, aM⟩ := ab.cutB aK 0 [] [(8, .v (.slice A u.length c)), (9, .v (.int .i64 ((u.length : Nat) : Int))), (10, .v (.int .i64 (IntKind.i64.wrap (((k : Nat) : Int) + 1))))]
    have aN : IntKind.i64.wrap (((k : Nat) : Int) + 1) = ((k + 1 : Nat) : Int) := wrap_succ (by omega)
    rw [aN] at aB
    exact ⟨u.length - (k + 1), by omega, k + 1, rfl, by omega, aB.pk, aL, ((((aC.trans aF).trans aG).trans aH).trans aM)⟩
  ·
   have aZ := of_decide_eq_false ah
   refine wp_exit ?_
   refine then_exit ?_
   refine then_exit ?_
   refine block_exit ?_
   refine then_normal ?_
   refine go_sp [(2, .v (.bool true))] aa ac fun bC aO => ?_
   clear ac
   refine wp_ret ?_
   refine leave aO aa.cells (v := .bool true) kz ?_
   exact ⟨_, rfl, aa.step⟩
theorem lFits1 (ct : List Value) (t : Tree) (w : World) (F : Nat → Nat → Prop) (ht : TreeR w F ct t) : Calls Tryz.prog 13 #[.agg ct.toArray] w (GivesB w) := by
 obtain ⟨n1, s2, b3, l4, u5, A6, c7, A8, c9, ao, ap, aB, rfl, rfl, aC, aD, aN, aE⟩ := ht.open_
 have ay := aC.small
 have az := aD.small
 refine enter (n := 15) Tryz.func13 rfl Tryz.ntmps13 kz fun a hE => ?_
 have hW := WOk.start w Nil
 refine go_seq_region [0, 1] kz ?_
 refine of_op (wpOp_box hW hE (d := 1) (cs := [.int .i64 n1, .slice A6 s2.length c7, .bool b3, .slice A8 l4.length c9, .slice ao u5.length ap]) kz fun aO aP aQ aF aG aH aa ai => ?_)
 clear hE hW
 refine go_rn [1] [] [(1, .p 0 0)] aa ai fun aR aj => ?_
 clear ai
 refine wpOps_nil (then_normal ?_)
 refine wp_seq ?_
 refine go_sp [(1, .p 0 0), (6, .v (.bool (decide (((s2.length : Nat) : Int) > 2147483647))))] aa aj fun aS ac => ?_
 clear aj
 refine cond_of ac (b := decide (((s2.length : Nat) : Int) > 2147483647)) kz (fun ag => ?_) (fun ag => ?_)
 ·
  have aI := of_decide_eq_true ag
  refine go_sp [(2, .v (.bool false))] aa ac fun aT ar => ?_
  clear ac
  refine wp_ret ?_
  refine then_ret ?_
  refine leave ar aa.cells (v := .bool false) kz ?_
  exact ⟨_, rfl, aa.step⟩
 ·
  have aJ := of_decide_eq_false ag
  refine wp_skip ?_
  refine then_normal ?_
  refine wp_seq ?_
  refine go_sp [(1, .p 0 0), (10, .v (.bool (decide (((l4.length : Nat) : Int) > 2147483647))))] aa ac fun aU ae => ?_
  clear ac
  refine cond_of ae (b := decide (((l4.length : Nat) : Int) > 2147483647)) kz (fun ah => ?_) (fun ah => ?_)
  ·
   have aK := of_decide_eq_true ah
   refine go_sp [(2, .v (.bool false))] aa ae fun aV au => ?_
   clear ae
   refine wp_ret ?_
   refine then_ret ?_
   refine leave au aa.cells (v := .bool false) kz ?_
   exact ⟨_, rfl, aa.step⟩
  ·
   have aL := of_decide_eq_false ah
   refine wp_skip ?_
   refine then_normal ?_
   refine wp_seq ?_
   refine go_seq_region [0, 1, 2, 3] kz ?_
   refine go_rn [0, 1] [2, 3] [(12, .v (.slice ao u5.length ap))] aa ae fun aW ak => ?_
   clear ae
   refine of_op (wpOp_call ak (f := 49) (vs := [.slice ao u5.length ap]) (d := 13) kz Tryz.call49 (lFits2 _ _ u5 _ _ (aE.move aa.step nilM aa.imm)) ?_)
   rintro e_ aX ⟨aA, rfl, al⟩
   refine ⟨_, rfl, fun aY am => ?_⟩
   have ab := aa.next_nil al
   have aM := aa.frN al
   clear ak aa
   refine go_rn [3] [] [(14, .v (.bool (!aA)))] ab am fun aZ af => ?_
   clear am
   refine wpOps_nil (then_normal ?_)
   refine cond_of af (b := !aA) kz (fun av => ?_) (fun av => ?_)
   ·
    refine go_sp [(2, .v (.bool false))] ab af fun ba aw => ?_
    clear af
    refine wp_ret ?_
    refine then_ret ?_
    refine leave aw ab.cells (v := .bool false) kz ?_
    exact ⟨_, rfl, ab.step⟩
   ·
    refine wp_skip ?_
    refine then_normal ?_
    refine go_sp [(2, .v (.bool true))] ab af fun bd ax => ?_
    clear af
    refine wp_ret ?_
    refine leave ax ab.cells (v := .bool true) kz ?_
    exact ⟨_, rfl, ab.step⟩
theorem lVersion (x m : Int) (hx : 0 ≤ x) (hx' : x < 256) (hm : 0 ≤ m) (hm' : m < 32768) (w : World) : Calls Tryz.prog 16 #[.int .u8 x, .int .i64 m] w (Gives w (.int .i64 (Int.tmod x (m + 1)))) := by
 refine enter (n := 10) Tryz.func16 rfl Tryz.ntmps16 kz fun a hE => ?_
 have hW := WOk.start w Nil
 refine go_sp [(0, .v (.int .u8 x)), (1, .v (.int .i64 m))] hW hE fun a1 hE2 => ?_
 clear hE
 refine go_seq_region [0, 1, 2, 3, 4, 5] kz ?_
 refine go_rn [0, 1, 2, 3] [4, 5] [(6, .v (.int .i64 (IntKind.i64.wrap x))), (8, .v (.int .i64 (IntKind.i64.wrap (m + 1))))] hW hE2 fun a3 hE4 => ?_
 clear hE2
 refine of_op (wpOp_rem hE4 (k := .i64) (p := (IntKind.i64.wrap x)) (q := (IntKind.i64.wrap (m + 1))) (d := 9) kz (by simp only [IntKind.wrap_i64]; omega) fun a5 hE6 => ?_)
 clear hE4
 refine go_rn [5] [] [(4, .v (.int .i64 (Int.tmod (IntKind.i64.wrap x) (IntKind.i64.wrap (m + 1)))))] hW hE6 fun a7 hE8 => ?_
 clear hE6
 refine wpOps_nil (then_normal ?_)
 refine wp_ret ?_
 refine leave hE8 hW.cells (v := .int .i64 (Int.tmod (IntKind.i64.wrap x) (IntKind.i64.wrap (m + 1)))) kz ?_
 exact ⟨by rw [wrap_i64 (by omega) (by omega), wrap_i64 (by omega) (by omega)], hW.step⟩
end Go.Proofs.YtgolpmkenmedoaaGreatDoor.ME
namespace Go.Proofs.YtgolpmkenmedoaaGreatDoor.ME
open Go
open Go.RowKit
set_option linter.unusedVariables false
set_option linter.unusedSimpArgs false
set_option maxRecDepth 20000
def tEDeleteShareGroupOffsetsRequestTopic (v : Int) (T : Tree) : Bs := (if (decide (v ≥ 0)) = true then (uv ((T.at_ 0).S.length + 1) ++ (T.at_ 0).S) else (be 2 (T.at_ 0).S.length ++ (T.at_ 0).S)) ++ (if (decide (v ≥ 0)) = true then (uv T.U.length) ++ (tagsR T.U) else [])
theorem posDeleteShareGroupOffsetsRequestTopic (v : Int) (T : Tree) : 0 < (tEDeleteShareGroupOffsetsRequestTopic v T).length := pos_l (pos_if (pos_l (uv_ne _)) (pos_l (pos_be (by decide))))
def tEDeleteShareGroupOffsetsRequest_ (v : Int) (T : Tree) : Bs := (if (decide (v ≥ 0)) = true then (uv ((T.at_ 0).S.length + 1) ++ (T.at_ 0).S) else (be 2 (T.at_ 0).S.length ++ (T.at_ 0).S)) ++ (((if (decide (v ≥ 0)) = true then (uv ((lst (T.at_ 1)).length + 1)) else (be 4 (lst (T.at_ 1)).length)) ++ ((lst (T.at_ 1)).flatMap (tEDeleteShareGroupOffsetsRequestTopic v))) ++ ((if (decide (v ≥ 0)) = true then (uv T.U.length) ++ (tagsR T.U) else []) ++ (([] : Bs))))
theorem teDeleteShareGroupOffsetsRequest (v : Int) (T : Tree) : tDeleteShareGroupOffsetsRequest v T = tEDeleteShareGroupOffsetsRequest_ v T := rfl
def clDeleteShareGroupOffsetsRequestTopic (d : DV) : List Value := [.string ((d.f 0).s), .map d.m]
theorem mvDeleteShareGroupOffsetsRequestTopic : Moves okDeleteShareGroupOffsetsRequestTopic := by
 intro w w' F F' M d hs hM hF h
 unfold okDeleteShareGroupOffsetsRequestTopic at h ⊢
 obtain ⟨g0, t1, t2, t3, _⟩ := h
 exact ⟨g0, t1.move hs hM hF, t2, t3, trivial⟩
def rvDeleteShareGroupOffsetsRequestTopic (v : Int) (D : DV) (T : Tree) : Prop := ((D.f 0).s = bs (T.at_ 0).S) ∧ (((decide (v ≥ 0)) = true → D.u = T.U) ∧ ((decide (v ≥ 0)) = false → D.u = [])) ∧ True
def rvDeleteShareGroupOffsetsRequest (v : Int) (D : DV) (T : Tree) : Prop := ((D.f 0).s = bs (T.at_ 0).S) ∧ (((D.f 1).l = (lst (T.at_ 1)).length ∧ ∀ i, i < (D.f 1).l → rvDeleteShareGroupOffsetsRequestTopic v ((D.f 1).f i) ((lst (T.at_ 1)).getD i .zero))) ∧ (((decide (v ≥ 0)) = true → D.u = T.U) ∧ ((decide (v ≥ 0)) = false → D.u = [])) ∧ True
theorem nop188 (b o : Nat) (w : World) : Calls Tryz.prog 188 #[.pointer (some ⟨b, o, none⟩)] w (fun e w' => e = .returned (.tuple #[]) ∧ w' = w) := by
 refine enter (n := 2) (vs := [.pointer (some ⟨b, o, none⟩)]) Tryz.func188 rfl Tryz.ntmps188 kz fun a hE => ?_
 refine wp_skip ?_
 exact leave_end hE (WOk.start w Nil).cells (v := .tuple #[]) kz ⟨rfl, rfl⟩
set_option maxHeartbeats 4000000 in
theorem rdDeleteShareGroupOffsetsRequest (v : Int) (T : Tree) {bv : Nat} {A : Option Addr} {c : Nat} {w : World} {F : Nat → Nat → Prop} (hst : Str w bv [.int .i16 v, .string ByteArray.empty, .slice none 0 0, .map none]) (ho : Octs w F A c (tDeleteShareGroupOffsetsRequest v T)) (hFd : ∀ b o, F b o → ¬ (b = bv ∧ o < 4)) (hc : canDeleteShareGroupOffsetsRequest T) (hR : T.ranged) :
  Calls Tryz.prog 134 #[.pointer (some ⟨bv, 0, none⟩), .slice A (tDeleteShareGroupOffsetsRequest v T).length c, .bool false] w (fun e w' => ∃ D : DV, e = .returned .nilIface ∧ Str w' bv [.int .i16 v, .string ((D.f 0).s), .slice ((D.f 1).A) ((D.f 1).l) ((D.f 1).c), .map D.m] ∧ okDeleteShareGroupOffsetsRequest w' (Fp F w) D ∧ rvDeleteShareGroupOffsetsRequest v D T ∧ Step w w' (fun b o => b = bv ∧ o < 4)) := by
 refine enter (n := 99) Tryz.func134 rfl Tryz.ntmps134 kz fun a hE => ?_
 have hW := WOk.startStr hst
 have hE1 := (hE.grow ⟨bv, 0, [.int .i16 v, .string ByteArray.empty, .slice none 0 0, .map none], true⟩).recast 0 (.v (.pointer (some ⟨bv, 0, none⟩))) (.p 0 0) rfl rfl (Nat.le_of_ble_eq_true (n := 1) rfl)
 refine go_sp [(0, .p 0 0), (1, .v (.slice A ((tDeleteShareGroupOffsetsRequest v T).length) c)), (2, .v (.bool false))] hW hE1 fun a1 hE2 => ?_
 clear hE1
 refine go_seq_region [0, 1] kz ?_
 refine go_rn [0] [1] [(0, .p 0 0), (1, .v (.slice A ((tDeleteShareGroupOffsetsRequest v T).length) c)), (2, .v (.bool false)), (19, .p 0 0)] hW hE2 fun a3 hE4 => ?_
 clear hE2
 refine of_op (wpOp_inline hE4 (f := 133) (vs := [.pointer (some ⟨bv, 0, none⟩)]) (d := 20) (n' := 2) kz Tryz.call133 Tryz.func133 rfl Tryz.ntmps133 kz fun a5 hE6 => ?_)
 have hE7 := hE6.recast 0 (.v (.pointer (some ⟨bv, 0, none⟩))) (.p 0 0) rfl rfl (Nat.le_of_ble_eq_true (n := 1) rfl)
 refine wp_skip ?_
 refine leave_end hE7 hW.cells (v := .tuple #[]) kz ?_
 refine ⟨_, rfl, fun a8 hE9 => ?_⟩
 have bj : EnvOk 99 [⟨bv, 0, [.int .i16 v, .string ByteArray.empty, .slice none 0 0, .map none], true⟩] [(20, .v (.tuple #[])), (0, .p 0 0), (1, .v (.slice A ((tDeleteShareGroupOffsetsRequest v T).length) c)), (2, .v (.bool false)), (19, .p 0 0)] _ := hE9.places (⟨rfl, rfl, trivial⟩)
 refine wpOps_nil (then_normal ?_)
 refine go_seq_region [0, 1, 2, 3] kz ?_
 refine go_rn [0, 1] [2, 3] [(0, .p 0 0), (2, .v (.bool false)), (22, .v (.agg #[.slice A ((tDeleteShareGroupOffsetsRequest v T).length) c, .bool false]))] hW bj fun df bk => ?_
 clear bj
 refine of_op (wpOp_alloc hW bk (d := 7) (cs := [.slice none 0 0, .bool false]) kz fun cL dg dh cS cT cU bn bo => ?_)
 clear bk hW
 refine of_op (wpOp_store bn bo (oi := 1) (cs := [.slice A ((tDeleteShareGroupOffsetsRequest v T).length) c, .bool false]) kz fun di cV aX cM => ?_)
 clear bo bn
 refine wpOps_nil (then_normal ?_)
 have bp := RS.start (F := F) (s := tDeleteShareGroupOffsetsRequest v T) aX cM (ho.move aX.step (fun b_ o_ h_ _ => hFd b_ o_ h_) (aX.immM hFd)) [(0, .p 1 0), (2, .v (.bool false)), (7, .p 0 0)]
 have cQ := hc
 have e26r := hR
 unfold canDeleteShareGroupOffsetsRequest at cQ
 obtain ⟨e26_0, ⟨e26_1, e26_1e⟩, e26_U, _⟩ := cQ
 obtain ⟨aw, bq⟩ : ∃ R, R = (if (decide (v ≥ 0)) = true then (uv T.U.length) ++ (tagsR T.U) else []) ++ ([] : Bs) := ⟨_, rfl⟩
 obtain ⟨cW, bt⟩ : ∃ R, R = ((if (decide (v ≥ 0)) = true then (uv ((lst (T.at_ 1)).length + 1)) else (be 4 (lst (T.at_ 1)).length)) ++ ((lst (T.at_ 1)).flatMap (tEDeleteShareGroupOffsetsRequestTopic v))) ++ aw := ⟨_, rfl⟩
 obtain ⟨cX, bu⟩ : ∃ R, R = (if (decide (v ≥ 0)) = true then (uv ((T.at_ 0).S.length + 1) ++ (T.at_ 0).S) else (be 2 (T.at_ 0).S.length ++ (T.at_ 0).S)) ++ cW := ⟨_, rfl⟩
 have bw := bp.cast (t := cX) (by rw [teDeleteShareGroupOffsetsRequest, bu, bt, bq]; unfold tEDeleteShareGroupOffsetsRequest_; simp only [List.append_assoc])
 clear bp
 refine wp_seq ?_
 refine rs_sr [(0, .p 1 0), (2, .v (.bool false)), (7, .p 0 0), (8, .v (.int .i16 v))] bw fun _ bx => ?_
 clear bw
 refine then_normal ?_
 refine wp_seq ?_
 refine rs_sr [(0, .p 1 0), (2, .v (.bool false)), (7, .p 0 0), (8, .v (.int .i16 v))] bx fun _ bz => ?_
 clear bx
 refine then_normal ?_
 refine wp_seq ?_
 refine rs_sr [(0, .p 1 0), (2, .v (.bool false)), (7, .p 0 0), (9, .v (.bool (decide (v ≥ 0))))] bz fun _ bA => ?_
 clear bz
 refine then_normal ?_
 refine wp_seq ?_
 refine rs_sr [(0, .p 1 0), (2, .v (.bool false)), (7, .p 0 0), (9, .v (.bool (decide (v ≥ 0))))] bA fun _ bB => ?_
 clear bA
 refine then_normal ?_
 refine wp_seq ?_
 refine rs_sr [(2, .v (.bool false)), (7, .p 0 0), (9, .v (.bool (decide (v ≥ 0)))), (10, .p 1 0)] bB fun _ bC => ?_
 clear bB
 refine then_normal ?_
 refine wp_seq ?_
 refine wp_seq ?_
 refine rs_sr [(2, .v (.bool false)), (7, .p 0 0), (9, .v (.bool (decide (v ≥ 0)))), (10, .p 1 0)] bC fun _ bD => ?_
 clear bC
 refine then_normal ?_
 refine wp_seq ?_
 refine wp_seq ?_
 refine rs_sr [(2, .v (.bool false)), (7, .p 0 0), (9, .v (.bool (decide (v ≥ 0)))), (10, .p 1 0), (32, .v (.bool false))] bD fun _ aY => then_normal ?_
 clear bD
 refine cond_false aY.env_ (b := false) kz (rfl) ?_
 have bE := aY.cast bu
 clear aY
 refine rs_alt0 (d1 := 37) (d2 := 38) [(2, .v (.bool false)), (7, .p 0 0), (9, .v (.bool (decide (v ≥ 0)))), (10, .p 1 0), (36, .v (.bool (decide (v ≥ 0))))] [(2, .v (.bool false)), (7, .p 0 0), (9, .v (.bool (decide (v ≥ 0)))), (10, .p 1 0), (11, .v (.string (bs (T.at_ 0).S)))] bE (pCompactString (T.at_ 0).S e26_0 _) Tryz.call180 (pString (T.at_ 0).S e26_0 _) Tryz.call181 fun _ _ bF => ?_
 clear bE
 refine then_normal ?_
 refine rs_sto [⟨bv, 0, [.int .i16 v, .string (bs (T.at_ 0).S), .slice none 0 0, .map none], true⟩] 0 [(2, .v (.bool false)), (7, .p 0 0), (9, .v (.bool (decide (v ≥ 0)))), (10, .p 1 0)] bF fun _ _ bG => ?_
 clear bF
 refine then_normal ?_
 refine wp_seq ?_
 refine wp_seq ?_
 refine rs_sr [(2, .v (.bool false)), (7, .p 0 0), (9, .v (.bool (decide (v ≥ 0)))), (10, .p 1 0), (12, .v (.slice none 0 0))] bG fun _ bH => ?_
 clear bG
 refine then_normal ?_
 refine wp_seq ?_
 refine rs_sr [(2, .v (.bool false)), (7, .p 0 0), (9, .v (.bool (decide (v ≥ 0)))), (10, .p 1 0), (13, .v (.slice none 0 0))] bH fun _ bI => ?_
 clear bH
 refine then_normal ?_
 refine wp_seq ?_
 refine rs_sr [(2, .v (.bool false)), (7, .p 0 0), (9, .v (.bool (decide (v ≥ 0)))), (10, .p 1 0), (13, .v (.slice none 0 0))] bI fun _ bJ => ?_
 clear bI
 refine then_normal ?_
 refine wp_seq ?_
 have bK := bJ.cast bt
 clear bJ
 have bL := bK.cast (t := (if (decide (v ≥ 0)) = true then (uv ((lst (T.at_ 1)).length + 1)) else (be 4 (lst (T.at_ 1)).length)) ++ (((lst (T.at_ 1)).flatMap (tEDeleteShareGroupOffsetsRequestTopic v)) ++ aw)) (by rw [List.append_assoc])
 clear bK
 refine rs_alt0 (d1 := 49) (d2 := 50) [(2, .v (.bool false)), (7, .p 0 0), (9, .v (.bool (decide (v ≥ 0)))), (10, .p 1 0), (13, .v (.slice none 0 0)), (48, .v (.bool (decide (v ≥ 0))))] [(2, .v (.bool false)), (7, .p 0 0), (9, .v (.bool (decide (v ≥ 0)))), (10, .p 1 0), (13, .v (.slice none 0 0)), (14, .v (.int .i32 (((lst (T.at_ 1)).length : Nat) : Int)))] bL (pCompactArrayLen ((lst (T.at_ 1)).length) e26_1 _ (flat_ge' (posDeleteShareGroupOffsetsRequestTopic v) _)) Tryz.call173 (pArrayLen ((lst (T.at_ 1)).length) e26_1 _ (flat_ge' (posDeleteShareGroupOffsetsRequestTopic v) _)) Tryz.call174 fun _ _ bM => ?_
 clear bL
 refine then_normal ?_
 refine wp_seq ?_
 refine wp_seq ?_
 refine rs_ok (d := 51) [(2, .v (.bool false)), (7, .p 0 0), (9, .v (.bool (decide (v ≥ 0)))), (10, .p 1 0), (13, .v (.slice none 0 0)), (14, .v (.int .i32 (((lst (T.at_ 1)).length : Nat) : Int))), (52, .v (.bool false))] bM (pOk _) Tryz.call175 fun _ _ aZ => ?_
 clear bM
 refine then_normal ?_
 refine cond_false aZ.env_ (b := false) kz (rfl) ?_
 refine wp_skip ?_
 refine then_normal ?_
 refine wp_seq ?_
 refine rs_cut0 (t := 121) (e := 127) (size := 2) (bytes := 24) (d := 55) (A0 := none) (m := 0) (cp := 0) [(2, .v (.bool false)), (7, .p 0 0), (9, .v (.bool (decide (v ≥ 0)))), (10, .p 1 0), (14, .v (.int .i32 (((lst (T.at_ 1)).length : Nat) : Int))), (54, .v (.slice none 0 0))] [(2, .v (.bool false)), (7, .p 0 0), (9, .v (.bool (decide (v ≥ 0)))), (10, .p 1 0), (13, .v (.slice none 0 0)), (14, .v (.int .i32 (((lst (T.at_ 1)).length : Nat) : Int)))] 1 aZ fun _ bN => ?_
 clear aZ
 refine then_normal ?_
 refine wp_join2 (Mid := fun a_ w_ => ∃ (ae : DV) (P' : FactW), (∀ w F, P' w F → noF w F ∧ (Slots w F 2 ae.A ae.c ae.l (fun i => [.string (((ae.f i).f 0).s), .map ((ae.f i).m)]) ∧ ae.l ≤ 1000000 ∧ ∀ i, i < ae.l → okDeleteShareGroupOffsetsRequestTopic w F (ae.f i)) ∧ (ae.l = (lst (T.at_ 1)).length ∧ ∀ i, i < ae.l → rvDeleteShareGroupOffsetsRequestTopic v (ae.f i) ((lst (T.at_ 1)).getD i .zero))) ∧ RS w (fun b o => b = bv ∧ o < 4) F 99 cL [⟨bv, 0, [.int .i16 v, .string (bs (T.at_ 0).S), .slice none 0 0, .map none], true⟩] [(7, .p 0 0), (9, .v (.bool (decide (v ≥ 0)))), (10, .p 1 0), (13, .v (.slice ae.A ae.l ae.c))] P' aw a_ w_) ?_ ?_
 ·
  refine wp_seq ?_
  refine rs_sr [(2, .v (.bool false)), (7, .p 0 0), (9, .v (.bool (decide (v ≥ 0)))), (10, .p 1 0), (13, .v (.slice none 0 0)), (14, .v (.int .i32 (((lst (T.at_ 1)).length : Nat) : Int))), (57, .v (.bool (decide ((((lst (T.at_ 1)).length : Nat) : Int) > 0))))] bN fun _ ap => then_normal ?_
  clear bN
  refine cond_of ap.env_ (b := decide ((((lst (T.at_ 1)).length : Nat) : Int) > 0)) kz (fun ar => ?_) (fun ar => ?_)
  ·
   have hn_g61 : 0 < (lst (T.at_ 1)).length := by have h_ := of_decide_eq_true ar; omega
   refine go_region [0, 1, 2, 3] kz ?_
   refine rs_rn [0, 1] [2, 3] [(2, .v (.bool false)), (7, .p 0 0), (9, .v (.bool (decide (v ≥ 0)))), (10, .p 1 0), (14, .v (.int .i32 (((lst (T.at_ 1)).length : Nat) : Int))), (58, .v (.slice none 0 0)), (59, .v (.int .i32 (((lst (T.at_ 1)).length : Nat) : Int)))] ap fun _ bO => ?_
   clear ap
   refine of_op (rs_appendZ (d := 60) (t := 121) (tn := 21) (e := 127) (size := 2) (bytes := 24) (k := .i32) (kn := .i32) (q := (((lst (T.at_ 1)).length : Nat) : Int)) (j := (lst (T.at_ 1)).length) (.agg #[.string ByteArray.empty, .map none]) bO (fun aa ac _ _ hg_g61 hcap_g61 bP => ?_) rfl hn_g61 (by have := e26_1; omega))
   clear bO
   refine rs_rn [3] [] [(2, .v (.bool false)), (7, .p 0 0), (9, .v (.bool (decide (v ≥ 0)))), (10, .p 1 0), (13, .v (.slice (some ⟨aa, 0, none⟩) ((lst (T.at_ 1)).length) ac)), (14, .v (.int .i32 (((lst (T.at_ 1)).length : Nat) : Int)))] bP fun _ bQ => wpOps_nil ?_
   clear bP
   refine then_normal ?_
   refine wp_seq ?_
   refine rs_sr [(2, .v (.bool false)), (7, .p 0 0), (9, .v (.bool (decide (v ≥ 0)))), (10, .p 1 0), (13, .v (.slice (some ⟨aa, 0, none⟩) ((lst (T.at_ 1)).length) ac)), (14, .v (.int .i32 (((lst (T.at_ 1)).length : Nat) : Int))), (15, .v (.int .i32 0))] bQ fun _ ba => ?_
   clear bQ
   refine then_normal ?_
   refine wp_block ?_
   have ax := ba.mv
   have cN := (ba.cast (t := (lst (T.at_ 1)).flatMap (tEDeleteShareGroupOffsetsRequestTopic v) ++ aw) rfl).pk (env' := [(2, .v (.bool false)), (7, .p 0 0), (9, .v (.bool (decide (v ≥ 0)))), (10, .p 1 0), (13, .v (.slice (some ⟨aa, 0, none⟩) ((lst (T.at_ 1)).length) ac)), (14, .v (.int .i32 (((lst (T.at_ 1)).length : Nat) : Int))), (15, .v (.int .i32 ((0 : Nat) : Int)))])
   clear ba
   refine rs_loop (tb := [⟨bv, 0, [.int .i16 v, .string (bs (T.at_ 0).S), .slice none 0 0, .map none], true⟩]) (z := .agg #[.string ByteArray.empty, .map none]) (cl := clDeleteShareGroupOffsetsRequestTopic) (ok := okDeleteShareGroupOffsetsRequestTopic) (rel := (rvDeleteShareGroupOffsetsRequestTopic v)) (L := lst (T.at_ 1)) (size := 2) (tEDeleteShareGroupOffsetsRequestTopic v) aw (fun k => [(2, .v (.bool false)), (7, .p 0 0), (9, .v (.bool (decide (v ≥ 0)))), (10, .p 1 0), (13, .v (.slice (some ⟨aa, 0, none⟩) ((lst (T.at_ 1)).length) ac)), (14, .v (.int .i32 (((lst (T.at_ 1)).length : Nat) : Int))), (15, .v (.int .i32 ((k : Nat) : Int)))]) cN mvDeleteShareGroupOffsetsRequestTopic (fun ab af _ _ bd cO bR => ?_) (fun _ _ bS => ?_)
   ·
    obtain ⟨cY, bT, bU⟩ : ∃ P', (∀ w F, P' w F → (noF w F ∧ doneF aa 2 clDeleteShareGroupOffsetsRequestTopic okDeleteShareGroupOffsetsRequestTopic (rvDeleteShareGroupOffsetsRequestTopic v) (lst (T.at_ 1)) ab w F)) ∧ RS w (fun b o => b = bv ∧ o < 4) F 99 cL [⟨bv, 0, [.int .i16 v, .string (bs (T.at_ 0).S), .slice none 0 0, .map none], true⟩, restO aa 2 (.agg #[.string ByteArray.empty, .map none]) ((lst (T.at_ 1)).length) ab] [(2, .v (.bool false)), (7, .p 0 0), (9, .v (.bool (decide (v ≥ 0)))), (10, .p 1 0), (13, .v (.slice (some ⟨aa, 0, none⟩) ((lst (T.at_ 1)).length) ac)), (14, .v (.int .i32 (((lst (T.at_ 1)).length : Nat) : Int))), (15, .v (.int .i32 ((ab : Nat) : Int)))] P' ((tEDeleteShareGroupOffsetsRequestTopic v) af ++ (((lst (T.at_ 1)).drop (ab + 1)).flatMap (tEDeleteShareGroupOffsetsRequestTopic v) ++ aw)) _ _ := ⟨_, fun _ _ h => h, bR⟩
    clear bR
    obtain ⟨bV, bW⟩ : ∃ R, R = ((lst (T.at_ 1)).drop (ab + 1)).flatMap (tEDeleteShareGroupOffsetsRequestTopic v) ++ aw := ⟨_, rfl⟩
    have cR := (e26_1e af (List.mem_of_getElem? bd))
    have e80r := (ranged_lst (ranged_at e26r 1) af (List.mem_of_getElem? bd))
    unfold canDeleteShareGroupOffsetsRequestTopic at cR
    obtain ⟨e80_0, e80_U, _⟩ := cR
    obtain ⟨cZ, bX⟩ : ∃ R, R = (if (decide (v ≥ 0)) = true then (uv af.U.length) ++ (tagsR af.U) else []) ++ bV := ⟨_, rfl⟩
    obtain ⟨c5, bY⟩ : ∃ R, R = (if (decide (v ≥ 0)) = true then (uv ((af.at_ 0).S.length + 1) ++ (af.at_ 0).S) else (be 2 (af.at_ 0).S.length ++ (af.at_ 0).S)) ++ cZ := ⟨_, rfl⟩
    have bZ := bU.cast (t := c5) (by rw [bY, bX, ← bW]; unfold tEDeleteShareGroupOffsetsRequestTopic; simp only [List.append_assoc])
    clear bU
    refine wp_seq ?_
    refine wp_seq ?_
    refine rs_sr [(2, .v (.bool false)), (7, .p 0 0), (9, .v (.bool (decide (v ≥ 0)))), (10, .p 1 0), (13, .v (.slice (some ⟨aa, 0, none⟩) ((lst (T.at_ 1)).length) ac)), (14, .v (.int .i32 (((lst (T.at_ 1)).length : Nat) : Int))), (15, .v (.int .i32 ((ab : Nat) : Int))), (63, .v (.bool (decide (((ab : Nat) : Int) < (((lst (T.at_ 1)).length : Nat) : Int)))))] bZ fun _ bf => then_normal ?_
    clear bZ
    refine cond_true bf.env_ (b := decide (((ab : Nat) : Int) < (((lst (T.at_ 1)).length : Nat) : Int))) kz (decide_eq_true (by omega)) ?_
    refine wp_skip ?_
    refine then_normal ?_
    refine wp_seq ?_
    refine wp_block ?_
    refine wp_seq ?_
    refine rs_elem (t := 121) (e := 127) (size := 2) (bytes := 24) (d := 68) (tb := [⟨bv, 0, [.int .i16 v, .string (bs (T.at_ 0).S), .slice none 0 0, .map none], true⟩]) (z := .agg #[.string ByteArray.empty, .map none]) [(2, .v (.bool false)), (7, .p 0 0), (9, .v (.bool (decide (v ≥ 0)))), (10, .p 1 0), (13, .v (.slice (some ⟨aa, 0, none⟩) ((lst (T.at_ 1)).length) ac)), (14, .v (.int .i32 (((lst (T.at_ 1)).length : Nat) : Int))), (15, .v (.int .i32 ((ab : Nat) : Int))), (66, .v (.slice (some ⟨aa, 0, none⟩) ((lst (T.at_ 1)).length) ac)), (67, .v (.int .i32 ((ab : Nat) : Int)))] [(2, .v (.bool false)), (7, .p 0 0), (9, .v (.bool (decide (v ≥ 0)))), (10, .p 1 0), (13, .v (.slice (some ⟨aa, 0, none⟩) ((lst (T.at_ 1)).length) ac)), (14, .v (.int .i32 (((lst (T.at_ 1)).length : Nat) : Int))), (15, .v (.int .i32 ((ab : Nat) : Int))), (16, .p 3 0)] 2 bf cO rfl kz fun _ b8 => ?_
    clear bf
    have cd := b8.tbEq (tb' := [⟨bv, 0, [.int .i16 v, .string (bs (T.at_ 0).S), .slice none 0 0, .map none], true⟩, restO aa 2 (.agg #[.string ByteArray.empty, .map none]) ((lst (T.at_ 1)).length) (ab + 1), ⟨aa, ab * 2, [.string ByteArray.empty, .map none], true⟩]) rfl
    clear b8
    refine then_normal ?_
    refine wp_seq ?_
    refine go_region [0, 1] kz ?_
    refine rs_rn [0] [1] [(2, .v (.bool false)), (7, .p 0 0), (9, .v (.bool (decide (v ≥ 0)))), (10, .p 1 0), (13, .v (.slice (some ⟨aa, 0, none⟩) ((lst (T.at_ 1)).length) ac)), (14, .v (.int .i32 (((lst (T.at_ 1)).length : Nat) : Int))), (15, .v (.int .i32 ((ab : Nat) : Int))), (16, .p 3 0), (69, .p 3 0)] cd fun _ ce => ?_
    clear cd
    refine of_op (rs_nop (d := 70) (vs := [.pointer (some ⟨aa, ab * 2, none⟩)]) ce (fun _ => nop188 _ _ _) Tryz.call188 fun _ cm => ?_)
    clear ce
    refine wpOps_nil ?_
    have cq := cm.pk (env' := [(2, .v (.bool false)), (7, .p 0 0), (9, .v (.bool (decide (v ≥ 0)))), (10, .p 1 0), (13, .v (.slice (some ⟨aa, 0, none⟩) ((lst (T.at_ 1)).length) ac)), (14, .v (.int .i32 (((lst (T.at_ 1)).length : Nat) : Int))), (15, .v (.int .i32 ((ab : Nat) : Int))), (16, .p 3 0)])
    clear cm
    refine then_normal ?_
    refine wp_seq ?_
    refine rs_sr [(2, .v (.bool false)), (7, .p 0 0), (9, .v (.bool (decide (v ≥ 0)))), (10, .p 1 0), (13, .v (.slice (some ⟨aa, 0, none⟩) ((lst (T.at_ 1)).length) ac)), (14, .v (.int .i32 (((lst (T.at_ 1)).length : Nat) : Int))), (15, .v (.int .i32 ((ab : Nat) : Int))), (17, .p 3 0)] cq fun _ cr => ?_
    clear cq
    refine then_normal ?_
    refine wp_seq ?_
    refine wp_seq ?_
    refine rs_sr [(2, .v (.bool false)), (7, .p 0 0), (9, .v (.bool (decide (v ≥ 0)))), (10, .p 1 0), (13, .v (.slice (some ⟨aa, 0, none⟩) ((lst (T.at_ 1)).length) ac)), (14, .v (.int .i32 (((lst (T.at_ 1)).length : Nat) : Int))), (15, .v (.int .i32 ((ab : Nat) : Int))), (17, .p 3 0)] cr fun _ cu => ?_
    clear cr
    refine then_normal ?_
    refine wp_seq ?_
    refine wp_seq ?_
    refine rs_sr [(2, .v (.bool false)), (7, .p 0 0), (9, .v (.bool (decide (v ≥ 0)))), (10, .p 1 0), (13, .v (.slice (some ⟨aa, 0, none⟩) ((lst (T.at_ 1)).length) ac)), (14, .v (.int .i32 (((lst (T.at_ 1)).length : Nat) : Int))), (15, .v (.int .i32 ((ab : Nat) : Int))), (17, .p 3 0), (72, .v (.bool false))] cu fun _ bg => then_normal ?_
    clear cu
    refine cond_false bg.env_ (b := false) kz (rfl) ?_
    have cw := bg.cast bY
    clear bg
    refine rs_alt0 (d1 := 77) (d2 := 78) [(2, .v (.bool false)), (7, .p 0 0), (9, .v (.bool (decide (v ≥ 0)))), (10, .p 1 0), (13, .v (.slice (some ⟨aa, 0, none⟩) ((lst (T.at_ 1)).length) ac)), (14, .v (.int .i32 (((lst (T.at_ 1)).length : Nat) : Int))), (15, .v (.int .i32 ((ab : Nat) : Int))), (17, .p 3 0), (76, .v (.bool (decide (v ≥ 0))))] [(2, .v (.bool false)), (7, .p 0 0), (9, .v (.bool (decide (v ≥ 0)))), (10, .p 1 0), (13, .v (.slice (some ⟨aa, 0, none⟩) ((lst (T.at_ 1)).length) ac)), (14, .v (.int .i32 (((lst (T.at_ 1)).length : Nat) : Int))), (15, .v (.int .i32 ((ab : Nat) : Int))), (17, .p 3 0), (18, .v (.string (bs (af.at_ 0).S)))] cw (pCompactString (af.at_ 0).S e80_0 _) Tryz.call180 (pString (af.at_ 0).S e80_0 _) Tryz.call181 fun _ _ cz => ?_
    clear cw
    refine then_normal ?_
    refine rs_sto [⟨bv, 0, [.int .i16 v, .string (bs (T.at_ 0).S), .slice none 0 0, .map none], true⟩, restO aa 2 (.agg #[.string ByteArray.empty, .map none]) ((lst (T.at_ 1)).length) (ab + 1), ⟨aa, ab * 2, [.string (bs (af.at_ 0).S), .map none], true⟩] 2 [(2, .v (.bool false)), (7, .p 0 0), (9, .v (.bool (decide (v ≥ 0)))), (10, .p 1 0), (13, .v (.slice (some ⟨aa, 0, none⟩) ((lst (T.at_ 1)).length) ac)), (14, .v (.int .i32 (((lst (T.at_ 1)).length : Nat) : Int))), (15, .v (.int .i32 ((ab : Nat) : Int))), (17, .p 3 0)] cz fun _ _ cA => ?_
    clear cz
    refine then_normal ?_
    have cB := cA.cast bX
    clear cA
    refine wp_joinN (Mid := fun a_ w_ => ∃ (au : Option Nat) (am : List (Int × Bs)) (P' : FactW), (∀ w F, P' w F → cY w F ∧ (MapR w F au am ∧ am.length ≤ 1000000 ∧ ∀ x ∈ am, x.2.length < 4294967296) ∧ ((decide (v ≥ 0)) = true → am = af.U) ∧ ((decide (v ≥ 0)) = false → am = [])) ∧ RS w (fun b o => b = bv ∧ o < 4) F 99 cL [⟨bv, 0, [.int .i16 v, .string (bs (T.at_ 0).S), .slice none 0 0, .map none], true⟩, restO aa 2 (.agg #[.string ByteArray.empty, .map none]) ((lst (T.at_ 1)).length) (ab + 1), ⟨aa, ab * 2, [.string (bs (af.at_ 0).S), .map au], true⟩] [(2, .v (.bool false)), (7, .p 0 0), (9, .v (.bool (decide (v ≥ 0)))), (10, .p 1 0), (13, .v (.slice (some ⟨aa, 0, none⟩) ((lst (T.at_ 1)).length) ac)), (14, .v (.int .i32 (((lst (T.at_ 1)).length : Nat) : Int))), (15, .v (.int .i32 ((ab : Nat) : Int)))] P' bV a_ w_) ?_ ?_
    ·
     refine wp_seq ?_
     refine rs_sr [(2, .v (.bool false)), (7, .p 0 0), (9, .v (.bool (decide (v ≥ 0)))), (10, .p 1 0), (13, .v (.slice (some ⟨aa, 0, none⟩) ((lst (T.at_ 1)).length) ac)), (14, .v (.int .i32 (((lst (T.at_ 1)).length : Nat) : Int))), (15, .v (.int .i32 ((ab : Nat) : Int))), (17, .p 3 0), (83, .v (.bool (decide (v ≥ 0))))] cB fun _ ai => then_normal ?_
     clear cB
     refine cond_of ai.env_ (b := decide (v ≥ 0)) kz (fun aj => ?_) (fun aj => ?_)
     ·
      have ay := ai.cast (t := ((uv af.U.length) ++ (tagsR af.U)) ++ bV) (by rw [if_pos aj])
      clear ai
      refine go_region [0, 1, 2, 3, 4] kz ?_
      refine rs_rn [0] [1, 2, 3, 4] [(2, .v (.bool false)), (7, .p 0 0), (9, .v (.bool (decide (v ≥ 0)))), (10, .p 1 0), (13, .v (.slice (some ⟨aa, 0, none⟩) ((lst (T.at_ 1)).length) ac)), (14, .v (.int .i32 (((lst (T.at_ 1)).length : Nat) : Int))), (15, .v (.int .i32 ((ab : Nat) : Int))), (84, .p 3 0)] ay fun _ az => ?_
      clear ay
      refine of_op (rs_call (d := 85) az (pTags af.U e80_U (ranged_U e80r) _) (fun _ => MvF.tags _ _) Tryz.call182 fun bh c6 _ _ aA aB => ?_)
      clear az
      refine rs_rn [2, 3] [4] [(2, .v (.bool false)), (7, .p 0 0), (9, .v (.bool (decide (v ≥ 0)))), (10, .p 1 0), (13, .v (.slice (some ⟨aa, 0, none⟩) ((lst (T.at_ 1)).length) ac)), (14, .v (.int .i32 (((lst (T.at_ 1)).length : Nat) : Int))), (15, .v (.int .i32 ((ab : Nat) : Int))), (85, .v (.agg #[.map bh])), (87, .p 3 1)] aB fun _ aC => ?_
      clear aB
      refine of_op (rs_store [⟨bv, 0, [.int .i16 v, .string (bs (T.at_ 0).S), .slice none 0 0, .map none], true⟩, restO aa 2 (.agg #[.string ByteArray.empty, .map none]) ((lst (T.at_ 1)).length) (ab + 1), ⟨aa, ab * 2, [.string (bs (af.at_ 0).S), .map bh], true⟩] 2 aC fun _ aD => ?_)
      clear aC
      refine wpOps_nil ?_
      have cC := aD.pk (env' := [(2, .v (.bool false)), (7, .p 0 0), (9, .v (.bool (decide (v ≥ 0)))), (10, .p 1 0), (13, .v (.slice (some ⟨aa, 0, none⟩) ((lst (T.at_ 1)).length) ac)), (14, .v (.int .i32 (((lst (T.at_ 1)).length : Nat) : Int))), (15, .v (.int .i32 ((ab : Nat) : Int)))])
      clear aD
      refine then_normal ?_
      exact ⟨bh, af.U, _, fun w F h_ => ⟨(aA _ _ h_).1, ⟨(aA _ _ h_).2, e80_U.2.1, e80_U.2.2⟩, ⟨fun _ => rfl, (fun e_ => by rw [aj] at e_; cases e_)⟩⟩, cC.pk (env' := [(2, .v (.bool false)), (7, .p 0 0), (9, .v (.bool (decide (v ≥ 0)))), (10, .p 1 0), (13, .v (.slice (some ⟨aa, 0, none⟩) ((lst (T.at_ 1)).length) ac)), (14, .v (.int .i32 (((lst (T.at_ 1)).length : Nat) : Int))), (15, .v (.int .i32 ((ab : Nat) : Int)))])⟩
     ·
      have aE := ai.cast (t := [] ++ bV) (by rw [if_neg (by rw [aj]; decide)])
      clear ai
      have cD := aE.cast (t := bV) rfl
      clear aE
      refine wp_skip (then_normal ?_)
      exact ⟨none, [], _, fun w F h_ => ⟨h_, ⟨MapR.nil _ _, Nat.zero_le _, fun _ h => by cases h⟩, ⟨(fun e_ => by rw [aj] at e_; cases e_), fun _ => rfl⟩⟩, cD.pk (env' := [(2, .v (.bool false)), (7, .p 0 0), (9, .v (.bool (decide (v ≥ 0)))), (10, .p 1 0), (13, .v (.slice (some ⟨aa, 0, none⟩) ((lst (T.at_ 1)).length) ac)), (14, .v (.int .i32 (((lst (T.at_ 1)).length : Nat) : Int))), (15, .v (.int .i32 ((ab : Nat) : Int)))])⟩
    rintro _ _ ⟨au, am, da, ag, aF⟩
    refine block_normal ?_
    refine then_normal ?_
    refine rs_sr [(2, .v (.bool false)), (7, .p 0 0), (9, .v (.bool (decide (v ≥ 0)))), (10, .p 1 0), (13, .v (.slice (some ⟨aa, 0, none⟩) ((lst (T.at_ 1)).length) ac)), (14, .v (.int .i32 (((lst (T.at_ 1)).length : Nat) : Int))), (15, .v (.int .i32 (IntKind.i32.wrap (((ab : Nat) : Int) + 1))))] aF fun _ aG => ?_
    clear aF
    refine then_normal ?_
    have cE := (aG.envEq (env' := [(2, .v (.bool false)), (7, .p 0 0), (9, .v (.bool (decide (v ≥ 0)))), (10, .p 1 0), (13, .v (.slice (some ⟨aa, 0, none⟩) ((lst (T.at_ 1)).length) ac)), (14, .v (.int .i32 (((lst (T.at_ 1)).length : Nat) : Int))), (15, .v (.int .i32 ((ab + 1 : Nat) : Int)))]) (by rw [i32_succ (by have := e26_1; omega)])).pk (env' := [(2, .v (.bool false)), (7, .p 0 0), (9, .v (.bool (decide (v ≥ 0)))), (10, .p 1 0), (13, .v (.slice (some ⟨aa, 0, none⟩) ((lst (T.at_ 1)).length) ac)), (14, .v (.int .i32 (((lst (T.at_ 1)).length : Nat) : Int))), (15, .v (.int .i32 ((ab + 1 : Nat) : Int)))])
    clear aG
    exact (RS.thing (tb := [⟨bv, 0, [.int .i16 v, .string (bs (T.at_ 0).S), .slice none 0 0, .map none], true⟩]) (z := .agg #[.string ByteArray.empty, .map none]) (D := (dvP au am [dvS (bs (af.at_ 0).S)])) (cE.cast bW) hg_g61 bd mvDeleteShareGroupOffsetsRequestTopic ax rfl (fun w F h_ => ⟨(bT _ _ (ag _ _ h_).1).1, (bT _ _ (ag _ _ h_).1).2, ⟨(by show ByteArray.size (bs _) ≤ 1000000; rw [bs_size]; exact Nat.le_trans e80_0 (by decide)), (ag _ _ h_).2.1.1, (ag _ _ h_).2.1.2.1, (ag _ _ h_).2.1.2.2, trivial⟩, ⟨(rfl), (ag _ _ h_).2.2, trivial⟩⟩) kz)
   ·
    refine wp_seq ?_
    refine wp_seq ?_
    refine rs_sr [(2, .v (.bool false)), (7, .p 0 0), (9, .v (.bool (decide (v ≥ 0)))), (10, .p 1 0), (13, .v (.slice (some ⟨aa, 0, none⟩) ((lst (T.at_ 1)).length) ac)), (14, .v (.int .i32 (((lst (T.at_ 1)).length : Nat) : Int))), (15, .v (.int .i32 (((lst (T.at_ 1)).length : Nat) : Int))), (63, .v (.bool (decide ((((lst (T.at_ 1)).length : Nat) : Int) < (((lst (T.at_ 1)).length : Nat) : Int)))))] bS fun _ aH => then_normal ?_
    clear bS
    refine cond_false aH.env_ (b := decide ((((lst (T.at_ 1)).length : Nat) : Int) < (((lst (T.at_ 1)).length : Nat) : Int))) kz (decide_eq_false (by omega)) ?_
    refine wp_exit ?_
    refine then_exit ?_
    refine then_exit ?_
    refine block_exit ?_
    refine then_normal ?_
    obtain ⟨cP, cG⟩ := RS.listEnd (tb := [⟨bv, 0, [.int .i16 v, .string (bs (T.at_ 0).S), .slice none 0 0, .map none], true⟩]) (c := ac) (aH.pk (env' := [(7, .p 0 0), (9, .v (.bool (decide (v ≥ 0)))), (10, .p 1 0), (13, .v (.slice (some ⟨aa, 0, none⟩) ((lst (T.at_ 1)).length) ac))])) hg_g61 mvDeleteShareGroupOffsetsRequestTopic ax hcap_g61 (by have := e26_1; omega) hn_g61 kz
    exact ⟨dvL (some ⟨aa, 0, none⟩) (lst (T.at_ 1)).length ac cP, _, fun w F h_ => ⟨h_.1, ⟨h_.2.1, Nat.le_trans e26_1 (by decide), h_.2.2.1⟩, ⟨rfl, h_.2.2.2⟩⟩, cG⟩
  ·
   refine wp_skip ?_
   refine then_normal ?_
   refine wp_seq ?_
   refine rs_sr [(2, .v (.bool false)), (7, .p 0 0), (9, .v (.bool (decide (v ≥ 0)))), (10, .p 1 0), (13, .v (.slice none 0 0)), (14, .v (.int .i32 (((lst (T.at_ 1)).length : Nat) : Int))), (15, .v (.int .i32 0))] ap fun _ aI => ?_
   clear ap
   refine then_normal ?_
   refine wp_block ?_
   refine loop_out ?_
   refine wp_seq ?_
   refine wp_seq ?_
   refine rs_sr [(2, .v (.bool false)), (7, .p 0 0), (9, .v (.bool (decide (v ≥ 0)))), (10, .p 1 0), (13, .v (.slice none 0 0)), (14, .v (.int .i32 (((lst (T.at_ 1)).length : Nat) : Int))), (15, .v (.int .i32 0)), (63, .v (.bool (decide (0 < (((lst (T.at_ 1)).length : Nat) : Int)))))] aI fun _ aJ => then_normal ?_
   clear aI
   refine cond_false aJ.env_ (b := decide (0 < (((lst (T.at_ 1)).length : Nat) : Int))) kz (decide_eq_false (by have h_ := of_decide_eq_false ar; omega)) ?_
   refine wp_exit ?_
   refine then_exit ?_
   refine then_exit ?_
   refine block_exit ?_
   refine then_normal ?_
   have hz_ : (lst (T.at_ 1)).length = 0 := by have h_ := of_decide_eq_false ar; omega
   exact ⟨dvL none 0 0 (fun _ => dv0), _, fun w F h_ => ⟨h_, ⟨Slots.nil _ _ _ _, Nat.zero_le _, fun _ h => absurd h (Nat.not_lt_zero _)⟩, ⟨hz_.symm, fun _ h => absurd h (Nat.not_lt_zero _)⟩⟩, (aJ.cast (t := aw) (by rw [List.eq_nil_of_length_eq_zero hz_]; rfl)).pk (env' := [(7, .p 0 0), (9, .v (.bool (decide (v ≥ 0)))), (10, .p 1 0), (13, .v (.slice none 0 0))])⟩
 rintro _ _ ⟨ae, db, cH, cI⟩
 refine wp_seq ?_
 refine rs_sr [(7, .p 0 0), (9, .v (.bool (decide (v ≥ 0)))), (10, .p 1 0), (12, .v (.slice ae.A ae.l ae.c))] cI fun _ aK => ?_
 clear cI
 refine then_normal ?_
 refine rs_sto [⟨bv, 0, [.int .i16 v, .string (bs (T.at_ 0).S), .slice ae.A ae.l ae.c, .map none], true⟩] 0 [(7, .p 0 0), (9, .v (.bool (decide (v ≥ 0)))), (10, .p 1 0)] aK fun _ _ aL => ?_
 clear aK
 refine then_normal ?_
 refine wp_seq ?_
 have aM := aL.cast bq
 clear aL
 refine wp_joinN (Mid := fun a_ w_ => ∃ (av : Option Nat) (ao : List (Int × Bs)) (P' : FactW), (∀ w F, P' w F → db w F ∧ (MapR w F av ao ∧ ao.length ≤ 1000000 ∧ ∀ x ∈ ao, x.2.length < 4294967296) ∧ ((decide (v ≥ 0)) = true → ao = T.U) ∧ ((decide (v ≥ 0)) = false → ao = [])) ∧ RS w (fun b o => b = bv ∧ o < 4) F 99 cL [⟨bv, 0, [.int .i16 v, .string (bs (T.at_ 0).S), .slice ae.A ae.l ae.c, .map av], true⟩] [(7, .p 0 0)] P' ([] : Bs) a_ w_) ?_ ?_
 ·
  refine wp_seq ?_
  refine rs_sr [(7, .p 0 0), (10, .p 1 0), (93, .v (.bool (decide (v ≥ 0))))] aM fun _ ak => then_normal ?_
  clear aM
  refine cond_of ak.env_ (b := decide (v ≥ 0)) kz (fun al => ?_) (fun al => ?_)
  ·
   have aN := ak.cast (t := ((uv T.U.length) ++ (tagsR T.U)) ++ ([] : Bs)) (by rw [if_pos al])
   clear ak
   refine go_region [0, 1, 2, 3, 4] kz ?_
   refine rs_rn [0] [1, 2, 3, 4] [(7, .p 0 0), (94, .p 1 0)] aN fun _ aO => ?_
   clear aN
   refine of_op (rs_call (d := 95) aO (pTags T.U e26_U (ranged_U e26r) _) (fun _ => MvF.tags _ _) Tryz.call182 fun bi dc _ _ aP aQ => ?_)
   clear aO
   refine rs_rn [2, 3] [4] [(7, .p 0 0), (95, .v (.agg #[.map bi])), (97, .p 1 3)] aQ fun _ aR => ?_
   clear aQ
   refine of_op (rs_store [⟨bv, 0, [.int .i16 v, .string (bs (T.at_ 0).S), .slice ae.A ae.l ae.c, .map bi], true⟩] 0 aR fun _ aS => ?_)
   clear aR
   refine wpOps_nil ?_
   have cJ := aS.pk (env' := [(7, .p 0 0)])
   clear aS
   refine then_normal ?_
   exact ⟨bi, T.U, _, fun w F h_ => ⟨(aP _ _ h_).1, ⟨(aP _ _ h_).2, e26_U.2.1, e26_U.2.2⟩, ⟨fun _ => rfl, (fun e_ => by rw [al] at e_; cases e_)⟩⟩, cJ.pk (env' := [(7, .p 0 0)])⟩
  ·
   have aT := ak.cast (t := [] ++ ([] : Bs)) (by rw [if_neg (by rw [al]; decide)])
   clear ak
   have cK := aT.cast (t := ([] : Bs)) rfl
   clear aT
   refine wp_skip (then_normal ?_)
   exact ⟨none, [], _, fun w F h_ => ⟨h_, ⟨MapR.nil _ _, Nat.zero_le _, fun _ h => by cases h⟩, ⟨(fun e_ => by rw [al] at e_; cases e_), fun _ => rfl⟩⟩, cK.pk (env' := [(7, .p 0 0)])⟩
 rintro _ _ ⟨av, ao, de, ah, aU⟩
 refine then_normal ?_
 refine wp_seq ?_
 refine go_region [0, 1] kz (of_op (rs_complete (d := 98) aU rComplete Tryz.call176 fun _ aV => ?_))
 clear aU
 refine rs_rn [1] [] [(6, .v (.nilIface))] aV fun _ aW => wpOps_nil ?_
 clear aV
 refine then_normal ?_
 refine wp_ret ?_
 obtain ⟨A_, m_, c_, hW_, hr_, hE_, hP_⟩ := aW.open_
 refine leave hE_ hW_.cells (v := .nilIface) kz ?_
 have h_ := aW.mv.mono immOut hP_
 refine ⟨(dvP av ao [dvS (bs (T.at_ 0).S), ae]), rfl, Str.of hW_ 1 rfl, ?_, ?_, hW_.step⟩
 ·unfold okDeleteShareGroupOffsetsRequest
  exact ⟨(by show ByteArray.size (bs _) ≤ 1000000; rw [bs_size]; exact Nat.le_trans e26_0 (by decide)), ((cH _ _ (ah _ _ h_).1).2.1), (ah _ _ h_).2.1.1, (ah _ _ h_).2.1.2.1, (ah _ _ h_).2.1.2.2, trivial⟩
 ·unfold rvDeleteShareGroupOffsetsRequest
  exact ⟨(rfl), ((cH _ _ (ah _ _ h_).1).2.2), (ah _ _ h_).2.2, trivial⟩
theorem mvDeleteShareGroupOffsetsRequest : Moves okDeleteShareGroupOffsetsRequest := by
 intro w w' F F' M d hs hM hF h
 unfold okDeleteShareGroupOffsetsRequest at h ⊢
 obtain ⟨g0, ⟨g1, g1l, g1e⟩, t1, t2, t3, _⟩ := h
 exact ⟨g0, ⟨g1.move hs hM hF, g1l, fun i hi => mvDeleteShareGroupOffsetsRequestTopic _ hs hM hF (g1e i hi)⟩, t1.move hs hM hF, t2, t3, trivial⟩
end Go.Proofs.YtgolpmkenmedoaaGreatDoor.ME
namespace Go.Proofs.YtgolpmkenmedoaaGreatDoor.ME
open Go
open Go.RowKit
open Go.ChangeMaps (setBlock)
set_option linter.unusedVariables false
set_option linter.unusedSimpArgs false
set_option maxRecDepth 20000
abbrev cloV (fc : Nat) (cap : Value) : Value := .func (.func fc) #[] #[cap]
theorem kEachG {fc : Nat} {cap : Value} {m : Option Nat} {u : List (Int × Bs)} {b o : Nat} {w : World} {F M : Nat → Nat → Prop} (hcf : ∀ args w, (callFunc fc args).run Tryz.prog w = .ok (.enter fc args) w) (I : World → Nat → World → Prop) (hat : AtF w F b o [.map m]) (hm : MapR w F m u) (hMF : ∀ b o, F b o → ¬ M b o) (hMlt : ∀ b o, M b o → b < w.heap.size)
  (hI0 : ∀ w7, Step w w7 Nil → I w7 0 w7) (hIs : ∀ w7 j w8, I w7 j w8 → Step w7 w8 M)
  (hI1 : ∀ w7, Step w w7 Nil → ∀ j k x w8 Ax cx, I w7 j w8 → u[j]? = some (k, x) → (0 ≤ k ∧ k < 4294967296) → Octs w8 (fun b o => F b o ∧ b < w7.heap.size) Ax cx x → Calls Tryz.prog fc [.int .u32 k, .slice Ax x.length cx, cap].toArray w8 (fun e w9 => e = .returned (.tuple #[]) ∧ I w7 (j + 1) w9)) (hul : u.length ≤ 1000000) :
  Calls Tryz.prog 122 [.pointer (some ⟨b, o, none⟩), cloV fc cap].toArray w (fun e w' => e = .returned (.tuple #[]) ∧ ∃ w7, Step w w7 Nil ∧ I w7 u.length w') := by
 refine enter (n := 53) Tryz.func122 rfl Tryz.ntmps122 kz fun a hE => ?_
 have hW : WOk w Nil w [⟨b, o, [.map m], false⟩] [] := (WOk.start w Nil).start1 hat rfl rfl
 refine wp_seq (wp_seq ?_)
 refine go_region [0, 1, 2, 3, 4, 5] kz ?_
 refine go_runs [0, 1, 2, 3] [4, 5] [0, 1, 11] hW (EnvOk.ptr0 (cs := [.map m]) (r := false) hE) (env' := [(0, .p 0 0), (1, .v (cloV fc cap)), (11, .v (.map m))]) kz rfl fun a1 hE1 => ?_
 refine of_op (wpOp_lenM (t := 99) (kt := 64) (et := 22) hE1 (m := m) (d := 12) kz kz hm fun a2 hE2 => ?_)
 refine go_runs [5] [] [0, 1, 13] hW hE2 (env' := [(0, .p 0 0), (1, .v (cloV fc cap)), (13, .v (.bool (((u.length : Nat) : Int) == 0)))]) kz rfl fun a3 hE3 => wpOps_nil (then_normal ?_)
 refine cond_of hE3 (b := ((u.length : Nat) : Int) == 0) kz (fun hb => ?_) (fun hb => ?_)
 ·-- none
  have hu : u = [] := List.eq_nil_of_length_eq_zero (by have := eq_of_beq hb; omega)
  subst hu
  refine wp_ret (then_ret ?_)
  exact leave hE3 hW.cells (v := .tuple #[]) kz ⟨rfl, w, Step.refl _ _, hI0 w (Step.refl _ _)⟩
 have hu0 : 0 < u.length := by have := ne_of_beq_false hb; omega
 cases m with
 | none => rw [hm.none_ rfl] at hu0; cases hu0
 | some mb =>
 obtain ⟨hFm, es, clk, hes, hperm, hborn, hnod, hcont⟩ := hm.some_ mb rfl
 have hmlt : mb < w.heap.size := (Array.getElem?_eq_some_iff.1 hes).1
 have hesz : es.size = u.length := MapR.size (w := w) (F := F) hperm
 refine wp_skip (then_normal ?_)
 refine go_seq_region [0, 1, 2, 3, 4, 5, 6, 7] kz ?_
 refine go_runs [0, 1, 2, 3] [4, 5, 6, 7] [0, 1, 17] hW hE3 (env' := [(0, .p 0 0), (1, .v (cloV fc cap)), (17, .v (.map (some mb)))]) kz rfl fun a4 hE4 => ?_
 refine of_op (wpOp_lenM (t := 99) (kt := 64) (et := 22) hE4 (m := some mb) (d := 18) kz kz hm fun a5 hE5 => ?_)
 refine of_op (wpOp_make0 (e := 64) (size := 1) (bytes := 4) (j := u.length) (t := 200) (d := 19) hW hE5 (p := 0) (q := ((u.length : Nat) : Int)) kz kz rfl rfl (by omega) fun kr a6 w1 hkr hkr0 hF1 hW1 hE6 => ?_)
 refine of_op (wpOp_alloc hW1 hE6 (d := 4) (cs := [.slice none 0 0]) kz fun kb a7 w2 hkb hkb0 hF2 hW2 hE7 => ?_)
 refine of_op (wpOp_store hW2 hE7 (oi := 1) (cs := [.slice (some ⟨kr, 0, none⟩) 0 u.length]) kz fun w3 hF3 hW3 hE8 => wpOps_nil (then_normal ?_))
 refine wp_seq (go_seq_region [0, 1, 2, 3, 4] kz ?_)
 refine go_runs [0, 1, 2, 3] [4] [0, 1, 4, 23] hW3 hE8 (env' := [(0, .p 0 0), (1, .v (cloV fc cap)), (4, .p 1 0), (23, .v (.map (some mb)))]) kz rfl fun a8 hE9 => ?_
 have hes3 := hW3.step.heap (fun o h => h) hes
 refine of_op (wpOp_range (t := 99) (kt := 64) (et := 22) (d := 24) (r := mb) hE9 kz kz hes3 fun a9 hE10 => wpOps_nil (then_normal ?_))
 have hW4 := hW3.next_nil (Step.alloc w3 (.mapIter (some mb) clk #[] clk))
 have hr4 : (w3.alloc (.mapIter (some mb) clk #[] clk)).heap[w3.heap.size]? = some (.mapIter (some mb) clk #[] clk) := heap_new _ _
 have hE11 := hE10.pick (ks := [0, 1, 4, 24]) (env' := [(0, .p 0 0), (1, .v (cloV fc cap)), (4, .p 1 0), (24, .v (.pointer (some ⟨w3.heap.size, 0, none⟩)))]) kz
 have hrlt : w3.heap.size < (w3.alloc (.mapIter (some mb) clk #[] clk)).heap.size := by rw [size_alloc]; omega
 have hr0 : w.heap.size ≤ w3.heap.size := hW3.step.size
 have hkbr : kb ≠ w3.heap.size := by have := hW3.live 1 _ rfl; show ¬ _; intro e; rw [← e] at this; exact absurd this (Nat.lt_irrefl _)
 have hkrr : kr ≠ w3.heap.size := by have := own_live (hW3.own 0 _ rfl) (g := kr) rfl; omega
 generalize hR : w3.heap.size = R at hr4 hE11 hrlt hkbr hkrr
 generalize hw4 : w3.alloc (.mapIter (some mb) clk #[] clk) = w4 at hW4 hr4 hrlt
 refine wp_block ?_
 refine wp_loop_ghost (fun q a_ w_ => ∃ (vis : List MapEntry) (seen : Array Nat) (K : Option Addr) (kc c0 : Nat), q = (leftOf es seen).size ∧ Vis es.toList vis seen ∧ vis.length + (leftOf es seen).size ≤ es.size ∧
   EnvOk 53 [⟨b, o, [.map (some mb)], false⟩, ⟨kb, 0, [.slice K vis.length kc], true⟩] [(0, .p 0 0), (1, .v (cloV fc cap)), (4, .p 1 0), (24, .v (.pointer (some ⟨R, 0, none⟩)))] a_ ∧
   WOk w Nil w_ [⟨b, o, [.map (some mb)], false⟩, ⟨kb, 0, [.slice K vis.length kc], true⟩] [⟨K, kc, 64, 1, vis.length, (vis.map fun e => kOf e.key).map (Value.int .u32)⟩] ∧
   w_.heap[R]? = some (.mapIter (some mb) clk seen c0) ∧ clk ≤ c0 ∧ K.map (·.block) ≠ some R) (leftOf es #[]).size
  ⟨[], #[], some ⟨kr, 0, none⟩, u.length, clk, rfl, Vis.nil _, by rw [List.length_nil, Nat.zero_add]; exact Array.size_filter_le, by rw [← hw4] at *; exact hE11, hW4, hr4, Nat.le_refl _, by simpa using hkrr⟩ ?_
 rintro q a10 w5 ⟨vis, seen, K, kc, c0, rfl, hv, hvl, hE12, hW5, hr5, hc0, hKR⟩
 have hes5 := hW5.step.heap (fun o h => h) hes
 refine go_seq_region [0, 1] kz ?_
 refine of_op (wpOp_next hE12 (d := 25) (r := R) kz hr5 hes5 hborn hc0 (fun h0 a11 hE13 => ?_) (fun e he w6 hw6 a11 hE13 => ?_))
 ·-- behind it
  refine go_runs [1] [] [0, 1, 4, 26] hW5 hE13 (env' := [(0, .p 0 0), (1, .v (cloV fc cap)), (4, .p 1 0), (26, .v (.bool false))]) kz rfl fun a12 hE14 => wpOps_nil (then_normal (wp_seq ?_))
  refine cond_of hE14 (b := false) kz (fun hb => by cases hb) (fun _ => ?_)
  refine wp_exit (then_exit (then_exit (block_exit (then_normal ?_))))
  have hpe := hv.all h0 hnod
  have hvu : vis.length = u.length := by rw [hpe.length_eq, Array.length_toList, hesz]
  have hkp : (vis.map fun e => kOf e.key).Perm (u.map Prod.fst) := by
   have h1 := (hpe.map fun e => kOf e.key)
   have h2 := hperm.map kOf
   rw [List.map_map, List.map_map] at h2
   exact h1.trans h2
  have hkl : (vis.map fun e => kOf e.key).length = vis.length := by simp
  generalize (vis.map fun e => kOf e.key) = ks at hkp hkl hW5
  have hown4 : w5.ownsRow 0 64 1 (.slice K vis.length kc) vis.length (ks.map (Value.int .u32)) := hW5.own 0 _ rfl
  obtain ⟨g, rfl⟩ := own_addr hown4 (by omega)
  have hown5 : w5.ownsRow 0 64 1 (.slice (some ⟨g, 0, none⟩) vis.length kc) vis.length (ks.map (Value.int .u32)) := hown4
  have hg0 : w.heap.size ≤ g := by
   rcases hW5.ownM 0 _ rfl g rfl with h | h
   ·exact h
   ·exact (h 0).elim
  refine go_seq_region [0, 1, 2, 3] kz ?_
  refine go_runs [0, 1] [2, 3] [0, 1, 4, 34] hW5 hE14 (env' := [(0, .p 0 0), (1, .v (cloV fc cap)), (4, .p 1 0), (34, .v (.iface 200 (.slice (some ⟨g, 0, none⟩) vis.length kc)))]) kz rfl fun a13 hE15 => ?_
  refine of_op (wpOp_mkf hE15 (v := .func (.func 185) #[] #[.pointer (some ⟨kb, 0, none⟩)]) (d := 35) kz fun a14 hE16 => ?_)
  have hS := Tryz.sortKeys g kc kb ks.toArray (by simp; omega) (by simp; omega) w5 (by simp only [List.size_toArray, hkl]; exact hW5.cells 1 _ rfl 0 _ rfl) (fun e => hW5.rtb 0 _ rfl g rfl 1 _ rfl e) (own_holds hkl hown5) (own_live (hW5.own 0 _ rfl) (g := g) rfl) (hW5.live 1 _ rfl)
  rw [List.size_toArray, hkl] at hS
  refine of_op (wpOp_call hE16 (f := 184) (vs := [.iface 200 (.slice (some ⟨g, 0, none⟩) vis.length kc), .func (.func 185) #[] #[.pointer (some ⟨kb, 0, none⟩)]]) (d := 36) kz Tryz.call184 hS ?_)
  rintro e_ w7 ⟨rfl, d', nd, os, hd1, hd2, hd3, rfl⟩
  refine ⟨_, rfl, fun a15 hE17 => wpOps_nil (then_normal ?_)⟩
  have hus : d'.toList = u.map Prod.fst := sorted_is hd2 (by rw [hd1]; exact hd3) hkp (List.pairwise_map.2 hm.sorted)
  obtain ⟨hst7, hown7⟩ := sort_own (n := nd) (os := os) hkl hown5 (by rw [hd1, hkl])
  rw [hus] at hown7
  generalize Sort.grow (Sort.putRow (Value.int .u32) (Sort.ahead w5 nd) g 0 d') os = w7 at hst7 hown7
  have hW7 : WOk w Nil w7 [⟨b, o, [.map (some mb)], false⟩, ⟨kb, 0, [.slice (some ⟨g, 0, none⟩) vis.length kc], true⟩] [⟨some ⟨g, 0, none⟩, kc, 64, 1, vis.length, (u.map Prod.fst).map (Value.int .u32)⟩] :=
   hW5.grow (k := 0) (r' := ⟨some ⟨g, 0, none⟩, kc, 64, 1, vis.length, (u.map Prod.fst).map (Value.int .u32)⟩) rfl (hst7.mono fun b' _ _ hb' => by rw [hb']; rfl) hown7 (fun g' h => .inl h)
  refine go_seq_region [0, 1, 2] kz ?_
  refine go_runs [0, 1, 2] [] [0, 1, 37, 38, 39] hW7 hE17 (env' := [(0, .p 0 0), (1, .v (cloV fc cap)), (37, .v (.slice (some ⟨g, 0, none⟩) vis.length kc)), (38, .v (.int .i64 ((vis.length : Nat) : Int))), (39, .v (.int .i64 0))]) kz rfl fun a16 hE18 => wpOps_nil (then_normal ?_)
  have hE19 := EnvOk.cutTb 1 hE18 kz
  have hat7 := hat.move hW7.step nilM keepF
  have hm7 := hm.move hW7.step nilM keepF
  have hg7 : g < w7.heap.size := own_live (hW7.own 0 _ rfl) (g := g) rfl
  have hkeys := own_holds (by simpa using hvu.symm) hown7
  rw [hvu] at hE19
  refine wp_block ?_
  refine wp_loop_ghost (fun q a_ w_ => ∃ (j : Nat), q = u.length - j ∧ j ≤ u.length ∧ EnvOk 53 [⟨b, o, [.map (some mb)], false⟩] [(0, .p 0 0), (1, .v (cloV fc cap)), (37, .v (.slice (some ⟨g, 0, none⟩) u.length kc)), (38, .v (.int .i64 ((u.length : Nat) : Int))), (39, .v (.int .i64 ((j : Nat) : Int)))] a_ ∧
   I w7 j w_) u.length
   ⟨0, by omega, by omega, hE19, hI0 w7 hW7.step⟩ ?_
  rintro q a17 w8 ⟨j, rfl, hj, hE20, hD⟩
  have hS8 := hIs w7 j w8 hD
  have hat8 := hat7.move hS8 (fun b o hf _ => hMF b o hf) keepF
  have hm8 : MapR w8 (fun b' o' => F b' o' ∧ b' < w7.heap.size) (some mb) u := hm7.move hS8 (fun b o hf _ => hMF b o hf) (fun b' o' hf hl => ⟨hf, hl⟩)
  have hW8 : WOk w8 Nil w8 [⟨b, o, [.map (some mb)], false⟩] [] := (WOk.start w8 Nil).start1 hat8 rfl rfl
  refine go_seq_region [0] kz (go_runs [0] [] [0, 1, 37, 38, 39, 40] hW8 hE20 (env' := [(0, .p 0 0), (1, .v (cloV fc cap)), (37, .v (.slice (some ⟨g, 0, none⟩) u.length kc)), (38, .v (.int .i64 ((u.length : Nat) : Int))), (39, .v (.int .i64 ((j : Nat) : Int))), (40, .v (.bool (decide (((j : Nat) : Int) < ((u.length : Nat) : Int)))))]) kz rfl fun a18 hE21 => wpOps_nil (then_normal (wp_seq ?_)))
  refine cond_of hE21 (b := decide (((j : Nat) : Int) < ((u.length : Nat) : Int))) kz (fun hc => ?_) (fun hc => ?_)
  ·have hlt : j < u.length := by have := of_decide_eq_true hc; omega
   refine wp_skip (then_normal (wp_seq (wp_block ?_)))
   obtain ⟨⟨k, x⟩, hu⟩ : ∃ y, u[j]? = some y := ⟨_, List.getElem?_eq_getElem hlt⟩
   have hmem := List.mem_of_getElem? hu
   have hkr := hm.range _ hmem
   have hcell : At w8 g (0 + j * 1) [.int .u32 k] := by
    intro i v hi
    have hi0 : i = 0 := by
     have := (List.getElem?_eq_some_iff.1 hi).1
     simp at this; omega
    subst hi0
    simp only [List.getElem?_cons_zero, Option.some.injEq] at hi
    subst hi
    refine hS8.cell (fun hbm => ?_) ?_
    ·have := hMlt _ _ hbm; omega
    ·have h1 := (hkeys j (by simpa using hlt)).1
     have h2 : (u.map Prod.fst).toArray[j]! = k := by
      rw [getElem!_pos _ j (by simpa using hlt)]
      have : (u.map Prod.fst)[j]? = some k := by rw [List.getElem?_map, hu]; rfl
      simpa using (List.getElem?_eq_some_iff.1 this).2
     rw [h2] at h1
     simpa using h1
   refine go_seq_region [0, 1, 2] kz ?_
   refine of_op (wpOp_index hE21 (t := 200) (e := 64) (size := 1) (bytes := 4) (d := 41) (b := g) (o := 0) (m := u.length) (j := j) kz kz rfl rfl hlt fun a19 hE22 => ?_)
   refine of_op (wpOp_load hE22 (t := 64) (d := 42) (cs := [.int .u32 k]) (v := .int .u32 k) kz kz hcell fun a20 hE23 => ?_)
   refine go_runs [2] [] [0, 1, 37, 38, 39, 7] hW8 hE23 (env' := [(0, .p 0 0), (1, .v (cloV fc cap)), (37, .v (.slice (some ⟨g, 0, none⟩) u.length kc)), (38, .v (.int .i64 ((u.length : Nat) : Int))), (39, .v (.int .i64 ((j : Nat) : Int))), (7, .v (.int .u32 k))]) kz rfl fun a21 hE24 => wpOps_nil (then_normal ?_)
   refine go_region [0, 1, 2, 3, 4, 5, 6, 7, 8] kz ?_
   refine go_runs [0, 1, 2, 3, 4, 5, 6] [7, 8] [0, 1, 37, 38, 39, 43, 44, 48, 49] hW8 hE24 (env' := [(0, .p 0 0), (1, .v (cloV fc cap)), (37, .v (.slice (some ⟨g, 0, none⟩) u.length kc)), (38, .v (.int .i64 ((u.length : Nat) : Int))), (39, .v (.int .i64 ((j : Nat) : Int))), (43, .v (cloV fc cap)), (44, .v (.int .u32 k)), (48, .v (.map (some mb))), (49, .v (.int .u32 k))]) kz rfl fun a22 hE25 => ?_
   refine of_op (wpOp_look hE25 (t := 99) (kt := 64) (et := 22) (m := some mb) (k := k) (s := x) (d := 50) kz kz kz hm8 hmem fun a23 Ax cx hox hE26 => ?_)
   refine of_op (wpOp_call hE26 (f := fc) (vs := [.int .u32 k, .slice Ax x.length cx, cap]) (d := 51) kz hcf (hI1 w7 hW7.step j k x w8 Ax cx hD hu hkr hox) ?_)
   rintro e_ w9 ⟨rfl, hD2⟩
   refine ⟨_, rfl, fun a24 hE27 => wpOps_nil (block_normal (then_normal ?_))⟩
   have hS9 := hIs w7 (j + 1) w9 hD2
   have hat9 := hat7.move hS9 (fun b o hf _ => hMF b o hf) keepF
   have hW9 : WOk w9 Nil w9 [⟨b, o, [.map (some mb)], false⟩] [] := (WOk.start w9 Nil).start1 hat9 rfl rfl
   refine go_region [0, 1] kz (go_runs [0, 1] [] [0, 1, 37, 38, 39] hW9 hE27 (env' := [(0, .p 0 0), (1, .v (cloV fc cap)), (37, .v (.slice (some ⟨g, 0, none⟩) u.length kc)), (38, .v (.int .i64 ((u.length : Nat) : Int))), (39, .v (.int .i64 (IntKind.i64.wrap (((j : Nat) : Int) + 1))))]) kz rfl fun a25 hE28 => wpOps_nil (then_normal ?_))
   rw [wrap_succ (by omega)] at hE28
   exact ⟨u.length - (j + 1), by omega, j + 1, rfl, by omega, hE28, hD2⟩
  ·obtain rfl : j = u.length := by have := of_decide_eq_false hc; omega
   refine wp_exit (then_exit (then_exit (block_exit ?_)))
   exact leave_end hE21 hW8.cells (v := .tuple #[]) kz ⟨rfl, w7, hW7.step, hD⟩
 ·-- one more
  have hst6 : Step w5 w6 Nil := by
   rcases hw6 with rfl | rfl
   ·exact Step.refl _ _
   ·exact Step.drew _
  have hr6 : w6.heap[R]? = some (.mapIter (some mb) clk seen c0) := hst6.heap (fun o h => h) hr5
  have hW6 := hW5.next_nil hst6
  obtain ⟨hml, _⟩ := mem_left he
  obtain ⟨k, sx, Ax, cx, hk1, hk2, hk3, hk4⟩ := hcont e hml
  have hR6 : R < w6.heap.size := (Array.getElem?_eq_some_iff.1 hr6).1
  have hW7 : WOk w Nil (setBlock w6 R (.mapIter (some mb) clk (seen.push e.born) clk)) [⟨b, o, [.map (some mb)], false⟩, ⟨kb, 0, [.slice K vis.length kc], true⟩] [⟨K, kc, 64, 1, vis.length, (vis.map fun e => kOf e.key).map (Value.int .u32)⟩] := by
   refine hW6.next (Step.setBlock w6 R _) (fun b' o' hb' hN => by omega) (fun i ob hi j hj hN => ?_) (fun i q hi g' hg' o' hN => ?_)
   ·match i, hi with
    | 0, hi =>
     simp only [List.getElem?_cons_zero, Option.some.injEq] at hi; subst hi
     have := World.lt_of_cell (hat 0 _ rfl).2
     simp only at hN; omega
    | 1, hi =>
     simp only [List.getElem?_cons_succ, List.getElem?_cons_zero, Option.some.injEq] at hi; subst hi
     exact hkbr hN
    | i + 2, hi => simp at hi
   ·match i, hi with
    | 0, hi =>
     simp only [List.getElem?_cons_zero, Option.some.injEq] at hi; subst hi
     exact hKR (by rw [← hN]; exact hg')
    | i + 1, hi => simp at hi
  have hr7 : (setBlock w6 R (.mapIter (some mb) clk (seen.push e.born) clk)).heap[R]? = some (.mapIter (some mb) clk (seen.push e.born) clk) := heap_setBlock hr6
  generalize hw7 : setBlock w6 R (.mapIter (some mb) clk (seen.push e.born) clk) = w7 at hW7 hr7
  refine go_runs [1] [] [0, 1, 4, 24, 26] hW7 hE13 (env' := [(0, .p 0 0), (1, .v (cloV fc cap)), (4, .p 1 0), (24, .v (.pointer (some ⟨R, 0, none⟩))), (26, .v (.bool true))]) kz rfl fun a12 hE14 => wpOps_nil (then_normal (wp_seq ?_))
  refine cond_of hE14 (b := true) kz (fun _ => ?_) (fun hb => by cases hb)
  refine wp_skip (then_normal (wp_block ?_))
  have hes7 := hW7.step.heap (fun o h => h) hes
  refine go_seq_region [0, 1, 2] kz ?_
  refine of_op (wpOp_entry hE14 (d := 27) (r := R) kz hr7 hes7 hml hnod fun a13 hE15 => ?_)
  rw [hk1] at hE15
  refine go_runs [1, 2] [] [0, 1, 4, 24, 5] hW7 hE15 (env' := [(0, .p 0 0), (1, .v (cloV fc cap)), (4, .p 1 0), (24, .v (.pointer (some ⟨R, 0, none⟩))), (5, .v (.int .u32 k))]) kz rfl fun a14 hE16 => wpOps_nil (then_normal ?_)
  refine go_region [0, 1, 2, 3, 4] kz ?_
  refine go_runs [0, 1] [2, 3, 4] [0, 1, 4, 24, 29, 30] hW7 hE16 (env' := [(0, .p 0 0), (1, .v (cloV fc cap)), (4, .p 1 0), (24, .v (.pointer (some ⟨R, 0, none⟩))), (29, .v (.slice K vis.length kc)), (30, .v (.int .u32 k))]) kz rfl fun a15 hE17 => ?_
  have hsh := left_shrinks es seen e he
  refine wpOps_push (t := 200) (e := 64) (size := 1) (bytes := 4) (len := 1) (cs := [.int .u32 k]) (d1 := 31) (d := 32) (k := 0) hW7 hE17 kz kz (fun _ => by kernel_rfl) rfl kz (by omega) fun K2 kc2 a16 w8 hF8 hW8 hE18 => ?_
  obtain ⟨bl, hE18⟩ := hE18
  have hR7 : R < w7.heap.size := (Array.getElem?_eq_some_iff.1 hr7).1
  have hna : ∀ {o'}, ¬ Act_ [⟨b, o, [.map (some mb)], false⟩, ⟨kb, 0, [.slice K vis.length kc], true⟩] [⟨K, kc, 64, 1, vis.length, (vis.map fun e => kOf e.key).map (Value.int .u32)⟩] R o' := by
   rintro o' (⟨i, ob, hi, hrw, hb, _⟩ | ⟨i, q, hi, hq⟩)
   ·match i, hi with
    | 0, hi =>
     simp only [List.getElem?_cons_zero, Option.some.injEq] at hi; subst hi
     cases hrw
    | 1, hi =>
     simp only [List.getElem?_cons_succ, List.getElem?_cons_zero, Option.some.injEq] at hi; subst hi
     exact hkbr hb
    | i + 2, hi => simp at hi
   ·match i, hi with
    | 0, hi =>
     simp only [List.getElem?_cons_zero, Option.some.injEq] at hi; subst hi
     exact hKR hq
    | i + 1, hi => simp at hi
  have hK2 : K2.map (·.block) ≠ some R := fun hk => by
   exact hF8.imm R 0 hR7 hna (.inr ⟨0, _, rfl, hk⟩)
  refine of_op (wpOp_store hW8 hE18 (oi := 1) (cs := [.slice K2 (vis.length + 1) kc2]) kz fun w9 hF9 hW9 hE19 => wpOps_nil (block_normal (then_normal ?_)))
  have hr8 : w9.heap[R]? = some (.mapIter (some mb) clk (seen.push e.born) clk) :=
   hF9.step.heap (fun o' => hF8.imm R o' hR7 hna) (hF8.step.heap (fun o' => hna) hr7)
  refine ⟨(leftOf es (seen.push e.born)).size, hsh, vis ++ [e], seen.push e.born, K2, kc2, clk, rfl, hv.push he, by rw [List.length_append, List.length_singleton]; omega, ?_, ?_, hr8, Nat.le_refl _, hK2⟩
  ·rw [List.length_append, List.length_singleton]
   exact hE19.pick (ks := [0, 1, 4, 24]) kz
  ·rw [List.length_append, List.length_singleton, List.map_append, List.map_append, List.map_cons, List.map_cons, hk1]
   exact hW9
end Go.Proofs.YtgolpmkenmedoaaGreatDoor.ME
namespace Go.Proofs.YtgolpmkenmedoaaGreatDoor.ME
open Go
open Go.RowKit
set_option linter.unusedVariables false
set_option linter.unusedSimpArgs false
section
variable {P : Program} {ops : Array Oper} {Q : Exit → Act → World → Prop} {n : Nat} {tb : Tb} {env : Env} {rs : List Rw} {w0 : World} {M : Nat → Nat → Prop} {a : Act} {w : World}
theorem wpOp_makeZ {i d j : Nat} {t e : TypeId} {size bytes : Nat} (z : Value) (cs : List Value) {N : Act → World → Prop} (hW : WOk w0 M w tb rs) (hE : EnvOk n tb env a)
  (K : ∀ b a' w', b = w.heap.size → w0.heap.size ≤ b → Fr w tb rs w' (tb ++ [⟨b, 0, cs, true⟩]) rs → WOk w0 M w' (tb ++ [⟨b, 0, cs, true⟩]) rs → EnvOk n (tb ++ [⟨b, 0, cs, true⟩]) ((d, .v (.slice (some ⟨b, 0, none⟩) j j)) :: env) a' → N a' w')
  (h : makeE env ops n i = some (t, ((j : Nat) : Int), ((j : Nat) : Int), d) := by kernel_rfl) (ht : rowTy P t = some (e, size, bytes) := by kernel_rfl) (hz : (P.info? e).bind (·.zero) = some z := by kernel_rfl) (hcs : (madeCells z.cells (j * size)).toList = cs := by kernel_rfl) (hb : Nat.ble (bytes * j) 1000000 = true := by kernel_rfl) : wpOp P ops Q i N a w := by
 obtain ⟨ht', inf, z', hi, hz', hzs, hs1, rfl, hsz, hbp⟩ := rowTy_ok ht
 obtain ⟨op, ho, hd, kl, kc, hrun⟩ := makeE_ok (P := P) (w := w) hE h
 have hzz : z' = z := by rw [hi] at hz; simp only [Option.bind_some, hz', Option.some.injEq] at hz; exact hz
 subst hzz
 have hb' := Nat.le_of_ble_eq_true hb
 have hjm : j ≤ 1000000 := by
  have := Nat.le_mul_of_pos_left j hbp
  omega
 have hr := run_make (P := P) w t e inf z' ht' hi hz' kl kc (j : Int) (j : Int) (by omega) (Int.le_refl _) (by
  have : ((inf.bytes * j : Nat) : Int) ≤ 281474976710656 := by omega
  rwa [Int.natCast_mul] at this) (by omega)
 simp only [Int.toNat_natCast, hs1] at hr
 have hca : madeCells z'.cells (j * size) = cs.toArray := by rw [← hcs]
 rw [hca] at hr
 refine wpOp_value hE ho (fun o hop => hrun o _ _ hop hr) ?_
 refine K w.heap.size _ _ rfl hW.step.size (Fr.alloc w tb rs _ cs true) (hW.alloc cs e) ?_
 exact (hE.put hd (.v (.slice (some ⟨w.heap.size, 0, none⟩) j j)) trivial).grow _
theorem wpOp_bytes {i d : Nat} {src dst e : TypeId} {s : ByteArray} {N : Act → World → Prop} (hW : WOk w0 M w tb rs) (hE : EnvOk n tb env a) (hsm : s.size ≤ 1099511627776)
  (K : ∀ b c a' w', Fr w tb rs w' tb rs → WOk w0 M w' tb rs → (∀ G, Octs w' (Imm G w0 w' tb rs) (some ⟨b, 0, none⟩) c (sb s)) → EnvOk n tb ((d, .v (.slice (some ⟨b, 0, none⟩) (sb s).length c)) :: env) a' → N a' w')
  (h : convE tb env ops n i = some (src, dst, .string s, d) := by kernel_rfl) (hs : P.underlying src = some .string := by kernel_rfl) (hd : P.underlying dst = some (.slice e) := by kernel_rfl) (he : P.underlying e = some (.int .u8) := by kernel_rfl) : wpOp P ops Q i N a w := by
 unfold convE at h
 split at h
 ·rename_i src' dst' x d' hop
  split at h
  ·rename_i v hx
   simp only [Option.some.injEq, Prod.mk.injEq] at h
   obtain ⟨rfl, rfl, rfl, rfl⟩ := h
   have hdn := (opAt_ok hE hop).choose_spec.2.2.2.1
   have hrun := Lib.run_convert_string_bytes (P := P) w src' dst' e s hs hd he
   have hst : Step w (Lib.bytesWorld w e s) Nil := ⟨rfl, rfl, by rw [Lib.bytesWorld_size]; omega, fun b hb => by rw [Lib.bytesWorld_at_old w e s b hb]; exact Keeps.refl _ _⟩
   have hlen : (sb s).length = s.size := sb_length s
   have e1 := (opd_ok hE hx).1
   refine wpOp_value hE hop (v := .slice (some ⟨w.heap.size, 0, none⟩) (sb s).length (grownCap w s.size 0 e)) (w' := Lib.bytesWorld w e s) (fun o' ho' => ?_) (K w.heap.size _ _ _ (Fr.nil tb rs hst) (hW.next_nil hst) (fun G => ?_) (hE.put hdn (.v _) trivial))
   ·unfold execOp
    rw [ho']
    simp only [SV.val] at e1
    simp only [e1, Sem.run_bind, hrun, Result.andThen_ok, Sem.run_pure, hlen]
   ·refine ⟨by rw [hlen]; exact grownCap_ge w s.size 0 e, by rw [hlen]; exact hsm, fun h => (by cases h), fun ad hA _ => ?_⟩
    obtain rfl := Option.some.inj hA
    refine ⟨w.heap.size, 0, rfl, fun q hq => ⟨rfl, fun j v hj => ?_⟩⟩
    have hj0 : j = 0 := by
     cases j with
     | zero => rfl
     | succ j => simp at hj
    subst hj0
    simp only [List.getElem?_cons_zero, Option.some.injEq] at hj
    subst hj
    have h2 : (Lib.bytesWorld w e s).heap.size = w.heap.size + 1 := Lib.bytesWorld_size w e s
    refine ⟨⟨.inr hW.step.size, by rw [h2]; exact Nat.lt_succ_self _, fun ha => ?_⟩, ?_⟩
    ·have := hW.act_live ha
     exact absurd this (Nat.lt_irrefl _)
    ·rw [Nat.zero_add, Nat.mul_one, Nat.add_zero, Lib.bytesWorld_cell w e s q (by rw [← hlen]; exact hq)]
     rfl
  ·cases h
 ·cases h
end
end Go.Proofs.YtgolpmkenmedoaaGreatDoor.ME
namespace Go.Proofs.YtgolpmkenmedoaaGreatDoor.ME
open Go
open Go.RowKit
set_option linter.unusedVariables false
set_option linter.unusedSimpArgs false
set_option maxRecDepth 20000
structure TBox (w : World) (B eT : Nat) (A : Option Addr) (cp n : Nat) (x0 x1 x2 x3 : Value) (xs : List Value) : Prop where
 str : Str w B [x0, x1, x2, x3, .slice A n cp]
 own : w.ownsRow 0 eT 2 (.slice A n cp) n xs
 ne : A.map (·.block) ≠ some B
def TM (B : Nat) (A : Option Addr) : Nat → Nat → Prop := fun b o => (b = B ∧ o < 5) ∨ Blk A b o
def TBoxPost (w : World) (B eT : Nat) (A : Option Addr) (n : Nat) (x0 x1 x2 x3 : Value) (xs : List Value) (k : Int) (x : Bs) : Ending → World → Prop := fun en w' =>
 en = .returned (.tuple #[]) ∧ ∃ A' cp' Av cv, TBox w' B eT A' cp' (n + 1) x0 x1 x2 x3 (xs ++ [.int .u32 k, .slice Av x.length cv]) ∧ Octs w' (fun b o => (w.heap.size ≤ b ∨ A.map (·.block) = some b) ∧ ¬ TM B A' b o) Av cv x ∧ Near w A A' ∧ Step w w' (TM B A)
def TellOne (P : Program) (fc eT : Nat) : Prop := ∀ (w : World) (B cp c n : Nat) (k : Int) (A Av : Option Addr) (x : Bs) (x0 x1 x2 x3 : Value) (xs : List Value) (G : Nat → Nat → Prop), TBox w B eT A cp n x0 x1 x2 x3 xs → Octs w G Av c x → (∀ b o, G b o → ¬ TM B A b o) → n ≤ 1000000 →
 Calls P fc [.int .u32 k, .slice Av x.length c, .pointer (some ⟨B, 0, none⟩)].toArray w (TBoxPost w B eT A n x0 x1 x2 x3 xs k x)
theorem TBox.wok {w : World} {B eT cp n : Nat} {A : Option Addr} {x0 x1 x2 x3 : Value} {xs : List Value} (h : TBox w B eT A cp n x0 x1 x2 x3 xs) : WOk w (TM B A) w [⟨B, 0, [x0, x1, x2, x3, .slice A n cp], true⟩] [⟨A, cp, eT, 2, n, xs⟩] := by
 have h1 : WOk w (TM B A) w [⟨B, 0, [x0, x1, x2, x3, .slice A n cp], true⟩] [] :=
  (WOk.start w _).add ⟨B, 0, [x0, x1, x2, x3, .slice A n cp], true⟩ (World.lt_of_cell (h.str.at_ 0 _ rfl)) (fun j v hj => by rw [Nat.zero_add]; exact h.str.at_ j v hj) (fun _ j hj => ⟨.inr (.inl ⟨rfl, by rw [Nat.zero_add]; exact hj⟩), by rw [Nat.zero_add]; exact h.str.frz j hj⟩) (fun i ob hi => by simp at hi) (fun i r hi => by simp at hi)
 refine h1.addRow ⟨A, cp, eT, 2, n, xs⟩ h.own (fun g hg => .inr fun o => .inr hg) (fun i ob hi => ?_) (fun i r hi => by simp at hi)
 cases i with
 | zero =>
  simp only [List.getElem?_cons_zero, Option.some.injEq] at hi; subst hi
  exact h.ne
 | succ i => simp at hi
theorem tbox_of {w0 w : World} {B eT cp n : Nat} {A0 A : Option Addr} {x0 x1 x2 x3 : Value} {xs : List Value} {rs : List Rw} (hW : WOk w0 (TM B A0) w [⟨B, 0, [x0, x1, x2, x3, .slice A n cp], true⟩] (⟨A, cp, eT, 2, n, xs⟩ :: rs)) (hB : B < w0.heap.size) : TBox w B eT A cp n x0 x1 x2 x3 xs ∧ Near w0 A0 A ∧ Step w0 w (TM B A0) := by
 refine ⟨⟨Str.of hW 0 rfl, hW.own 0 _ rfl, fun e => hW.rtb 0 _ rfl B e 0 _ rfl rfl⟩, fun g hg => ?_, hW.step⟩
 rcases hW.ownM 0 _ rfl g hg with h | h
 ·exact .inr h
 ·rcases h 5 with ⟨_, h⟩ | h
  ·omega
  ·exact .inl h
theorem tbox_octs {w0 w : World} {B eT cp n c e8 : Nat} {A0 A Av : Option Addr} {cs : List Value} {xs : List Value} {s : Bs} (hl : cs.length = 5) (hW : WOk w0 (TM B A0) w [⟨B, 0, cs, true⟩] [⟨A, cp, eT, 2, n, xs⟩, brow Av c e8 s]) (hsm : s.length ≤ 1099511627776) : Octs w (fun b o => (w0.heap.size ≤ b ∨ A0.map (·.block) = some b) ∧ ¬ TM B A b o) Av c s := by
 refine octs_own (hW.own 1 _ rfl) hsm fun g hg o => ⟨?_, ?_⟩
 ·rcases hW.ownM 1 _ rfl g hg with h | h
  ·exact .inl h
  ·rcases h 5 with ⟨_, h⟩ | h
   ·omega
   ·exact .inr h
 ·rintro (⟨rfl, _⟩ | h)
  ·exact hW.rtb 1 _ rfl g hg 0 _ rfl rfl
  ·exact hW.rr 1 0 _ _ (by decide) rfl rfl g hg h
theorem kEachTell {fc eT B b o : Nat} {m : Option Nat} {u : List (Int × Bs)} {w : World} {F : Nat → Nat → Prop} {x0 x1 x2 x3 : Value} (hcf : ∀ args w, (callFunc fc args).run Tryz.prog w = .ok (.enter fc args) w) (hone : TellOne Tryz.prog fc eT) (hat : AtF w F b o [.map m]) (hm : MapR w F m u) (hB : Str w B [x0, x1, x2, x3, .slice none 0 0]) (hF : ∀ b o, F b o → ¬ (b = B ∧ o < 5)) (hul : u.length ≤ 1000000) :
  Calls Tryz.prog 122 [.pointer (some ⟨b, o, none⟩), cloV fc (.pointer (some ⟨B, 0, none⟩))].toArray w (fun e w' => e = .returned (.tuple #[]) ∧ ∃ A c, Str w' B [x0, x1, x2, x3, .slice A u.length c] ∧ TagsR w' (fun b o => w.heap.size ≤ b) A c u ∧ Step w w' (fun b o => b = B ∧ o < 5)) := by
 have hBl : B < w.heap.size := World.lt_of_cell (hB.at_ 0 _ rfl)
 refine (kEachG (M := fun b o => b = B ∧ o < 5) hcf (fun w7 j w8 => ∃ A cp xs css, TBox w8 B eT A cp j x0 x1 x2 x3 xs ∧ Tags w8 (fun b o => w7.heap.size ≤ b ∧ ¬ TM B A b o) xs (u.take j) css ∧ (∀ g, A.map (·.block) = some g → w7.heap.size ≤ g) ∧ Step w7 w8 (fun b o => b = B ∧ o < 5)) hat hm hF (fun b o h => by rw [h.1]; exact hBl) (fun w7 hs => ?_) (fun w7 j w8 h => by obtain ⟨_, _, _, _, _, _, _, h⟩ := h; exact h) (fun w7 hs j k x w8 Ax cx hI hu hk hox => ?_) hul).mono ?_
 ·exact ⟨none, 0, [], [], ⟨hB.move hs fun _ h => h, World.ownsRow_nil _ 0 eT 2, fun h => by cases h⟩, Tags.nil _ _, fun g h => (by cases h), Step.refl _ _⟩
 ·obtain ⟨A, cp, xs, css, hbx, hT, hA, hs8⟩ := hI
  have hj : j < u.length := (List.getElem?_eq_some_iff.1 hu).1
  refine (hone w8 B cp cx j k A Ax x x0 x1 x2 x3 xs _ hbx hox (fun b o hf => ?_) (by omega)).mono ?_
  ·rintro (h | h)
   ·exact hF _ _ hf.1 h
   ·have := hA b h; have := hf.2; omega
  ·rintro e w9 ⟨rfl, A', cp', Av, cv, hbx', ho', hn, hs9⟩
   refine ⟨rfl, A', cp', _, css ++ [[.int .u32 k, .slice Av x.length cv]], hbx', ?_, fun g hg => ?_, hs8.trans hs9 fun b o hb h => ?_⟩
   ·rw [take_succ_of hu]
    have e1 : Tags w9 (fun b o => w7.heap.size ≤ b ∧ ¬ TM B A' b o) xs (u.take j) css := hT.move hs9 (fun b o h _ => h.2) (fun b o h hb => ⟨h.1, fun h' => by
     rcases h' with h' | h'
     ·exact h.2 (.inl h')
     ·rcases hn b h' with h' | h'
      ·exact h.2 (.inr h')
      ·omega⟩)
    have e2 : Octs w9 (fun b o => w7.heap.size ≤ b ∧ ¬ TM B A' b o) Av cv x := ho'.move (Step.refl _ Nil) nilM fun b o h _ => ⟨by
     rcases h.1 with h' | h'
     ·exact Nat.le_trans hs8.size h'
     ·exact hA b h', h.2⟩
    exact e1.snoc (c := [.int .u32 k, .slice Av x.length cv]) (x := (k, x)) ⟨⟨_, _, rfl, e2⟩, hk.1, hk.2⟩
   ·rcases hn g hg with h | h
    ·exact hA g h
    ·exact Nat.le_trans hs8.size h
   ·rcases h with h | h
    ·exact h
    ·have := hA b h; omega
 ·rintro e w' ⟨rfl, w7, hs, A, cp, xs, css, hbx, hT, hA, hs8⟩
  rw [List.take_length] at hT
  refine ⟨rfl, A, cp, hbx.str, ?_, (hs.mono (N := fun b o => b = B ∧ o < 5) fun _ _ _ f => f.elim).trans hs8 fun b o _ h => h⟩
  exact ((hT.move (Step.refl _ Nil) nilM fun b o h _ => Nat.le_trans hs.size h.1).slots (F := fun b o => w.heap.size ≤ b) hbx.own rfl (by omega) fun g hg o => Nat.le_trans hs.size (hA g hg))
abbrev NoF : Nat → Nat → Prop := fun _ _ => False
theorem WOk.strOut {G : Nat → Nat → Prop} {w0 w : World} {tb : Tb} {rs : List Rw} {p : Nat} {cs : List Value} (tb' : Tb) (hW : WOk w0 Nil w tb rs) (ht : tb' ++ [⟨p, 0, cs, true⟩] = tb := by rfl) : AtF w (Imm G w0 w tb' rs) p 0 cs := fun j v hj => by
 subst ht
 have hi : (tb' ++ [(⟨p, 0, cs, true⟩ : Ob)])[tb'.length]? = some ⟨p, 0, cs, true⟩ := by rw [List.getElem?_append_right (Nat.le_refl _), Nat.sub_self]; rfl
 have h1 := hW.cells _ _ hi j v hj
 have hlt : j < cs.length := (List.getElem?_eq_some_iff.1 hj).1
 refine ⟨⟨?_, hW.live _ _ hi, fun ha => ?_⟩, h1⟩
 ·rcases (hW.rw_ _ _ hi rfl j hlt).1 with h2 | h2
  ·exact .inr h2
  ·exact h2.elim
 ·rcases ha with ⟨k, ob, h2, h3, h4, h5, h6⟩ | ⟨k, r, h2, h3⟩
  ·have hk : k < tb'.length := (List.getElem?_eq_some_iff.1 h2).1
   have h7 : (tb' ++ [(⟨p, 0, cs, true⟩ : Ob)])[k]? = some ob := by rw [List.getElem?_append_left hk]; exact h2
   rcases hW.apart k _ ob _ (by omega) h7 hi (.inr rfl) with h8 | h8 | h8
   ·exact h8 h4
   ·simp only [Nat.zero_add] at h5 h6; simp only [Nat.le_zero] at h8; omega
   ·simp only [Nat.zero_add] at h5 h6 h8; omega
  ·exact hW.rtb k r h2 p h3 _ _ hi rfl
theorem sorted_not {u : List (Int × Bs)} (h : Sorted u) {i j : Nat} {k k' : Int} {s s' : Bs} (hi : u[i]? = some (k, s)) (hj : u[j]? = some (k', s')) (hij : j < i) : ¬ k < k' := by
 obtain ⟨h1, h2⟩ := List.getElem?_eq_some_iff.1 hi
 obtain ⟨h3, h4⟩ := List.getElem?_eq_some_iff.1 hj
 have := List.pairwise_iff_getElem.1 h j i h3 h1 hij
 rw [h2, h4] at this
 simp only at this
 omega
section
variable {w0 w : World} {tb : Tb} {rs : List Rw} {F : Nat → Nat → Prop}
theorem WOk.objFp (hW : WOk w0 Nil w tb rs) (i : Nat) {b : Nat} {cs : List Value} (hi : tb[i]? = some ⟨b, 0, cs, true⟩) : AtF w (Fp F w0) b 0 cs := fun j v hj => by
 have hlt := (List.getElem?_eq_some_iff.1 hj).1
 refine ⟨?_, hW.cells i _ hi j v hj⟩
 rcases (hW.rw_ i _ hi rfl j hlt).1 with h | h
 ·exact .inr h
 ·exact h.elim
def TrL (w : World) (F : Nat → Nat → Prop) : List (List Value) → List Tree → Prop
 | [], [] => True
 | c :: cs, x :: xs => TreeR w F c x ∧ TrL w F cs xs
 | _, _ => False
theorem TrL.move {w w' : World} {F F' M : Nat → Nat → Prop} (hs : Step w w' M) (hM : ∀ b o, F b o → b < w.heap.size → ¬ M b o) (hF : ∀ b o, F b o → b < w.heap.size → F' b o) : ∀ {cs : List (List Value)} {l : List Tree}, TrL w F cs l → TrL w' F' cs l
 | [], [], _ => trivial
 | _ :: _, _ :: _, h => ⟨h.1.move hs hM hF, TrL.move hs hM hF h.2⟩
 | [], _ :: _, h => h.elim
 | _ :: _, [], h => h.elim
theorem TrL.len : ∀ {cs : List (List Value)} {l : List Tree}, TrL w F cs l → cs.length = l.length
 | [], [], _ => rfl
 | _ :: _, _ :: _, h => congrArg (· + 1) (TrL.len h.2)
 | [], _ :: _, h => h.elim
 | _ :: _, [], h => h.elim
theorem TrL.five : ∀ {cs : List (List Value)} {l : List Tree}, TrL w F cs l → ∀ c ∈ cs, c.length = 5
 | [], [], _ => fun c hc => by cases hc
 | _ :: _, _ :: _, h => fun c hc => by
  rcases List.mem_cons.1 hc with rfl | hc
  ·exact h.1.five
  ·exact TrL.five h.2 c hc
 | [], _ :: _, h => h.elim
 | _ :: _, [], h => h.elim
theorem TrL.get : ∀ {cs : List (List Value)} {l : List Tree}, TrL w F cs l → ∀ (i : Nat) (x : Tree), l[i]? = some x → TreeR w F (cs.getD i []) x
 | [], [], _, i, x, hx => by simp at hx
 | _ :: _, _ :: _, h, 0, x, hx => by
  simp only [List.getElem?_cons_zero, Option.some.injEq] at hx
  subst hx
  exact h.1
 | _ :: _, _ :: _, h, i + 1, x, hx => TrL.get h.2 i x hx
 | [], _ :: _, h, _, _, _ => h.elim
 | _ :: _, [], h, _, _, _ => h.elim
theorem flat5 {b : Nat} : ∀ (css : List (List Value)) (o : Nat), AtF w F b o css.flatten → (∀ c ∈ css, c.length = 5) → ∀ i, i < css.length → (css.getD i []).length = 5 ∧ AtF w F b (o + i * 5) (css.getD i [])
 | [], o, h, hl, i, hi => absurd hi (Nat.not_lt_zero _)
 | c :: r, o, h, hl, 0, _ => ⟨hl c List.mem_cons_self, fun j v hj => by
   have hj' : c[j]? = some v := hj
   have := h j v (by rw [List.flatten_cons, List.getElem?_append_left (List.getElem?_eq_some_iff.1 hj').1]; exact hj')
   rw [show o + 0 * 5 + j = o + j by omega]
   exact this⟩
 | c :: r, o, h, hl, i + 1, hi => by
  have hc := hl c List.mem_cons_self
  have := flat5 r (o + 5) (fun j v hj => by
   have := h (5 + j) v (by rw [List.flatten_cons, List.getElem?_append_right (by omega), show 5 + j - c.length = j by omega]; exact hj)
   rw [show o + 5 + j = o + (5 + j) by omega]
   exact this) (fun d hd => hl d (List.mem_cons_of_mem _ hd)) i (by simpa using hi)
  rw [show o + (i + 1) * 5 = o + 5 + i * 5 by omega]
  exact this
theorem tell_slots {b : Nat} {css : List (List Value)} {l : List Tree} (h : AtF w F b 0 css.flatten) (hT : TrL w F css l) (hsm : l.length ≤ 1099511627776) : Slots w F 5 (some ⟨b, 0, none⟩) l.length l.length (fun i => css.getD i []) :=
 ⟨Nat.le_refl _, hsm, fun h => (by cases h), fun ad hA _ => ⟨b, 0, (Option.some.inj hA).symm, fun i hi => flat5 css 0 h hT.five i (by rw [hT.len]; exact hi)⟩⟩
theorem Trees.xslen {w : World} {xs : List Value} {l : List Tree} {css : List (List Value)} (h : Trees w F xs l css) : xs.length = l.length * 5 := by
 have h1 : ∀ css : List (List Value), (∀ c ∈ css, c.length = 5) → css.flatten.length = css.length * 5 := fun css hc => by
  induction css with
  | nil => rfl
  | cons c r ih =>
   rw [List.flatten_cons, List.length_append, hc c List.mem_cons_self, ih fun d hd => hc d (List.mem_cons_of_mem _ hd), List.length_cons]
   omega
 rw [h.flat.eq, h1 css, h.len]
 intro c hc
 obtain ⟨i, hi, rfl⟩ := List.getElem_of_mem hc
 have hl := h.len
 exact (h.each i _ _ (List.getElem?_eq_getElem hi) (List.getElem?_eq_getElem (show i < l.length by omega))).five
theorem splice_last {xs zs cs : List Value} {k : Nat} (hx : xs.length = k * 5) (hz : zs.length = cs.length := by rfl) : splice (xs ++ zs) (k * 5) cs = xs ++ cs := by
 unfold splice
 rw [List.take_left' hx, List.drop_of_length_le (by rw [List.length_append]; omega), List.append_nil]
theorem tell_list (hW : WOk w0 Nil w tb rs) {k : Nat} {A : Option Addr} {c e n : Nat} {xs : List Value} {l : List Tree} {css : List (List Value)} {b : Bool} (hk : rs[k]? = some ⟨A, c, e, 5, n, xs⟩) (hT : Trees w (Imm F w0 w tb rs) xs l css) (hn : n = l.length) (hsm : l.length ≤ 1099511627776) : TreeR w (Fp F w0) [.int .i64 0, .slice none 0 0, .bool b, .slice A n c, .slice none 0 0] (.mk 0 [] b l []) := by
 have h := trees_fp hW hk hT hn hsm
 subst hn
 exact TreeR.mk (s := []) (u := []) _ (Octs.nil _ _) h.1 h.2 (TagsR.nil _ _)
theorem take_range {L k : Nat} {f : Nat → Tree} (h : k < L) : ((List.range L).map f).take (k + 1) = ((List.range L).map f).take k ++ [f k] :=
 take_succ_of (by rw [List.getElem?_map, List.getElem?_range h]; rfl)
theorem take_all {L k : Nat} {f : Nat → Tree} (h : L ≤ k) : ((List.range L).map f).take k = (List.range L).map f := List.take_of_length_le (by rw [List.length_map, List.length_range]; exact h)
theorem len_range {L : Nat} {f : Nat → Tree} : ((List.range L).map f).length = L := by rw [List.length_map, List.length_range]
theorem tell_end (hW : WOk w0 Nil w tb rs) (i : Nat) {b n2 c3 : Nat} {A3 : Option Addr} {u : List (Int × Bs)} {css : List (List Value)} {cs : List Value} {l : List Tree} (hi : tb[i]? = some ⟨b, 0, cs, true⟩) (hT' : TrL w (Fp F w0) css l) (hU : TagsR w (Fp F w0) A3 c3 u) (hf : css.flatten = cs := by rfl) (hl : l.length = n2 := by rfl) (hn : Nat.ble n2 1000000 = true := by kernel_rfl) :
  GivesT w0 F (.mk 0 [] false l u) (.returned (.agg #[.int .i64 0, .slice none 0 0, .bool false, .slice (some ⟨b, 0, none⟩) n2 n2, .slice A3 u.length c3])) w := by
 subst hf
 subst hl
 have hn' := Nat.le_of_ble_eq_true hn
 exact ⟨_, rfl, TreeR.mk (s := []) _ (Octs.nil _ _) (tell_slots (hW.objFp i hi) hT' (by omega)) hT'.get hU, hW.step⟩
end
def GotOK (m : Nat) : Prop := ∀ (ct : List Value) (t : Tree) (w : World) (F : Nat → Nat → Prop), TreeR w F ct t → t.depth ≤ m →
  Calls Tryz.prog 21 #[.agg ct.toArray] w (GivesT w F t)
theorem lGot_step {m : Nat} (hg : GotOK m) (ct : List Value) (t : Tree) (w : World) (F : Nat → Nat → Prop) (ht : TreeR w F ct t) (hd : t.depth ≤ m + 1) :
  Calls Tryz.prog 21 #[.agg ct.toArray] w (GivesT w F t) := by
 obtain ⟨n1, s2, b3, l4, u5, A6, c7, A8, c9, av, aw, dT, rfl, rfl, dw, dx, dU, dV⟩ := ht.open_
 have dy := dw.small
 have dz := dx.small
 obtain ⟨dW, dA, dX⟩ := dV.ex
 have dB := dA.small
 refine enter (n := 49) Tryz.func21 rfl Tryz.ntmps21 kz fun a hE => ?_
 have hW := WOk.start w Nil
 refine go_seq_region [0, 1] kz ?_
 refine of_op (wpOp_box hW hE (d := 1) (cs := [.int .i64 n1, .slice A6 s2.length c7, .bool b3, .slice A8 l4.length c9, .slice av u5.length aw]) kz fun cq fk fm dY dZ d5 cw cz => ?_)
 clear hE hW
 refine of_op (wpOp_alloc cw cz (d := 2) (cs := [.int .i64 0, .slice none 0 0, .bool false, .slice none 0 0, .slice none 0 0]) kz fun cr fo fq d6 d7 d8 bZ cA => ?_)
 clear cz cw
 refine wpOps_nil (then_normal ?_)
 refine go_seq_region [0, 1, 2, 3, 4, 5, 6, 7, 8] kz ?_
 refine go_rn [0, 1, 2, 3, 4, 5, 6] [7, 8] [(1, .p 0 0), (2, .p 1 0), (14, .v (.agg #[.int .i64 n1, .slice A6 s2.length c7, .bool b3, .slice none 0 0, .slice none 0 0]))] bZ cA fun fr cB => ?_
 clear cA
 refine of_op (wpOp_alloc bZ cB (d := 3) (cs := [.int .i64 0, .slice none 0 0, .bool false, .slice none 0 0, .slice none 0 0]) kz fun cu ft fu d9 ea eb cC cD => ?_)
 clear cB bZ
 refine of_op (wpOp_store cC cD (oi := 2) (cs := [.int .i64 n1, .slice A6 s2.length c7, .bool b3, .slice none 0 0, .slice none 0 0]) kz fun fv ec bi cE => ?_)
 clear cD cC
 refine wpOps_nil (then_normal ?_)
 refine wp_seq ?_
 refine go_sp [(1, .p 0 0), (2, .p 1 0), (3, .p 2 0), (16, .v (.slice A8 l4.length c9)), (17, .v (.int .i64 ((l4.length : Nat) : Int))), (18, .v (.int .i64 0))] bi cE fun fw cG => ?_
 clear cE
 refine wp_block ?_
 have cH := bi.addNil 26 5
 have ee := bi.frNil 26 5
 clear bi
 refine wp_loop_ghost (fun n_ a_ w_ => ∃ (k : Nat) (A_ : Option Addr) (c_ : Nat) (xs : List Value) (css : List (List Value)), n_ = l4.length - k ∧ k ≤ l4.length ∧ (Trees w_ (Imm F w w_ [⟨cq, 0, [.int .i64 n1, .slice A6 s2.length c7, .bool b3, .slice A8 l4.length c9, .slice av u5.length aw], true⟩, ⟨cr, 0, [.int .i64 0, .slice none 0 0, .bool false, .slice none 0 0, .slice none 0 0], true⟩, ⟨cu, 0, [.int .i64 n1, .slice A6 s2.length c7, .bool b3, .slice A_ k c_, .slice none 0 0], true⟩] [⟨A_, c_, 26, 5, k, xs⟩]) xs (l4.take k) css) ∧ LInv cH 49 [⟨cq, 0, [.int .i64 n1, .slice A6 s2.length c7, .bool b3, .slice A8 l4.length c9, .slice av u5.length aw], true⟩, ⟨cr, 0, [.int .i64 0, .slice none 0 0, .bool false, .slice none 0 0, .slice none 0 0], true⟩, ⟨cu, 0, [.int .i64 n1, .slice A6 s2.length c7, .bool b3, .slice A_ k c_, .slice none 0 0], true⟩] [⟨A_, c_, 26, 5, k, xs⟩] [(1, .p 0 0), (2, .p 1 0), (3, .p 2 0), (16, .v (.slice A8 l4.length c9)), (17, .v (.int .i64 ((l4.length : Nat) : Int))), (18, .v (.int .i64 ((k : Nat) : Int)))] a_ w_) (l4.length) ⟨0, none, 0, [], [], by omega, by omega, Trees.nil _ _, cG.pk, cH, Fr.refl _ _ _⟩ ?_
 clear cG
 rintro fx fy fz ⟨k, A_, c_, xs, css, ef, eg, hT, cI, ah, dg⟩
 refine go_sp [(1, .p 0 0), (2, .p 1 0), (3, .p 2 0), (16, .v (.slice A8 l4.length c9)), (17, .v (.int .i64 ((l4.length : Nat) : Int))), (18, .v (.int .i64 ((k : Nat) : Int))), (19, .v (.bool (decide (((k : Nat) : Int) < ((l4.length : Nat) : Int)))))] ah cI fun fA ay => ?_
 clear cI
 refine wp_seq ?_
 refine cond_of ay (b := decide (((k : Nat) : Int) < ((l4.length : Nat) : Int))) kz (fun b8 => ?_) (fun b8 => ?_)
 ·
  have eh := of_decide_eq_true b8
  refine wp_skip ?_
  refine then_normal ?_
  refine wp_seq ?_
  refine wp_block ?_
  refine go_seq_region [0, 1, 2, 3] kz ?_
  obtain ⟨ei, ej, dh, ek, bn⟩ := Slots.get dx (i := k) (by omega)
  obtain ⟨em, cd⟩ : ∃ x, l4[k]? = some x := ⟨_, List.getElem?_eq_getElem (by omega)⟩
  have ce := dU k em cd
  obtain ⟨cJ, cK, cL, cM, cN, cO, cP, cQ, cR, cS, cT, eo, rfl, bo, ep, eu, fB, fC⟩ := ce.open_
  rw [bo] at ce
  have dC := ep.small
  have dD := eu.small
  rw [bo] at bn
  refine of_op (wpOp_index ay (t := 34) (A := A8) (m := l4.length) (q := ((k : Nat) : Int)) (d := 20) kz (e := 37) (size := 5) (bytes := 88) kz dh rfl (by omega) fun fD bp => ?_)
  clear ay
  refine of_op (wpOp_load bp (t := 37) (b := ei) (o := ej + k * 5) (d := 21) kz (cs := [.int .i64 cJ, .slice cO cK.length cP, .bool cL, .slice cQ cM.length cR, .slice cS cN.length cT]) (v := .agg #[.int .i64 cJ, .slice cO cK.length cP, .bool cL, .slice cQ cM.length cR, .slice cS cN.length cT]) kz (AtF.move bn ah.step nilM keepF).at_ fun ev bq => ?_)
  clear bp
  refine of_op (wpOp_alloc ah bq (d := 5) (cs := [.int .i64 0, .slice none 0 0, .bool false, .slice none 0 0, .slice none 0 0]) kz fun ew ey ez dE dF az bt bu => ?_)
  clear bq ah
  refine of_op (wpOp_store bt bu (oi := 3) (cs := [.int .i64 cJ, .slice cO cK.length cP, .bool cL, .slice cQ cM.length cR, .slice cS cN.length cT]) kz fun eB aA bw bx => ?_)
  clear bu bt
  refine wpOps_nil (then_normal ?_)
  refine go_drawK 7 kz bw fun eC aB ai cU => ?_
  clear bw
  refine go_rnD [0, 1, 2] [(1, .p 0 0), (2, .p 1 0), (3, .p 2 0), (16, .v (.slice A8 l4.length c9)), (17, .v (.int .i64 ((l4.length : Nat) : Int))), (18, .v (.int .i64 ((k : Nat) : Int))), (23, .v (.slice A_ k c_)), (24, .v (.agg #[.int .i64 cJ, .slice cO cK.length cP, .bool cL, .slice cQ cM.length cR, .slice cS cN.length cT]))] 5 (panicFree_block (panicFree_then (panicFree_then (panicFree_block (panicFree_then panicFree_body))))) (fun _ h => h.cells) cU bx fun eD bz => ?_
  clear bx
  refine anyC_op (i := 3) kz (wpOp_call bz (f := 21) (vs := [.agg #[.int .i64 cJ, .slice cO cK.length cP, .bool cL, .slice cQ cM.length cR, .slice cS cN.length cT]]) (d := 25) kz Tryz.call21 ( hg _ _ _ _ (ce.move ai.step nilM ai.imm) (by have h_ := deep_get cd; rw [tdepth_mk] at hd; omega)) ?_)
  rintro e_ eE ⟨dG, rfl, cV, aC⟩
  have aD := cV.move (Step.refl _ Nil) nilM (ai.laid (G := F) aC)
  obtain ⟨aE, aF, aG, aH, aI, aJ, aK, aL, aM, aN, aO, dH, dI, aP, di, dj, eF, eG⟩ := aD.open_
  rw [aP] at aD
  have dl := di.small
  have dp := dj.small
  rw [aP]
  refine ⟨_, rfl, fun eH bA => ?_⟩
  have aQ := ai.next_nil aC
  have af := ai.frN aC
  clear bz
  have cW := TT.ofW af aQ
  refine ⟨fun _ => cW, ?_⟩
  refine anyC_op (i := 4) kz (wpOp_lit aQ bA (e := 26) (size := 5) (len := 1) (cs := [.int .i64 aE, .slice aJ aF.length aK, .bool aG, .slice aL aH.length aM, .slice aN aI.length aO]) (d := 26) kz kz fun dq eI eJ dJ dK aa aj bB => ?_)
  clear bA aQ
  have cX := TT.ofW (af.trans aa) aj
  refine ⟨fun _ => cX, ?_⟩
  refine anyC_op (i := 5) kz (wpOp_append aj bB (k := 0) (d := 27) (t := 23) (e := 26) (size := 5) (bytes := 88) (A := A_) (As := (some ⟨dq, 0, none⟩)) (m0 := k) (c := c_) (m := 1) (cs := 1) (xs := xs) (news := [.int .i64 aE, .slice aJ aF.length aK, .bool aG, .slice aL aH.length aM, .slice aN aI.length aO]) kz kz rfl (own_src (aj.own 1 _ rfl) (allOne_ok kz)) (own_cap (aj.own 1 _ rfl)) (by omega) fun aR aS eK eL ag aT bC => ?_)
  clear bB aj
  have bD := TT.ofW ((af.trans aa).trans ag) aT
  refine ⟨fun _ => bD, ?_⟩
  refine go_rnD [6] [(1, .p 0 0), (2, .p 1 0), (3, .p 2 0), (16, .v (.slice A8 l4.length c9)), (17, .v (.int .i64 ((l4.length : Nat) : Int))), (18, .v (.int .i64 ((k : Nat) : Int))), (27, .v (.slice aR (k + 1) aS)), (28, .p 2 3)] 1 (panicFree_block (panicFree_then (panicFree_then (panicFree_block (panicFree_then panicFree_body))))) (fun _ h => h.cells) bD bC fun eM bE => ?_
  clear bC
  refine anyC_op (i := 7) kz (wpOp_store aT bE (oi := 2) (cs := [.int .i64 n1, .slice A6 s2.length c7, .bool b3, .slice aR (k + 1) aS, .slice none 0 0]) kz fun eN ak bF bG => ?_)
  clear bE aT
  refine ⟨fun h => absurd rfl h, ?_⟩
  refine anyC_done kz ?_ _
  refine block_normal ?_
  refine then_normal ?_
  refine go_region [0, 1] kz ?_
  refine go_rn [0, 1] [] [(1, .p 0 0), (2, .p 1 0), (3, .p 2 0), (16, .v (.slice A8 l4.length c9)), (17, .v (.int .i64 ((l4.length : Nat) : Int))), (18, .v (.int .i64 (IntKind.i64.wrap (((k : Nat) : Int) + 1))))] bF bG fun eO cY => ?_
  clear bG
  refine wpOps_nil (then_normal ?_)
  obtain ⟨bH, cZ, al⟩ := bF.cutB cY 3 [⟨cq, 0, [.int .i64 n1, .slice A6 s2.length c7, .bool b3, .slice A8 l4.length c9, .slice av u5.length aw], true⟩, ⟨cr, 0, [.int .i64 0, .slice none 0 0, .bool false, .slice none 0 0, .slice none 0 0], true⟩, ⟨cu, 0, [.int .i64 n1, .slice A6 s2.length c7, .bool b3, .slice aR (k + 1) aS, .slice none 0 0], true⟩] [(1, .p 0 0), (2, .p 1 0), (3, .p 2 0), (16, .v (.slice A8 l4.length c9)), (17, .v (.int .i64 ((l4.length : Nat) : Int))), (18, .v (.int .i64 (IntKind.i64.wrap (((k : Nat) : Int) + 1))))]
  obtain ⟨c5, am⟩ := cZ.cutR 1 [⟨aR, aS, 26, 5, k + 1, xs ++ [.int .i64 aE, .slice aJ aF.length aK, .bool aG, .slice aL aH.length aM, .slice aN aI.length aO]⟩]
  have c6 : IntKind.i64.wrap (((k : Nat) : Int) + 1) = ((k + 1 : Nat) : Int) := wrap_succ (by omega)
  rw [c6] at bH
  exact ⟨l4.length - (k + 1), by omega, k + 1, aR, aS, xs ++ [Value.int .i64 aE, .slice aJ aF.length aK, .bool aG, .slice aL aH.length aM, .slice aN aI.length aO], (css ++ [[Value.int .i64 aE, .slice aJ aF.length aK, .bool aG, .slice aL aH.length aM, .slice aN aI.length aO]]), rfl, by omega, by rw [take_succ_of cd]; exact (hT.move ((((((((az.trans aA).trans aB).trans af).trans aa).trans ag).trans ak).trans al).trans am).step immM ((((((((az.trans aA).trans aB).trans af).trans aa).trans ag).trans ak).trans al).trans am).to').snoc (aD.move ((((aa.trans ag).trans ak).trans al).trans am).step immM ((((aa.trans ag).trans ak).trans al).trans am).to'), bH.pk, c5, (((((((((dg.trans az).trans aA).trans aB).trans af).trans aa).trans ag).trans ak).trans al).trans am)⟩
 ·
  have dL := of_decide_eq_false b8
  refine wp_exit ?_
  refine then_exit ?_
  refine then_exit ?_
  refine block_exit ?_
  refine then_normal ?_
  refine wp_seq ?_
  refine go_sp [(2, .p 1 0), (3, .p 2 0), (31, .v (.slice av u5.length aw)), (32, .v (.int .i64 ((u5.length : Nat) : Int))), (33, .v (.int .i64 0))] ah ay fun eP bI => ?_
  clear ay
  refine wp_block ?_
  have hk0 : k = l4.length := by omega
  have bJ := ah.addNil 66 2
  have bK := ah.frNil 66 2
  clear ah
  refine wp_loop_ghost (fun n_ a_ w_ => ∃ (q : Nat) (A5_ : Option Addr) (c5_ : Nat) (ys : List Value) (dss : List (List Value)), n_ = u5.length - q ∧ q ≤ u5.length ∧ (Tags w_ (Imm F w w_ [⟨cq, 0, [.int .i64 n1, .slice A6 s2.length c7, .bool b3, .slice A8 l4.length c9, .slice av u5.length aw], true⟩, ⟨cr, 0, [.int .i64 0, .slice none 0 0, .bool false, .slice none 0 0, .slice none 0 0], true⟩, ⟨cu, 0, [.int .i64 n1, .slice A6 s2.length c7, .bool b3, .slice A_ k c_, .slice A5_ q c5_], true⟩] [⟨A_, c_, 26, 5, k, xs⟩, ⟨A5_, c5_, 66, 2, q, ys⟩]) ys (u5.take q) dss) ∧ LInv bJ 49 [⟨cq, 0, [.int .i64 n1, .slice A6 s2.length c7, .bool b3, .slice A8 l4.length c9, .slice av u5.length aw], true⟩, ⟨cr, 0, [.int .i64 0, .slice none 0 0, .bool false, .slice none 0 0, .slice none 0 0], true⟩, ⟨cu, 0, [.int .i64 n1, .slice A6 s2.length c7, .bool b3, .slice A_ k c_, .slice A5_ q c5_], true⟩] [⟨A_, c_, 26, 5, k, xs⟩, ⟨A5_, c5_, 66, 2, q, ys⟩] [(2, .p 1 0), (3, .p 2 0), (31, .v (.slice av u5.length aw)), (32, .v (.int .i64 ((u5.length : Nat) : Int))), (33, .v (.int .i64 ((q : Nat) : Int)))] a_ w_) (u5.length) ⟨0, none, 0, [], [], by omega, by omega, Tags.nil _ _, bI.pk, bJ, Fr.refl _ _ _⟩ ?_
  clear bI
  rintro eQ eR eS ⟨q, A5_, c5_, ys, dss, dM, dN, hU, bL, ab, aU⟩
  refine go_sp [(2, .p 1 0), (3, .p 2 0), (31, .v (.slice av u5.length aw)), (32, .v (.int .i64 ((u5.length : Nat) : Int))), (33, .v (.int .i64 ((q : Nat) : Int))), (34, .v (.bool (decide (((q : Nat) : Int) < ((u5.length : Nat) : Int)))))] ab bL fun eU ao => ?_
  clear bL
  refine wp_seq ?_
  refine cond_of ao (b := decide (((q : Nat) : Int) < ((u5.length : Nat) : Int))) kz (fun aV => ?_) (fun aV => ?_)
  ·
   have dO := of_decide_eq_true aV
   refine wp_skip ?_
   refine then_normal ?_
   refine wp_seq ?_
   refine wp_block ?_
   refine go_seq_region [0, 1, 2, 3] kz ?_
   obtain ⟨dr, dt, da, dP, aW⟩ := Slots.get dA (i := q) (by omega)
   obtain ⟨⟨ac, ae⟩, bM⟩ : ∃ x, u5[q]? = some x := ⟨_, List.getElem?_eq_getElem (by omega)⟩
   obtain ⟨⟨ap, ar, cm, db⟩, du, dv⟩ := dX q ac ae bM
   rw [cm] at aW
   refine of_op (wpOp_index ao (t := 35) (A := av) (m := u5.length) (q := ((q : Nat) : Int)) (d := 35) kz (e := 69) (size := 2) (bytes := 32) kz da rfl (by omega) fun eV bN => ?_)
   clear ao
   refine of_op (wpOp_load bN (t := 69) (b := dr) (o := dt + q * 2) (d := 36) kz (cs := [.int .u32 ac, .slice ap ae.length ar]) (v := .agg #[.int .u32 ac, .slice ap ae.length ar]) kz (AtF.move aW ab.step nilM keepF).at_ fun eW bO => ?_)
   clear bN
   refine of_op (wpOp_alloc ab bO (d := 7) (cs := [.int .u32 0, .slice none 0 0]) kz fun eX eY eZ dQ dR aX bP bQ => ?_)
   clear bO ab
   refine of_op (wpOp_store bP bQ (oi := 3) (cs := [.int .u32 ac, .slice ap ae.length ar]) kz fun e9 aY aZ bR => ?_)
   clear bQ bP
   refine wpOps_nil (then_normal ?_)
   refine go_region [0, 1, 2, 3, 4, 5, 6, 7, 8, 9, 10] kz ?_
   refine go_rn [0, 1, 2, 3, 4, 5, 6] [7, 8, 9, 10] [(2, .p 1 0), (3, .p 2 0), (31, .v (.slice av u5.length aw)), (32, .v (.int .i64 ((u5.length : Nat) : Int))), (33, .v (.int .i64 ((q : Nat) : Int))), (38, .v (.slice A5_ q c5_)), (43, .v (.agg #[.int .u32 ac, .slice ap ae.length ar]))] aZ bR fun fa bS => ?_
   clear bR
   refine wpOps_push aZ bS (k := 1) (e := 66) (size := 2) (len := 1) (cs := [.int .u32 ac, .slice ap ae.length ar]) (d1 := 44) (d := 45) kz (t := 24) (bytes := 32) kz (fun _ => by kernel_rfl) rfl kz (by omega) fun bj bk fb fe ba bd ⟨_, bT⟩ => ?_
   clear bS aZ
   refine go_rn [9] [10] [(2, .p 1 0), (3, .p 2 0), (31, .v (.slice av u5.length aw)), (32, .v (.int .i64 ((u5.length : Nat) : Int))), (33, .v (.int .i64 ((q : Nat) : Int))), (45, .v (.slice bj (q + 1) bk)), (46, .p 2 4)] bd bT fun ff bU => ?_
   clear bT
   refine of_op (wpOp_store bd bU (oi := 2) (cs := [.int .i64 n1, .slice A6 s2.length c7, .bool b3, .slice A_ k c_, .slice bj (q + 1) bk]) kz fun fg bf bV bW => ?_)
   clear bU bd
   refine wpOps_nil ?_
   refine block_normal ?_
   refine then_normal ?_
   refine go_region [0, 1] kz ?_
   refine go_rn [0, 1] [] [(2, .p 1 0), (3, .p 2 0), (31, .v (.slice av u5.length aw)), (32, .v (.int .i64 ((u5.length : Nat) : Int))), (33, .v (.int .i64 (IntKind.i64.wrap (((q : Nat) : Int) + 1))))] bV bW fun fh dc => ?_
   clear bW
   refine wpOps_nil (then_normal ?_)
   obtain ⟨bX, bg, bh⟩ := bV.cutB dc 3 [⟨cq, 0, [.int .i64 n1, .slice A6 s2.length c7, .bool b3, .slice A8 l4.length c9, .slice av u5.length aw], true⟩, ⟨cr, 0, [.int .i64 0, .slice none 0 0, .bool false, .slice none 0 0, .slice none 0 0], true⟩, ⟨cu, 0, [.int .i64 n1, .slice A6 s2.length c7, .bool b3, .slice A_ k c_, .slice bj (q + 1) bk], true⟩] [(2, .p 1 0), (3, .p 2 0), (31, .v (.slice av u5.length aw)), (32, .v (.int .i64 ((u5.length : Nat) : Int))), (33, .v (.int .i64 (IntKind.i64.wrap (((q : Nat) : Int) + 1))))]
   have de : IntKind.i64.wrap (((q : Nat) : Int) + 1) = ((q + 1 : Nat) : Int) := wrap_succ (by omega)
   rw [de] at bX
   exact ⟨u5.length - (q + 1), by omega, q + 1, bj, bk, ys ++ [Value.int .u32 ac, .slice ap ae.length ar], (dss ++ [[Value.int .u32 ac, .slice ap ae.length ar]]), rfl, by omega, by rw [take_succ_of bM]; exact (hU.move ((((aX.trans aY).trans ba).trans bf).trans bh).step immM ((((aX.trans aY).trans ba).trans bf).trans bh).to').snoc (c := [.int .u32 ac, .slice ap ae.length ar]) (x := (ac, ae)) ⟨⟨_, _, rfl, (db.move bg.step nilM bg.imm)⟩, du, dv⟩, bX.pk, bg, (((((aU.trans aX).trans aY).trans ba).trans bf).trans bh)⟩
  ·
   have dS := of_decide_eq_false aV
   refine wp_exit ?_
   refine then_exit ?_
   refine then_exit ?_
   refine block_exit ?_
   refine then_normal ?_
   refine go_seq_region [0, 1] kz ?_
   refine go_rn [0] [1] [(2, .p 1 0), (48, .v (.agg #[.int .i64 n1, .slice A6 s2.length c7, .bool b3, .slice A_ k c_, .slice A5_ q c5_]))] ab ao fun fi bY => ?_
   clear ao
   refine of_op (wpOp_store ab bY (oi := 1) (cs := [.int .i64 n1, .slice A6 s2.length c7, .bool b3, .slice A_ k c_, .slice A5_ q c5_]) kz fun fj ax au df => ?_)
   clear bY ab
   refine wpOps_nil (then_normal ?_)
   refine wp_ret ?_
   refine leave df au.cells (v := .agg #[.int .i64 n1, .slice A6 s2.length c7, .bool b3, .slice A_ k c_, .slice A5_ q c5_]) kz ?_
   have hq0 : q = u5.length := by omega
   have hT' := (hT.move ((bK.trans aU).trans ax).step immM ((bK.trans aU).trans ax).to')
   have hU' := (hU.move ax.step immM ax.to')
   rw [show l4.take k = l4 by rw [hk0, List.take_length]] at hT'
   rw [show u5.take q = u5 by rw [hq0, List.take_length]] at hU'
   exact tree_end au rfl (dw.move au.step nilM startFp) hk0 (trees_fp au (k := 0) rfl hT' hk0 (by omega)) hq0 (tags_fp au (k := 1) rfl hU' hq0 (by omega)) rfl
theorem lGot : ∀ m, GotOK m
 | 0 => fun ct t w F ht hd => by
  obtain ⟨n, s, b, l, u, A1, c1, A2, c2, A3, c3, xs, rfl, _⟩ := ht.open_
  rw [tdepth_mk] at hd; omega
 | m + 1 => lGot_step (lGot m)
theorem tSorted {u : List (Int × Bs)} {A : Option Addr} {c : Nat} {w : World} {F : Nat → Nat → Prop} (hu : TagsR w F A c u) (hsrt : Sorted u) : Calls Tryz.prog 124 #[.slice A u.length c] w (Gives w (.tuple #[])) := by
 obtain ⟨cs1, h2, h3⟩ := hu.ex
 have hsm4 := h2.small
 refine enter (n := 45) Tryz.func124 rfl Tryz.ntmps124 kz fun a hE => ?_
 have hW := WOk.start w Nil
 refine go_sp [(0, .v (.slice A u.length c)), (5, .v (.int .i64 ((u.length : Nat) : Int))), (6, .v (.int .i64 0))] hW hE fun a5 hE6 => ?_
 clear hE
 refine wp_block ?_
 refine wp_loop_ghost (fun n_ a_ w_ => ∃ (k : Nat), n_ = u.length - k ∧ k ≤ u.length ∧ LInv hW 45 [] [] [(0, .v (.slice A u.length c)), (5, .v (.int .i64 ((u.length : Nat) : Int))), (6, .v (.int .i64 ((k : Nat) : Int)))] a_ w_) (u.length) ⟨0, by omega, by omega, hE6.pk, hW, Fr.refl _ _ _⟩ ?_
 clear hE6
 rintro n7 a8 w9 ⟨k, aW, aX, am, ab, ao⟩
 refine go_sp [(0, .v (.slice A u.length c)), (5, .v (.int .i64 ((u.length : Nat) : Int))), (6, .v (.int .i64 ((k : Nat) : Int))), (7, .v (.bool (decide (((k : Nat) : Int) < ((u.length : Nat) : Int)))))] ab am fun bn ae => ?_
 clear am
 refine wp_seq ?_
 refine cond_of ae (b := decide (((k : Nat) : Int) < ((u.length : Nat) : Int))) kz (fun aj => ?_) (fun aj => ?_)
 ·
  have aY := of_decide_eq_true aj
  refine wp_skip ?_
  refine then_normal ?_
  refine wp_seq ?_
  refine wp_block ?_
  refine go_sp [(0, .v (.slice A u.length c)), (2, .v (.int .i64 ((k : Nat) : Int))), (5, .v (.int .i64 ((u.length : Nat) : Int))), (6, .v (.int .i64 ((k : Nat) : Int)))] ab ae fun bo ap => ?_
  clear ae
  refine go_sp [(0, .v (.slice A u.length c)), (3, .v (.int .i64 ((k : Nat) : Int))), (5, .v (.int .i64 ((u.length : Nat) : Int))), (6, .v (.int .i64 ((k : Nat) : Int)))] ab ap fun bp ar => ?_
  clear ap
  refine wp_block ?_
  refine loop_out ?_
  refine wp_seq ?_
  refine go_seq_drawQ kz ab fun bq au aa => ?_
  clear ab
  refine go_rnD [0, 1, 2] [(0, .v (.slice A u.length c)), (3, .v (.int .i64 ((k : Nat) : Int))), (5, .v (.int .i64 ((u.length : Nat) : Int))), (6, .v (.int .i64 ((k : Nat) : Int))), (12, .v (.bool (decide (((k : Nat) : Int) > 0))))] 13 (panicFree_then (panicFree_then (panicFree_then (panicFree_block (panicFree_block (panicFree_then (panicFree_then (panicFree_block panicFree_body)))))))) (fun _ h => h ▸ aa.cells) rfl ar fun bt af => ?_
  clear ar
  refine (Bool.eq_false_or_eq_true (decide (((k : Nat) : Int) > 0))).elim (fun ac => ?_) (fun ac => ?_)
  ·
   have aZ := of_decide_eq_true ac
   have av := af.cast (env' := [(0, .v (.slice A u.length c)), (3, .v (.int .i64 ((k : Nat) : Int))), (5, .v (.int .i64 ((u.length : Nat) : Int))), (6, .v (.int .i64 ((k : Nat) : Int))), (12, .v (.bool true))]) (by rw [ac])
   clear af
   refine go_rnD [3, 4, 8, 9, 10] [(0, .v (.slice A u.length c)), (3, .v (.int .i64 ((k : Nat) : Int))), (5, .v (.int .i64 ((u.length : Nat) : Int))), (6, .v (.int .i64 ((k : Nat) : Int))), (12, .v (.bool true)), (13, .v (.slice A u.length c)), (14, .v (.int .i64 ((k : Nat) : Int))), (18, .v (.slice A u.length c)), (20, .v (.int .i64 (IntKind.i64.wrap (((k : Nat) : Int) - 1))))] 8 (panicFree_then (panicFree_then (panicFree_then (panicFree_block (panicFree_block (panicFree_then (panicFree_then (panicFree_block panicFree_body)))))))) (fun _ h => h ▸ aa.cells) rfl av fun bu aw => ?_
   clear av
   obtain ⟨aN, aO, aP, ba, ag⟩ := Slots.get h2 (i := k) (by omega)
   obtain ⟨⟨ah, bd⟩, ax⟩ : ∃ x, u[k]? = some x := ⟨_, List.getElem?_eq_getElem (by omega)⟩
   obtain ⟨⟨bw, bx, ay, bf⟩, bz, bA⟩ := h3 k ah bd ax
   rw [ay] at ag
   refine takeC_index aw (i := 5) (t := 35) (A := A) (m := u.length) (q := ((k : Nat) : Int)) (d := 15) kz (e := 69) (size := 2) (bytes := 32) kz aP rfl (by omega) kz kz (panicFree_then (panicFree_then (panicFree_then (panicFree_block (panicFree_block (panicFree_then (panicFree_then (panicFree_block panicFree_body)))))))) rfl fun bB az => ?_
   clear aw
   refine go_rnD [6] [(0, .v (.slice A u.length c)), (3, .v (.int .i64 ((k : Nat) : Int))), (5, .v (.int .i64 ((u.length : Nat) : Int))), (6, .v (.int .i64 ((k : Nat) : Int))), (12, .v (.bool true)), (16, .v (.pointer (some ⟨aN, aO + k * 2, none⟩))), (18, .v (.slice A u.length c)), (20, .v (.int .i64 (IntKind.i64.wrap (((k : Nat) : Int) - 1))))] 6 (panicFree_then (panicFree_then (panicFree_then (panicFree_block (panicFree_block (panicFree_then (panicFree_then (panicFree_block panicFree_body)))))))) (fun _ h => h ▸ aa.cells) rfl az fun bC aA => ?_
   clear az
   refine takeC_load aA (i := 7) (t := 64) (b := aN) (o := aO + k * 2) (d := 17) kz (cs := [.int .u32 ah]) (v := .int .u32 ah) kz (fun w' h' => h' ▸ (At.drop (AtF.move ag aa.step nilM keepF).at_ 0 1)) kz kz (panicFree_then (panicFree_then (panicFree_then (panicFree_block (panicFree_block (panicFree_then (panicFree_then (panicFree_block panicFree_body)))))))) rfl fun bD aB => ?_
   clear aA
   have aQ : IntKind.i64.wrap (((k : Nat) : Int) - 1) = (((k - 1) : Nat) : Int) := by simp only [wrap_u64, wrap_u32, wrap_u16, IntKind.wrap_i64, IntKind.wrap_i32]; omega
   have aC := EnvOk.pick aB (ks := [0, 3, 5, 6, 12, 16, 18, 20, 17]) (env' := [(0, .v (.slice A u.length c)), (3, .v (.int .i64 ((k : Nat) : Int))), (5, .v (.int .i64 ((u.length : Nat) : Int))), (6, .v (.int .i64 ((k : Nat) : Int))), (12, .v (.bool true)), (16, .v (.pointer (some ⟨aN, aO + k * 2, none⟩))), (18, .v (.slice A u.length c)), (20, .v (.int .i64 (IntKind.i64.wrap (((k : Nat) : Int) - 1)))), (17, .v (.int .u32 ah))]) kz
   have aD := aC.cast (env' := [(0, .v (.slice A u.length c)), (3, .v (.int .i64 ((k : Nat) : Int))), (5, .v (.int .i64 ((u.length : Nat) : Int))), (6, .v (.int .i64 ((k : Nat) : Int))), (12, .v (.bool true)), (16, .v (.pointer (some ⟨aN, aO + k * 2, none⟩))), (18, .v (.slice A u.length c)), (20, .v (.int .i64 (((k - 1) : Nat) : Int))), (17, .v (.int .u32 ah))]) (by rw [aQ])
   clear aB aC
   obtain ⟨aU, aV, aR, bg, ai⟩ := Slots.get h2 (i := (k - 1)) (by omega)
   obtain ⟨⟨aE, bh⟩, aF⟩ : ∃ x, u[(k - 1)]? = some x := ⟨_, List.getElem?_eq_getElem (by omega)⟩
   obtain ⟨⟨bE, bF, aG, bi⟩, bG, bH⟩ := h3 (k - 1) aE bh aF
   rw [aG] at ai
   refine takeC_index aD (i := 11) (t := 35) (A := A) (m := u.length) (q := (((k - 1) : Nat) : Int)) (d := 21) kz (e := 69) (size := 2) (bytes := 32) kz aR rfl (by omega) kz kz (panicFree_then (panicFree_then (panicFree_then (panicFree_block (panicFree_block (panicFree_then (panicFree_then (panicFree_block panicFree_body)))))))) rfl fun bI aH => ?_
   clear aD
   refine go_rnD [12] [(0, .v (.slice A u.length c)), (3, .v (.int .i64 ((k : Nat) : Int))), (5, .v (.int .i64 ((u.length : Nat) : Int))), (6, .v (.int .i64 ((k : Nat) : Int))), (12, .v (.bool true)), (17, .v (.int .u32 ah)), (22, .v (.pointer (some ⟨aU, aV + (k - 1) * 2, none⟩)))] 3 (panicFree_then (panicFree_then (panicFree_then (panicFree_block (panicFree_block (panicFree_then (panicFree_then (panicFree_block panicFree_body)))))))) (fun _ h => h ▸ aa.cells) rfl aH fun bJ aI => ?_
   clear aH
   refine takeC_load aI (i := 13) (t := 64) (b := aU) (o := aV + (k - 1) * 2) (d := 23) kz (cs := [.int .u32 aE]) (v := .int .u32 aE) kz (fun w' h' => h' ▸ (At.drop (AtF.move ai aa.step nilM keepF).at_ 0 1)) kz kz (panicFree_then (panicFree_then (panicFree_then (panicFree_block (panicFree_block (panicFree_then (panicFree_then (panicFree_block panicFree_body)))))))) rfl fun bK aJ => ?_
   clear aI
   refine go_rnD [14, 15] [(0, .v (.slice A u.length c)), (3, .v (.int .i64 ((k : Nat) : Int))), (5, .v (.int .i64 ((u.length : Nat) : Int))), (6, .v (.int .i64 ((k : Nat) : Int))), (25, .v (.bool (decide (ah < aE))))] 0 (panicFree_then (panicFree_then (panicFree_then (panicFree_block (panicFree_block (panicFree_then (panicFree_then (panicFree_block panicFree_body)))))))) (fun _ h => h ▸ aa.cells) rfl aJ fun bL ak => ?_
   clear aJ
   refine anyC_done kz ?_ _
   refine then_normal ?_
   refine cond_false ak (b := decide (ah < aE)) kz (decide_eq_false (sorted_not hsrt ax aF (by omega))) ?_
   refine wp_exit ?_
   refine then_exit ?_
   refine then_exit ?_
   refine block_exit ?_
   refine block_normal ?_
   refine then_normal ?_
   refine go_region [0, 1] kz ?_
   refine go_rn [0, 1] [] [(0, .v (.slice A u.length c)), (5, .v (.int .i64 ((u.length : Nat) : Int))), (6, .v (.int .i64 (IntKind.i64.wrap (((k : Nat) : Int) + 1))))] aa ak fun bM aK => ?_
   clear ak
   refine wpOps_nil (then_normal ?_)
   have aS : IntKind.i64.wrap (((k : Nat) : Int) + 1) = ((k + 1 : Nat) : Int) := wrap_succ (by omega)
   rw [aS] at aK
   exact ⟨u.length - (k + 1), by omega, k + 1, rfl, by omega, aK.pk, aa, (ao.trans au)⟩
  ·
   have bj := of_decide_eq_false ac
   have aL := af.cast (env' := [(0, .v (.slice A u.length c)), (3, .v (.int .i64 ((k : Nat) : Int))), (5, .v (.int .i64 ((u.length : Nat) : Int))), (6, .v (.int .i64 ((k : Nat) : Int))), (12, .v (.bool false))]) (by rw [ac])
   clear af
   refine go_rnD [3, 4, 5, 6, 7, 8, 9, 10, 11, 12, 13, 14, 15] [(0, .v (.slice A u.length c)), (3, .v (.int .i64 ((k : Nat) : Int))), (5, .v (.int .i64 ((u.length : Nat) : Int))), (6, .v (.int .i64 ((k : Nat) : Int))), (25, .v (.bool false))] 0 (panicFree_then (panicFree_then (panicFree_then (panicFree_block (panicFree_block (panicFree_then (panicFree_then (panicFree_block panicFree_body)))))))) (fun _ h => h ▸ aa.cells) rfl aL fun bN al => ?_
   clear aL
   refine anyC_done kz ?_ _
   refine then_normal ?_
   refine cond_false al (b := false) kz rfl ?_
   refine wp_exit ?_
   refine then_exit ?_
   refine then_exit ?_
   refine block_exit ?_
   refine block_normal ?_
   refine then_normal ?_
   refine go_region [0, 1] kz ?_
   refine go_rn [0, 1] [] [(0, .v (.slice A u.length c)), (5, .v (.int .i64 ((u.length : Nat) : Int))), (6, .v (.int .i64 (IntKind.i64.wrap (((k : Nat) : Int) + 1))))] aa al fun bO aM => ?_
   clear al
   refine wpOps_nil (then_normal ?_)
   have aT : IntKind.i64.wrap (((k : Nat) : Int) + 1) = ((k + 1 : Nat) : Int) := wrap_succ (by omega)
   rw [aT] at aM
   exact ⟨u.length - (k + 1), by omega, k + 1, rfl, by omega, aM.pk, aa, (ao.trans au)⟩
 ·
  have bk := of_decide_eq_false aj
  refine wp_exit ?_
  refine then_exit ?_
  refine then_exit ?_
  refine block_exit ?_
  refine leave_end ae ab.cells (v := .tuple #[]) kz ?_
  exact ⟨rfl, ab.step⟩
theorem tAssignReplicasToDirsResponse_1 : TellOne Tryz.prog 153 69 := by
 intro w B cp c n k A Av x x0 x1 x2 x3 xs G hbx ho hG hn
 refine enter (n := 14) Tryz.func153 rfl Tryz.ntmps153 kz fun a hE => ?_
 have hW := hbx.wok
 have hE0 := (hE.grow ⟨B, 0, [x0, x1, x2, x3, .slice A n cp], true⟩).recast 2 (.v (.pointer (some ⟨B, 0, none⟩))) (.p 0 0) rfl rfl (by simp [SV.ok])
 have hsm := Slots.small ho
 have ah := hE0.pk (env' := [(0, .v (.int .u32 k)), (1, .v (.slice Av x.length c)), (2, .p 0 0)])
 refine go_drawK 9 kz hW fun w1 hF2 hW3 hT4 => ?_
 clear hW
 refine go_rnD [0, 1, 2, 3] [(2, .p 0 0), (6, .v (.slice A n cp)), (7, .v (.int .u32 k)), (8, .v (.slice Av x.length c))] 6 panicFree_body (fun _ h => h.cells) hT4 ah fun a5 hE6 => ?_
 clear ah
 have hW7 := hW3.addNil 5 1
 have hF8 := hW3.frNil 5 1
 refine anyC_op (i := 4) kz (wpOp_append hW7 hE6 (k := 1) (d := 9) (t := 22) (e := 5) (size := 1) (bytes := 1) (A := none) (As := Av) (m0 := 0) (c := 0) (m := x.length) (cs := c) (xs := []) (news := bc x) kz kz rfl (ho.move hW7.step (fun b o h _ => hG b o h) keepF).src (ho.move hW7.step (fun b o h _ => hG b o h) keepF).cap (by first | omega | (simp only [List.length_nil]; omega) | (simp; omega)) fun A9 aa aK aL ac ai aj => ?_)
 clear hE6 hW7
 have aB : (⟨A9, aa, 5, 1, 0 + x.length, [] ++ bc x⟩ : Rw) = brow A9 aa 5 x := by rw [List.nil_append, Nat.zero_add]
 obtain ⟨ae, af⟩ := ai.rowEq 1 [⟨A, cp, 69, 2, n, xs⟩, brow A9 aa 5 x] aB
 clear ai
 have ak := EnvOk.pick aj (ks := [2, 6, 7, 8, 9]) (env' := [(2, .p 0 0), (6, .v (.slice A n cp)), (7, .v (.int .u32 k)), (8, .v (.slice Av x.length c)), (9, .v (.slice A9 (0 + x.length) aa))]) kz
 have al := ak.cast (env' := [(2, .p 0 0), (6, .v (.slice A n cp)), (7, .v (.int .u32 k)), (8, .v (.slice Av x.length c)), (9, .v (.slice A9 x.length aa))]) (by simp only [List.length_append, List.length_cons, List.length_nil, Nat.zero_add])
 clear aj
 clear ak
 have am := TT.ofW ((hF8.trans ac).trans af) ae
 refine ⟨fun _ => am, ?_⟩
 refine go_rnD [5] [(2, .p 0 0), (6, .v (.slice A n cp)), (10, .v (.agg #[.int .u32 k, .slice A9 x.length aa]))] 4 panicFree_body (fun _ h => h.cells) am al fun aM ao => ?_
 clear al
 refine anyC_op (i := 6) kz (wpOp_lit ae ao (e := 69) (size := 2) (len := 1) (cs := [.int .u32 k, .slice A9 x.length aa]) (d := 11) kz kz fun aF aN aO aG aH ap ab ar => ?_)
 clear ao ae
 have aC := TT.ofW (((hF8.trans ac).trans af).trans ap) ab
 refine ⟨fun _ => aC, ?_⟩
 refine anyC_op (i := 7) kz (wpOp_append ab ar (k := 0) (d := 12) (t := 35) (e := 69) (size := 2) (bytes := 32) (A := A) (As := (some ⟨aF, 0, none⟩)) (m0 := n) (c := cp) (m := 1) (cs := 1) (xs := xs) (news := [.int .u32 k, .slice A9 x.length aa]) kz kz rfl (own_src (ab.own 2 _ rfl) (allOne_ok kz)) (own_cap (ab.own 2 _ rfl)) (by first | omega | (simp only [List.length_nil]; omega) | (simp; omega)) fun az aA aP aQ aD ag au => ?_)
 clear ar ab
 have av := TT.ofW ((((hF8.trans ac).trans af).trans ap).trans aD) ag
 refine ⟨fun _ => av, ?_⟩
 refine go_rnD [8] [(12, .v (.slice az (n + 1) aA)), (13, .p 0 4)] 1 panicFree_body (fun _ h => h.cells) av au fun aR aw => ?_
 clear au
 refine anyC_op (i := 9) kz (wpOp_store ag aw (oi := 0) (cs := [x0, x1, x2, x3, .slice az (n + 1) aA]) kz fun aS aI ax aE => ?_)
 clear aw ag
 refine ⟨fun h => absurd rfl h, ?_⟩
 refine anyC_done kz ?_ _
 refine leave_end aE ax.cells (v := .tuple #[]) kz ?_
 obtain ⟨ay, aJ⟩ := ax.cutR 2 [⟨az, aA, 69, 2, n + 1, xs ++ [.int .u32 k, .slice A9 x.length aa]⟩, brow A9 aa 5 x]
 have hoo := tbox_octs (s := x) (Av := A9) (c := aa) (e8 := 5) rfl ay (by omega)
 obtain ⟨hb1, hb2, hb3⟩ := tbox_of ay (World.lt_of_cell (hbx.str.at_ 0 _ rfl))
 exact ⟨rfl, az, aA, A9, aa, hb1, hoo, hb2, hb3⟩
theorem tDeleteShareGroupOffsetsRequest_1 : TellOne Tryz.prog 136 69 := by
 intro w B cp c n k A Av x x0 x1 x2 x3 xs G hbx ho hG hn
 refine enter (n := 14) Tryz.func136 rfl Tryz.ntmps136 kz fun a hE => ?_
 have hW := hbx.wok
 have hE0 := (hE.grow ⟨B, 0, [x0, x1, x2, x3, .slice A n cp], true⟩).recast 2 (.v (.pointer (some ⟨B, 0, none⟩))) (.p 0 0) rfl rfl (by simp [SV.ok])
 have hsm := Slots.small ho
 have ah := hE0.pk (env' := [(0, .v (.int .u32 k)), (1, .v (.slice Av x.length c)), (2, .p 0 0)])
 refine go_drawK 9 kz hW fun w1 hF2 hW3 hT4 => ?_
 clear hW
 refine go_rnD [0, 1, 2, 3] [(2, .p 0 0), (6, .v (.slice A n cp)), (7, .v (.int .u32 k)), (8, .v (.slice Av x.length c))] 6 panicFree_body (fun _ h => h.cells) hT4 ah fun a5 hE6 => ?_
 clear ah
 have hW7 := hW3.addNil 5 1
 have hF8 := hW3.frNil 5 1
 refine anyC_op (i := 4) kz (wpOp_append hW7 hE6 (k := 1) (d := 9) (t := 22) (e := 5) (size := 1) (bytes := 1) (A := none) (As := Av) (m0 := 0) (c := 0) (m := x.length) (cs := c) (xs := []) (news := bc x) kz kz rfl (ho.move hW7.step (fun b o h _ => hG b o h) keepF).src (ho.move hW7.step (fun b o h _ => hG b o h) keepF).cap (by first | omega | (simp only [List.length_nil]; omega) | (simp; omega)) fun A9 aa aK aL ac ai aj => ?_)
 clear hE6 hW7
 have aB : (⟨A9, aa, 5, 1, 0 + x.length, [] ++ bc x⟩ : Rw) = brow A9 aa 5 x := by rw [List.nil_append, Nat.zero_add]
 obtain ⟨ae, af⟩ := ai.rowEq 1 [⟨A, cp, 69, 2, n, xs⟩, brow A9 aa 5 x] aB
 clear ai
 have ak := EnvOk.pick aj (ks := [2, 6, 7, 8, 9]) (env' := [(2, .p 0 0), (6, .v (.slice A n cp)), (7, .v (.int .u32 k)), (8, .v (.slice Av x.length c)), (9, .v (.slice A9 (0 + x.length) aa))]) kz
 have al := ak.cast (env' := [(2, .p 0 0), (6, .v (.slice A n cp)), (7, .v (.int .u32 k)), (8, .v (.slice Av x.length c)), (9, .v (.slice A9 x.length aa))]) (by simp only [List.length_append, List.length_cons, List.length_nil, Nat.zero_add])
 clear aj
 clear ak
 have am := TT.ofW ((hF8.trans ac).trans af) ae
 refine ⟨fun _ => am, ?_⟩
 refine go_rnD [5] [(2, .p 0 0), (6, .v (.slice A n cp)), (10, .v (.agg #[.int .u32 k, .slice A9 x.length aa]))] 4 panicFree_body (fun _ h => h.cells) am al fun aM ao => ?_
 clear al
 refine anyC_op (i := 6) kz (wpOp_lit ae ao (e := 69) (size := 2) (len := 1) (cs := [.int .u32 k, .slice A9 x.length aa]) (d := 11) kz kz fun aF aN aO aG aH ap ab ar => ?_)
 clear ao ae
 have aC := TT.ofW (((hF8.trans ac).trans af).trans ap) ab
 refine ⟨fun _ => aC, ?_⟩
 refine anyC_op (i := 7) kz (wpOp_append ab ar (k := 0) (d := 12) (t := 35) (e := 69) (size := 2) (bytes := 32) (A := A) (As := (some ⟨aF, 0, none⟩)) (m0 := n) (c := cp) (m := 1) (cs := 1) (xs := xs) (news := [.int .u32 k, .slice A9 x.length aa]) kz kz rfl (own_src (ab.own 2 _ rfl) (allOne_ok kz)) (own_cap (ab.own 2 _ rfl)) (by first | omega | (simp only [List.length_nil]; omega) | (simp; omega)) fun az aA aP aQ aD ag au => ?_)
 clear ar ab
 have av := TT.ofW ((((hF8.trans ac).trans af).trans ap).trans aD) ag
 refine ⟨fun _ => av, ?_⟩
 refine go_rnD [8] [(12, .v (.slice az (n + 1) aA)), (13, .p 0 4)] 1 panicFree_body (fun _ h => h.cells) av au fun aR aw => ?_
 clear au
 refine anyC_op (i := 9) kz (wpOp_store ag aw (oi := 0) (cs := [x0, x1, x2, x3, .slice az (n + 1) aA]) kz fun aS aI ax aE => ?_)
 clear aw ag
 refine ⟨fun h => absurd rfl h, ?_⟩
 refine anyC_done kz ?_ _
 refine leave_end aE ax.cells (v := .tuple #[]) kz ?_
 obtain ⟨ay, aJ⟩ := ax.cutR 2 [⟨az, aA, 69, 2, n + 1, xs ++ [.int .u32 k, .slice A9 x.length aa]⟩, brow A9 aa 5 x]
 have hoo := tbox_octs (s := x) (Av := A9) (c := aa) (e8 := 5) rfl ay (by omega)
 obtain ⟨hb1, hb2, hb3⟩ := tbox_of ay (World.lt_of_cell (hbx.str.at_ 0 _ rfl))
 exact ⟨rfl, az, aA, A9, aa, hb1, hoo, hb2, hb3⟩
theorem tDeleteShareGroupOffsetsRequestTopic_1 : TellOne Tryz.prog 189 69 := by
 intro w B cp c n k A Av x x0 x1 x2 x3 xs G hbx ho hG hn
 refine enter (n := 14) Tryz.func189 rfl Tryz.ntmps189 kz fun a hE => ?_
 have hW := hbx.wok
 have hE0 := (hE.grow ⟨B, 0, [x0, x1, x2, x3, .slice A n cp], true⟩).recast 2 (.v (.pointer (some ⟨B, 0, none⟩))) (.p 0 0) rfl rfl (by simp [SV.ok])
 have hsm := Slots.small ho
 have ah := hE0.pk (env' := [(0, .v (.int .u32 k)), (1, .v (.slice Av x.length c)), (2, .p 0 0)])
 refine go_drawK 9 kz hW fun w1 hF2 hW3 hT4 => ?_
 clear hW
 refine go_rnD [0, 1, 2, 3] [(2, .p 0 0), (6, .v (.slice A n cp)), (7, .v (.int .u32 k)), (8, .v (.slice Av x.length c))] 6 panicFree_body (fun _ h => h.cells) hT4 ah fun a5 hE6 => ?_
 clear ah
 have hW7 := hW3.addNil 5 1
 have hF8 := hW3.frNil 5 1
 refine anyC_op (i := 4) kz (wpOp_append hW7 hE6 (k := 1) (d := 9) (t := 22) (e := 5) (size := 1) (bytes := 1) (A := none) (As := Av) (m0 := 0) (c := 0) (m := x.length) (cs := c) (xs := []) (news := bc x) kz kz rfl (ho.move hW7.step (fun b o h _ => hG b o h) keepF).src (ho.move hW7.step (fun b o h _ => hG b o h) keepF).cap (by first | omega | (simp only [List.length_nil]; omega) | (simp; omega)) fun A9 aa aK aL ac ai aj => ?_)
 clear hE6 hW7
 have aB : (⟨A9, aa, 5, 1, 0 + x.length, [] ++ bc x⟩ : Rw) = brow A9 aa 5 x := by rw [List.nil_append, Nat.zero_add]
 obtain ⟨ae, af⟩ := ai.rowEq 1 [⟨A, cp, 69, 2, n, xs⟩, brow A9 aa 5 x] aB
 clear ai
 have ak := EnvOk.pick aj (ks := [2, 6, 7, 8, 9]) (env' := [(2, .p 0 0), (6, .v (.slice A n cp)), (7, .v (.int .u32 k)), (8, .v (.slice Av x.length c)), (9, .v (.slice A9 (0 + x.length) aa))]) kz
 have al := ak.cast (env' := [(2, .p 0 0), (6, .v (.slice A n cp)), (7, .v (.int .u32 k)), (8, .v (.slice Av x.length c)), (9, .v (.slice A9 x.length aa))]) (by simp only [List.length_append, List.length_cons, List.length_nil, Nat.zero_add])
 clear aj
 clear ak
 have am := TT.ofW ((hF8.trans ac).trans af) ae
 refine ⟨fun _ => am, ?_⟩
 refine go_rnD [5] [(2, .p 0 0), (6, .v (.slice A n cp)), (10, .v (.agg #[.int .u32 k, .slice A9 x.length aa]))] 4 panicFree_body (fun _ h => h.cells) am al fun aM ao => ?_
 clear al
 refine anyC_op (i := 6) kz (wpOp_lit ae ao (e := 69) (size := 2) (len := 1) (cs := [.int .u32 k, .slice A9 x.length aa]) (d := 11) kz kz fun aF aN aO aG aH ap ab ar => ?_)
 clear ao ae
 have aC := TT.ofW (((hF8.trans ac).trans af).trans ap) ab
 refine ⟨fun _ => aC, ?_⟩
 refine anyC_op (i := 7) kz (wpOp_append ab ar (k := 0) (d := 12) (t := 35) (e := 69) (size := 2) (bytes := 32) (A := A) (As := (some ⟨aF, 0, none⟩)) (m0 := n) (c := cp) (m := 1) (cs := 1) (xs := xs) (news := [.int .u32 k, .slice A9 x.length aa]) kz kz rfl (own_src (ab.own 2 _ rfl) (allOne_ok kz)) (own_cap (ab.own 2 _ rfl)) (by first | omega | (simp only [List.length_nil]; omega) | (simp; omega)) fun az aA aP aQ aD ag au => ?_)
 clear ar ab
 have av := TT.ofW ((((hF8.trans ac).trans af).trans ap).trans aD) ag
 refine ⟨fun _ => av, ?_⟩
 refine go_rnD [8] [(12, .v (.slice az (n + 1) aA)), (13, .p 0 4)] 1 panicFree_body (fun _ h => h.cells) av au fun aR aw => ?_
 clear au
 refine anyC_op (i := 9) kz (wpOp_store ag aw (oi := 0) (cs := [x0, x1, x2, x3, .slice az (n + 1) aA]) kz fun aS aI ax aE => ?_)
 clear aw ag
 refine ⟨fun h => absurd rfl h, ?_⟩
 refine anyC_done kz ?_ _
 refine leave_end aE ax.cells (v := .tuple #[]) kz ?_
 obtain ⟨ay, aJ⟩ := ax.cutR 2 [⟨az, aA, 69, 2, n + 1, xs ++ [.int .u32 k, .slice A9 x.length aa]⟩, brow A9 aa 5 x]
 have hoo := tbox_octs (s := x) (Av := A9) (c := aa) (e8 := 5) rfl ay (by omega)
 obtain ⟨hb1, hb2, hb3⟩ := tbox_of ay (World.lt_of_cell (hbx.str.at_ 0 _ rfl))
 exact ⟨rfl, az, aA, A9, aa, hb1, hoo, hb2, hb3⟩
end Go.Proofs.YtgolpmkenmedoaaGreatDoor.ME