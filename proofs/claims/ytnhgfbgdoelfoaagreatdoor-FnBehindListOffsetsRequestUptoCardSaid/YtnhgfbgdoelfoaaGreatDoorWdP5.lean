/- FnBehindListOffsetsRequest: the statement: of every version, every slice of octets and every tree of the bulk that the statement speaks of the law returns true, and leaves its arguments as they are; and the card. Own work. -/
import Derived.Test.YtnhgfbgdoelfoaaGreatDoorWdP4
import Derived.Test.YtnhgfbgdoelfoaaGreatDoorTie
import Derived.Test.YtnhgfbgdoelfoaaGreatDoorCards
import Derived.LaidMore
import Derived.SevenTiedAt
/- Printed by tools/mk.py. Own work. -/
namespace Go.Proofs.YtnhgfbgdoelfoaaGreatDoor.ME
open Go
open Go.RowKit
set_option linter.unusedVariables false
set_option linter.unusedSimpArgs false
set_option maxRecDepth 20000

def tEListOffsetsRequestTopicPartition (v : Int) (T : Tree) : Bs := (be 4 ((IntKind.i32.wrap (T.at_ 0).N))) ++ ((if (decide (v ≥ 4)) = true then be 4 ((IntKind.i32.wrap (T.at_ 1).N)) else []) ++ ((be 8 ((T.at_ 2).N)) ++ ((if ((if (decide (v ≥ 0)) = true then decide (v ≤ 0) else false)) = true then be 4 ((IntKind.i32.wrap (T.at_ 3).N)) else []) ++ (if (decide (v ≥ 6)) = true then (uv T.U.length) ++ (tagsR T.U) else []))))
theorem posListOffsetsRequestTopicPartition (v : Int) (T : Tree) : 0 < (tEListOffsetsRequestTopicPartition v T).length := pos_l (pos_be (by decide))
def tEListOffsetsRequestTopic (v : Int) (T : Tree) : Bs := (if (decide (v ≥ 6)) = true then (uv ((T.at_ 0).S.length + 1) ++ (T.at_ 0).S) else (be 2 (T.at_ 0).S.length ++ (T.at_ 0).S)) ++ (((if (decide (v ≥ 6)) = true then (uv ((lst (T.at_ 1)).length + 1)) else (be 4 (lst (T.at_ 1)).length)) ++ ((lst (T.at_ 1)).flatMap (tEListOffsetsRequestTopicPartition v))) ++ (if (decide (v ≥ 6)) = true then (uv T.U.length) ++ (tagsR T.U) else []))
theorem posListOffsetsRequestTopic (v : Int) (T : Tree) : 0 < (tEListOffsetsRequestTopic v T).length := pos_l (pos_if (pos_l (uv_ne _)) (pos_l (pos_be (by decide))))
def tEListOffsetsRequest_ (v : Int) (T : Tree) : Bs := (be 4 ((IntKind.i32.wrap (T.at_ 0).N))) ++ ((if (decide (v ≥ 2)) = true then be 1 ((IntKind.i8.wrap (T.at_ 1).N)) else []) ++ (((if (decide (v ≥ 6)) = true then (uv ((lst (T.at_ 2)).length + 1)) else (be 4 (lst (T.at_ 2)).length)) ++ ((lst (T.at_ 2)).flatMap (tEListOffsetsRequestTopic v))) ++ ((if (decide (v ≥ 10)) = true then be 4 ((IntKind.i32.wrap (T.at_ 3).N)) else []) ++ ((if (decide (v ≥ 6)) = true then (uv T.U.length) ++ (tagsR T.U) else []) ++ (([] : Bs))))))
theorem teListOffsetsRequest (v : Int) (T : Tree) : tListOffsetsRequest v T = tEListOffsetsRequest_ v T := rfl
def clListOffsetsRequestTopicPartition (d : DV) : List Value := [.int .i32 ((d.f 0).n), .int .i32 ((d.f 1).n), .int .i64 ((d.f 2).n), .int .i32 ((d.f 3).n), .map d.m]
theorem mvListOffsetsRequestTopicPartition : Moves okListOffsetsRequestTopicPartition := by
  intro w w' F F' M d hs hM hF h
  unfold okListOffsetsRequestTopicPartition at h ⊢
  obtain ⟨g0, g1, g2, g3, t1, t2, t3, _⟩ := h
  exact ⟨g0, g1, g2, g3, t1.move hs hM hF, t2, t3, trivial⟩

def clListOffsetsRequestTopic (d : DV) : List Value := [.string ((d.f 0).s), .slice ((d.f 1).A) ((d.f 1).l) ((d.f 1).c), .map d.m]
theorem mvListOffsetsRequestTopic : Moves okListOffsetsRequestTopic := by
  intro w w' F F' M d hs hM hF h
  unfold okListOffsetsRequestTopic at h ⊢
  obtain ⟨g0, ⟨g1, g1l, g1e⟩, t1, t2, t3, _⟩ := h
  exact ⟨g0, ⟨g1.move hs hM hF, g1l, fun i hi => mvListOffsetsRequestTopicPartition _ hs hM hF (g1e i hi)⟩, t1.move hs hM hF, t2, t3, trivial⟩

def rvListOffsetsRequestTopicPartition (v : Int) (D : DV) (T : Tree) : Prop := ((D.f 0).n = IntKind.i32.wrap (T.at_ 0).N) ∧ (((decide (v ≥ 4)) = true → (D.f 1).n = IntKind.i32.wrap (T.at_ 1).N) ∧ ((decide (v ≥ 4)) = false → (D.f 1).n = -1)) ∧ ((D.f 2).n = IntKind.i64.wrap (T.at_ 2).N) ∧ (((if (decide (v ≥ 0)) = true then decide (v ≤ 0) else false) = true → (D.f 3).n = IntKind.i32.wrap (T.at_ 3).N) ∧ ((if (decide (v ≥ 0)) = true then decide (v ≤ 0) else false) = false → (D.f 3).n = 1)) ∧ (((decide (v ≥ 6)) = true → D.u = T.U) ∧ ((decide (v ≥ 6)) = false → D.u = [])) ∧ True
def rvListOffsetsRequestTopic (v : Int) (D : DV) (T : Tree) : Prop := ((D.f 0).s = bs (T.at_ 0).S) ∧ (((D.f 1).l = (lst (T.at_ 1)).length ∧ ∀ i, i < (D.f 1).l → rvListOffsetsRequestTopicPartition v ((D.f 1).f i) ((lst (T.at_ 1)).getD i .zero))) ∧ (((decide (v ≥ 6)) = true → D.u = T.U) ∧ ((decide (v ≥ 6)) = false → D.u = [])) ∧ True
def rvListOffsetsRequest (v : Int) (D : DV) (T : Tree) : Prop := ((D.f 0).n = IntKind.i32.wrap (T.at_ 0).N) ∧ (((decide (v ≥ 2)) = true → (D.f 1).n = IntKind.i8.wrap (T.at_ 1).N) ∧ ((decide (v ≥ 2)) = false → (D.f 1).n = 0)) ∧ (((D.f 2).l = (lst (T.at_ 2)).length ∧ ∀ i, i < (D.f 2).l → rvListOffsetsRequestTopic v ((D.f 2).f i) ((lst (T.at_ 2)).getD i .zero))) ∧ (((decide (v ≥ 10)) = true → (D.f 3).n = IntKind.i32.wrap (T.at_ 3).N) ∧ ((decide (v ≥ 10)) = false → (D.f 3).n = 30000)) ∧ (((decide (v ≥ 6)) = true → D.u = T.U) ∧ ((decide (v ≥ 6)) = false → D.u = [])) ∧ True
theorem nop168 (b o : Nat) (w : World) : Calls Tryz.prog 168 #[.pointer (some ⟨b, o, none⟩)] w (fun e w' => e = .returned (.tuple #[]) ∧ w' = w) := by
  refine enter (n := 2) (vs := [.pointer (some ⟨b, o, none⟩)]) Tryz.func168 rfl Tryz.ntmps168 (by kernel_rfl) fun a hE => ?_
  refine wp_skip ?_
  exact leave_end hE (WOk.start w Nil).cells (v := .tuple #[]) (by kernel_rfl) ⟨rfl, rfl⟩

set_option maxHeartbeats 4000000 in
theorem rdListOffsetsRequest (v : Int) (T : Tree) {bv : Nat} {A : Option Addr} {c : Nat} {w : World} {F : Nat → Nat → Prop} (hst : Str w bv [.int .i16 v, .int .i32 (-1), .int .i8 0, .slice none 0 0, .int .i32 30000, .map none]) (ho : Octs w F A c (tListOffsetsRequest v T)) (hFd : ∀ b o, F b o → ¬ (b = bv ∧ o < 6)) (hc : canListOffsetsRequest T) (hR : T.ranged) :
    Calls Tryz.prog 113 #[.pointer (some ⟨bv, 0, none⟩), .slice A (tListOffsetsRequest v T).length c, .bool false] w (fun e w' => ∃ D : DV, e = .returned .nilIface ∧ Str w' bv [.int .i16 v, .int .i32 ((D.f 0).n), .int .i8 ((D.f 1).n), .slice ((D.f 2).A) ((D.f 2).l) ((D.f 2).c), .int .i32 ((D.f 3).n), .map D.m] ∧ okListOffsetsRequest w' (Fp F w) D ∧ rvListOffsetsRequest v D T ∧ Step w w' (fun b o => b = bv ∧ o < 6)) := by
  refine enter (n := 186) Tryz.func113 rfl Tryz.ntmps113 (by kernel_rfl) fun a hE => ?_
  have hW := WOk.startStr hst
  have hE1 := (hE.grow ⟨bv, 0, [.int .i16 v, .int .i32 (-1), .int .i8 0, .slice none 0 0, .int .i32 30000, .map none], true⟩).recast 0 (.v (.pointer (some ⟨bv, 0, none⟩))) (.p 0 0) rfl rfl (Nat.le_of_ble_eq_true (n := 1) rfl)
  refine go_sp [(0, .p 0 0), (1, .v (.slice A ((tListOffsetsRequest v T).length) c)), (2, .v (.bool false))] hW hE1 fun a1 hE2 => ?_
  clear hE1
  refine go_seq_region [0, 1] (by kernel_rfl) ?_
  refine go_rn [0] [1] [(0, .p 0 0), (1, .v (.slice A ((tListOffsetsRequest v T).length) c)), (2, .v (.bool false)), (31, .p 0 0)] hW hE2 fun a3 hE4 => ?_
  clear hE2
  refine of_op (wpOp_inline hE4 (f := 111) (vs := [.pointer (some ⟨bv, 0, none⟩)]) (d := 32) (n' := 8) (by kernel_rfl) Tryz.call111 Tryz.func111 rfl Tryz.ntmps111 (by kernel_rfl) fun a5 hE6 => ?_)
  have hE7 := hE6.recast 0 (.v (.pointer (some ⟨bv, 0, none⟩))) (.p 0 0) rfl rfl (Nat.le_of_ble_eq_true (n := 1) rfl)
  refine go_seq_region [0, 1, 2, 3] (by kernel_rfl) ?_
  refine go_rn [0, 1, 2] [3] [(0, .p 0 0), (4, .p 0 1)] hW hE7 fun a8 hE9 => ?_
  clear hE7
  refine of_op (wpOp_store hW hE9 (oi := 0) (cs := [.int .i16 v, .int .i32 (-1), .int .i8 0, .slice none 0 0, .int .i32 30000, .map none]) (by kernel_rfl) fun w10 hF11 hW12 hE13 => ?_)
  clear hE9 hW
  refine wpOps_nil ?_
  refine then_normal ?_
  refine go_region [0, 1, 2, 3] (by kernel_rfl) ?_
  refine go_rn [0, 1, 2] [3] [(7, .p 0 4)] hW12 hE13 fun a14 hE15 => ?_
  clear hE13
  refine of_op (wpOp_store hW12 hE15 (oi := 0) (cs := [.int .i16 v, .int .i32 (-1), .int .i8 0, .slice none 0 0, .int .i32 30000, .map none]) (by kernel_rfl) fun w16 hF17 hW18 hE19 => ?_)
  clear hE15 hW12
  refine wpOps_nil ?_
  refine leave_end hE19 hW18.cells (v := .tuple #[]) (by kernel_rfl) ?_
  refine ⟨_, rfl, fun a20 hE21 => ?_⟩
  have hE22 : EnvOk 186 [⟨bv, 0, [.int .i16 v, .int .i32 (-1), .int .i8 0, .slice none 0 0, .int .i32 30000, .map none], true⟩] [(32, .v (.tuple #[])), (0, .p 0 0), (1, .v (.slice A ((tListOffsetsRequest v T).length) c)), (2, .v (.bool false)), (31, .p 0 0)] _ := hE21.places (⟨rfl, rfl, trivial⟩)
  refine wpOps_nil ?_
  refine then_normal ?_
  refine go_seq_region [0, 1, 2, 3] (by kernel_rfl) ?_
  refine go_rn [0, 1] [2, 3] [(0, .p 0 0), (2, .v (.bool false)), (34, .v (.agg #[.slice A ((tListOffsetsRequest v T).length) c, .bool false]))] hW18 hE22 fun a23 hE24 => ?_
  clear hE22
  refine of_op (wpOp_alloc hW18 hE24 (d := 7) (cs := [.slice none 0 0, .bool false]) (by kernel_rfl) fun b25 a26 w27 hb28 hz29 hF30 hW31 hE32 => ?_)
  clear hE24 hW18
  refine of_op (wpOp_store hW31 hE32 (oi := 1) (cs := [.slice A ((tListOffsetsRequest v T).length) c, .bool false]) (by kernel_rfl) fun w33 hF34 hW35 hE36 => ?_)
  clear hE32 hW31
  refine wpOps_nil ?_
  refine then_normal ?_
  have hS37 := RS.start (F := F) (s := tListOffsetsRequest v T) hW35 hE36 (ho.move hW35.step (fun b_ o_ h_ _ => hFd b_ o_ h_) (hW35.immM hFd)) [(0, .p 1 0), (2, .v (.bool false)), (7, .p 0 0)]
  have e38 := hc
  have e38r := hR
  unfold canListOffsetsRequest at e38
  obtain ⟨e38_0, e38_1, ⟨e38_2, e38_2e⟩, e38_3, e38_U, _⟩ := e38
  obtain ⟨R39, hR40⟩ : ∃ R, R = (if (decide (v ≥ 6)) = true then (uv T.U.length) ++ (tagsR T.U) else []) ++ ([] : Bs) := ⟨_, rfl⟩
  obtain ⟨R41, hR42⟩ : ∃ R, R = (if (decide (v ≥ 10)) = true then be 4 ((IntKind.i32.wrap (T.at_ 3).N)) else []) ++ R39 := ⟨_, rfl⟩
  obtain ⟨R43, hR44⟩ : ∃ R, R = ((if (decide (v ≥ 6)) = true then (uv ((lst (T.at_ 2)).length + 1)) else (be 4 (lst (T.at_ 2)).length)) ++ ((lst (T.at_ 2)).flatMap (tEListOffsetsRequestTopic v))) ++ R41 := ⟨_, rfl⟩
  obtain ⟨R45, hR46⟩ : ∃ R, R = (if (decide (v ≥ 2)) = true then be 1 ((IntKind.i8.wrap (T.at_ 1).N)) else []) ++ R43 := ⟨_, rfl⟩
  obtain ⟨R47, hR48⟩ : ∃ R, R = (be 4 ((IntKind.i32.wrap (T.at_ 0).N))) ++ R45 := ⟨_, rfl⟩
  have hS49 := hS37.cast (t := R47) (by rw [teListOffsetsRequest, hR48, hR46, hR44, hR42, hR40]; unfold tEListOffsetsRequest_; simp only [List.append_assoc])
  clear hS37
  refine wp_seq ?_
  refine rs_sr [(0, .p 1 0), (2, .v (.bool false)), (7, .p 0 0), (8, .v (.int .i16 v))] hS49 fun _ hS50 => ?_
  clear hS49
  refine then_normal ?_
  refine wp_seq ?_
  refine rs_sr [(0, .p 1 0), (2, .v (.bool false)), (7, .p 0 0), (8, .v (.int .i16 v))] hS50 fun _ hS51 => ?_
  clear hS50
  refine then_normal ?_
  refine wp_seq ?_
  refine rs_sr [(0, .p 1 0), (2, .v (.bool false)), (7, .p 0 0), (8, .v (.int .i16 v)), (9, .v (.bool (decide (v ≥ 6))))] hS51 fun _ hS52 => ?_
  clear hS51
  refine then_normal ?_
  refine wp_seq ?_
  refine rs_sr [(0, .p 1 0), (2, .v (.bool false)), (7, .p 0 0), (8, .v (.int .i16 v)), (9, .v (.bool (decide (v ≥ 6))))] hS52 fun _ hS53 => ?_
  clear hS52
  refine then_normal ?_
  refine wp_seq ?_
  refine rs_sr [(2, .v (.bool false)), (7, .p 0 0), (8, .v (.int .i16 v)), (9, .v (.bool (decide (v ≥ 6)))), (10, .p 1 0)] hS53 fun _ hS54 => ?_
  clear hS53
  refine then_normal ?_
  refine wp_seq ?_
  refine wp_seq ?_
  have hS55 := hS54.cast hR48
  clear hS54
  refine rs_ca0 (d := 44) [(2, .v (.bool false)), (7, .p 0 0), (8, .v (.int .i16 v)), (9, .v (.bool (decide (v ≥ 6)))), (10, .p 1 0), (11, .v (.int .i32 (IntKind.i32.wrap (T.at_ 0).N)))] hS55 (pInt32 _ _) Tryz.call153 fun _ _ hS57 => ?_
  clear hS55
  refine then_normal ?_
  refine rs_sto [⟨bv, 0, [.int .i16 v, .int .i32 (IntKind.i32.wrap (T.at_ 0).N), .int .i8 0, .slice none 0 0, .int .i32 30000, .map none], true⟩] 0 [(2, .v (.bool false)), (7, .p 0 0), (8, .v (.int .i16 v)), (9, .v (.bool (decide (v ≥ 6)))), (10, .p 1 0)] hS57 fun _ _ hS58 => ?_
  clear hS57
  refine then_normal ?_
  refine wp_seq ?_
  have hS59 := hS58.cast hR46
  clear hS58
  refine wp_joinN (Mid := fun a_ w_ => ∃ (D60 : DV) (P' : FactW), (∀ w F, P' w F → noF w F ∧ (True) ∧ ((decide (v ≥ 2)) = true → D60.n = IntKind.i8.wrap (T.at_ 1).N) ∧ ((decide (v ≥ 2)) = false → D60.n = 0)) ∧ RS w (fun b o => b = bv ∧ o < 6) F 186 b25 [⟨bv, 0, [.int .i16 v, .int .i32 (IntKind.i32.wrap (T.at_ 0).N), .int .i8 D60.n, .slice none 0 0, .int .i32 30000, .map none], true⟩] [(2, .v (.bool false)), (7, .p 0 0), (8, .v (.int .i16 v)), (9, .v (.bool (decide (v ≥ 6)))), (10, .p 1 0)] P' R43 a_ w_) ?_ ?_
  ·
    refine wp_seq ?_
    refine rs_sr [(2, .v (.bool false)), (7, .p 0 0), (8, .v (.int .i16 v)), (9, .v (.bool (decide (v ≥ 6)))), (10, .p 1 0), (50, .v (.bool (decide (v ≥ 2))))] hS59 fun _ hS64 => then_normal ?_
    clear hS59
    refine cond_of hS64.env_ (b := decide (v ≥ 2)) (by kernel_rfl) (fun hc65 => ?_) (fun hc65 => ?_)
    ·
      have hS66 := hS64.cast (t := (be 1 ((IntKind.i8.wrap (T.at_ 1).N))) ++ R43) (by rw [if_pos hc65])
      clear hS64
      refine wp_seq ?_
      refine rs_ca0 (d := 51) [(2, .v (.bool false)), (7, .p 0 0), (8, .v (.int .i16 v)), (9, .v (.bool (decide (v ≥ 6)))), (10, .p 1 0), (12, .v (.int .i8 (IntKind.i8.wrap (T.at_ 1).N)))] hS66 (pInt8 _ _) Tryz.call167 fun _ _ hS68 => ?_
      clear hS66
      refine then_normal ?_
      refine rs_sto [⟨bv, 0, [.int .i16 v, .int .i32 (IntKind.i32.wrap (T.at_ 0).N), .int .i8 (IntKind.i8.wrap (T.at_ 1).N), .slice none 0 0, .int .i32 30000, .map none], true⟩] 0 [(2, .v (.bool false)), (7, .p 0 0), (8, .v (.int .i16 v)), (9, .v (.bool (decide (v ≥ 6)))), (10, .p 1 0)] hS68 fun _ _ hS69 => ?_
      clear hS68
      refine then_normal ?_
      exact ⟨dvN (IntKind.i8.wrap (T.at_ 1).N), _, fun w F h_ => ⟨h_, trivial, ⟨fun _ => rfl, (fun e_ => by rw [hc65] at e_; cases e_)⟩⟩, hS69.pk (env' := [(2, .v (.bool false)), (7, .p 0 0), (8, .v (.int .i16 v)), (9, .v (.bool (decide (v ≥ 6)))), (10, .p 1 0)])⟩
    ·
      have hS70 := hS64.cast (t := [] ++ R43) (by rw [if_neg (by rw [hc65]; decide)])
      clear hS64
      have hS71 := hS70.cast (t := R43) rfl
      clear hS70
      refine wp_skip (then_normal ?_)
      exact ⟨dvN (0), _, fun w F h_ => ⟨h_, trivial, ⟨(fun e_ => by rw [hc65] at e_; cases e_), fun _ => rfl⟩⟩, hS71.pk (env' := [(2, .v (.bool false)), (7, .p 0 0), (8, .v (.int .i16 v)), (9, .v (.bool (decide (v ≥ 6)))), (10, .p 1 0)])⟩
  rintro _ _ ⟨D60, P61, hP62, hS63⟩
  refine then_normal ?_
  refine wp_seq ?_
  refine wp_seq ?_
  refine rs_sr [(2, .v (.bool false)), (7, .p 0 0), (8, .v (.int .i16 v)), (9, .v (.bool (decide (v ≥ 6)))), (10, .p 1 0), (13, .v (.slice none 0 0))] hS63 fun _ hS72 => ?_
  clear hS63
  refine then_normal ?_
  refine wp_seq ?_
  refine rs_sr [(2, .v (.bool false)), (7, .p 0 0), (8, .v (.int .i16 v)), (9, .v (.bool (decide (v ≥ 6)))), (10, .p 1 0), (14, .v (.slice none 0 0))] hS72 fun _ hS73 => ?_
  clear hS72
  refine then_normal ?_
  refine wp_seq ?_
  refine rs_sr [(2, .v (.bool false)), (7, .p 0 0), (8, .v (.int .i16 v)), (9, .v (.bool (decide (v ≥ 6)))), (10, .p 1 0), (14, .v (.slice none 0 0))] hS73 fun _ hS74 => ?_
  clear hS73
  refine then_normal ?_
  refine wp_seq ?_
  have hS75 := hS74.cast hR44
  clear hS74
  have hS76 := hS75.cast (t := (if (decide (v ≥ 6)) = true then (uv ((lst (T.at_ 2)).length + 1)) else (be 4 (lst (T.at_ 2)).length)) ++ (((lst (T.at_ 2)).flatMap (tEListOffsetsRequestTopic v)) ++ R41)) (by rw [List.append_assoc])
  clear hS75
  refine rs_alt0 (d1 := 62) (d2 := 63) [(2, .v (.bool false)), (7, .p 0 0), (8, .v (.int .i16 v)), (9, .v (.bool (decide (v ≥ 6)))), (10, .p 1 0), (14, .v (.slice none 0 0)), (61, .v (.bool (decide (v ≥ 6))))] [(2, .v (.bool false)), (7, .p 0 0), (8, .v (.int .i16 v)), (9, .v (.bool (decide (v ≥ 6)))), (10, .p 1 0), (14, .v (.slice none 0 0)), (15, .v (.int .i32 (((lst (T.at_ 2)).length : Nat) : Int)))] hS76 (pCompactArrayLen ((lst (T.at_ 2)).length) e38_2 _ (flat_ge' (posListOffsetsRequestTopic v) _)) Tryz.call143 (pArrayLen ((lst (T.at_ 2)).length) e38_2 _ (flat_ge' (posListOffsetsRequestTopic v) _)) Tryz.call144 fun _ _ hS78 => ?_
  clear hS76
  refine then_normal ?_
  refine wp_seq ?_
  refine wp_seq ?_
  refine rs_ok (d := 64) [(2, .v (.bool false)), (7, .p 0 0), (8, .v (.int .i16 v)), (9, .v (.bool (decide (v ≥ 6)))), (10, .p 1 0), (14, .v (.slice none 0 0)), (15, .v (.int .i32 (((lst (T.at_ 2)).length : Nat) : Int))), (65, .v (.bool false))] hS78 (pOk _) Tryz.call145 fun _ _ hS80 => ?_
  clear hS78
  refine then_normal ?_
  refine cond_false hS80.env_ (b := false) (by kernel_rfl) (rfl) ?_
  refine wp_skip ?_
  refine then_normal ?_
  refine wp_seq ?_
  refine rs_cut0 (t := 125) (e := 132) (size := 3) (bytes := 48) (d := 68) (A0 := none) (m := 0) (cp := 0) [(2, .v (.bool false)), (7, .p 0 0), (8, .v (.int .i16 v)), (9, .v (.bool (decide (v ≥ 6)))), (10, .p 1 0), (15, .v (.int .i32 (((lst (T.at_ 2)).length : Nat) : Int))), (67, .v (.slice none 0 0))] [(2, .v (.bool false)), (7, .p 0 0), (8, .v (.int .i16 v)), (9, .v (.bool (decide (v ≥ 6)))), (10, .p 1 0), (14, .v (.slice none 0 0)), (15, .v (.int .i32 (((lst (T.at_ 2)).length : Nat) : Int)))] 1 hS80 fun _ hS81 => ?_
  clear hS80
  refine then_normal ?_
  refine wp_join2 (Mid := fun a_ w_ => ∃ (D82 : DV) (P' : FactW), (∀ w F, P' w F → P61 w F ∧ (Slots w F 3 D82.A D82.c D82.l (fun i => [.string (((D82.f i).f 0).s), .slice (((D82.f i).f 1).A) (((D82.f i).f 1).l) (((D82.f i).f 1).c), .map ((D82.f i).m)]) ∧ D82.l ≤ 1000000 ∧ ∀ i, i < D82.l → okListOffsetsRequestTopic w F (D82.f i)) ∧ (D82.l = (lst (T.at_ 2)).length ∧ ∀ i, i < D82.l → rvListOffsetsRequestTopic v (D82.f i) ((lst (T.at_ 2)).getD i .zero))) ∧ RS w (fun b o => b = bv ∧ o < 6) F 186 b25 [⟨bv, 0, [.int .i16 v, .int .i32 (IntKind.i32.wrap (T.at_ 0).N), .int .i8 D60.n, .slice none 0 0, .int .i32 30000, .map none], true⟩] [(7, .p 0 0), (8, .v (.int .i16 v)), (9, .v (.bool (decide (v ≥ 6)))), (10, .p 1 0), (14, .v (.slice D82.A D82.l D82.c))] P' R41 a_ w_) ?_ ?_
  ·
    refine wp_seq ?_
    refine rs_sr [(2, .v (.bool false)), (7, .p 0 0), (8, .v (.int .i16 v)), (9, .v (.bool (decide (v ≥ 6)))), (10, .p 1 0), (14, .v (.slice none 0 0)), (15, .v (.int .i32 (((lst (T.at_ 2)).length : Nat) : Int))), (70, .v (.bool (decide ((((lst (T.at_ 2)).length : Nat) : Int) > 0))))] hS81 fun _ hS86 => then_normal ?_
    clear hS81
    refine cond_of hS86.env_ (b := decide ((((lst (T.at_ 2)).length : Nat) : Int) > 0)) (by kernel_rfl) (fun hc87 => ?_) (fun hc87 => ?_)
    ·
      have hn_g88 : 0 < (lst (T.at_ 2)).length := by have h_ := of_decide_eq_true hc87; omega
      refine go_region [0, 1, 2, 3] (by kernel_rfl) ?_
      refine rs_rn [0, 1] [2, 3] [(2, .v (.bool false)), (7, .p 0 0), (8, .v (.int .i16 v)), (9, .v (.bool (decide (v ≥ 6)))), (10, .p 1 0), (15, .v (.int .i32 (((lst (T.at_ 2)).length : Nat) : Int))), (71, .v (.slice none 0 0)), (72, .v (.int .i32 (((lst (T.at_ 2)).length : Nat) : Int)))] hS86 fun _ hS90 => ?_
      clear hS86
      refine of_op (rs_appendZ (d := 73) (t := 125) (tn := 21) (e := 132) (size := 3) (bytes := 48) (k := .i32) (kn := .i32) (q := (((lst (T.at_ 2)).length : Nat) : Int)) (j := (lst (T.at_ 2)).length) (.agg #[.string ByteArray.empty, .slice none 0 0, .map none]) hS90 (fun g88 c89 _ _ hg_g88 hcap_g88 hS91 => ?_) rfl hn_g88 (by have := e38_2; omega))
      clear hS90
      refine rs_rn [3] [] [(2, .v (.bool false)), (7, .p 0 0), (8, .v (.int .i16 v)), (9, .v (.bool (decide (v ≥ 6)))), (10, .p 1 0), (14, .v (.slice (some ⟨g88, 0, none⟩) ((lst (T.at_ 2)).length) c89)), (15, .v (.int .i32 (((lst (T.at_ 2)).length : Nat) : Int)))] hS91 fun _ hS92 => wpOps_nil ?_
      clear hS91
      refine then_normal ?_
      refine wp_seq ?_
      refine rs_sr [(2, .v (.bool false)), (7, .p 0 0), (8, .v (.int .i16 v)), (9, .v (.bool (decide (v ≥ 6)))), (10, .p 1 0), (14, .v (.slice (some ⟨g88, 0, none⟩) ((lst (T.at_ 2)).length) c89)), (15, .v (.int .i32 (((lst (T.at_ 2)).length : Nat) : Int))), (16, .v (.int .i32 0))] hS92 fun _ hS93 => ?_
      clear hS92
      refine then_normal ?_
      refine wp_block ?_
      have hmP99 := hS93.mv
      have hS100 := (hS93.cast (t := (lst (T.at_ 2)).flatMap (tEListOffsetsRequestTopic v) ++ R41) rfl).pk (env' := [(2, .v (.bool false)), (7, .p 0 0), (8, .v (.int .i16 v)), (9, .v (.bool (decide (v ≥ 6)))), (10, .p 1 0), (14, .v (.slice (some ⟨g88, 0, none⟩) ((lst (T.at_ 2)).length) c89)), (15, .v (.int .i32 (((lst (T.at_ 2)).length : Nat) : Int))), (16, .v (.int .i32 ((0 : Nat) : Int)))])
      clear hS93
      refine rs_loop (tb := [⟨bv, 0, [.int .i16 v, .int .i32 (IntKind.i32.wrap (T.at_ 0).N), .int .i8 D60.n, .slice none 0 0, .int .i32 30000, .map none], true⟩]) (z := .agg #[.string ByteArray.empty, .slice none 0 0, .map none]) (cl := clListOffsetsRequestTopic) (ok := okListOffsetsRequestTopic) (rel := (rvListOffsetsRequestTopic v)) (L := lst (T.at_ 2)) (size := 3) (tEListOffsetsRequestTopic v) R41 (fun k => [(2, .v (.bool false)), (7, .p 0 0), (8, .v (.int .i16 v)), (9, .v (.bool (decide (v ≥ 6)))), (10, .p 1 0), (14, .v (.slice (some ⟨g88, 0, none⟩) ((lst (T.at_ 2)).length) c89)), (15, .v (.int .i32 (((lst (T.at_ 2)).length : Nat) : Int))), (16, .v (.int .i32 ((k : Nat) : Int)))]) hS100 mvListOffsetsRequestTopic (fun k94 t95 _ _ ht96 hk97 hS98 => ?_) (fun _ _ hS101 => ?_)
      ·
        obtain ⟨P102, hP103, hS104⟩ : ∃ P', (∀ w F, P' w F → (P61 w F ∧ doneF g88 3 clListOffsetsRequestTopic okListOffsetsRequestTopic (rvListOffsetsRequestTopic v) (lst (T.at_ 2)) k94 w F)) ∧ RS w (fun b o => b = bv ∧ o < 6) F 186 b25 [⟨bv, 0, [.int .i16 v, .int .i32 (IntKind.i32.wrap (T.at_ 0).N), .int .i8 D60.n, .slice none 0 0, .int .i32 30000, .map none], true⟩, restO g88 3 (.agg #[.string ByteArray.empty, .slice none 0 0, .map none]) ((lst (T.at_ 2)).length) k94] [(2, .v (.bool false)), (7, .p 0 0), (8, .v (.int .i16 v)), (9, .v (.bool (decide (v ≥ 6)))), (10, .p 1 0), (14, .v (.slice (some ⟨g88, 0, none⟩) ((lst (T.at_ 2)).length) c89)), (15, .v (.int .i32 (((lst (T.at_ 2)).length : Nat) : Int))), (16, .v (.int .i32 ((k94 : Nat) : Int)))] P' ((tEListOffsetsRequestTopic v) t95 ++ (((lst (T.at_ 2)).drop (k94 + 1)).flatMap (tEListOffsetsRequestTopic v) ++ R41)) _ _ := ⟨_, fun _ _ h => h, hS98⟩
        clear hS98
        obtain ⟨R105, hR106⟩ : ∃ R, R = ((lst (T.at_ 2)).drop (k94 + 1)).flatMap (tEListOffsetsRequestTopic v) ++ R41 := ⟨_, rfl⟩
        have e107 := (e38_2e t95 (List.mem_of_getElem? ht96))
        have e107r := (ranged_lst (ranged_at e38r 2) t95 (List.mem_of_getElem? ht96))
        unfold canListOffsetsRequestTopic at e107
        obtain ⟨e107_0, ⟨e107_1, e107_1e⟩, e107_U, _⟩ := e107
        obtain ⟨R108, hR109⟩ : ∃ R, R = (if (decide (v ≥ 6)) = true then (uv t95.U.length) ++ (tagsR t95.U) else []) ++ R105 := ⟨_, rfl⟩
        obtain ⟨R110, hR111⟩ : ∃ R, R = ((if (decide (v ≥ 6)) = true then (uv ((lst (t95.at_ 1)).length + 1)) else (be 4 (lst (t95.at_ 1)).length)) ++ ((lst (t95.at_ 1)).flatMap (tEListOffsetsRequestTopicPartition v))) ++ R108 := ⟨_, rfl⟩
        obtain ⟨R112, hR113⟩ : ∃ R, R = (if (decide (v ≥ 6)) = true then (uv ((t95.at_ 0).S.length + 1) ++ (t95.at_ 0).S) else (be 2 (t95.at_ 0).S.length ++ (t95.at_ 0).S)) ++ R110 := ⟨_, rfl⟩
        have hS114 := hS104.cast (t := R112) (by rw [hR113, hR111, hR109, ← hR106]; unfold tEListOffsetsRequestTopic; simp only [List.append_assoc])
        clear hS104
        refine wp_seq ?_
        refine wp_seq ?_
        refine rs_sr [(2, .v (.bool false)), (7, .p 0 0), (8, .v (.int .i16 v)), (9, .v (.bool (decide (v ≥ 6)))), (10, .p 1 0), (14, .v (.slice (some ⟨g88, 0, none⟩) ((lst (T.at_ 2)).length) c89)), (15, .v (.int .i32 (((lst (T.at_ 2)).length : Nat) : Int))), (16, .v (.int .i32 ((k94 : Nat) : Int))), (76, .v (.bool (decide (((k94 : Nat) : Int) < (((lst (T.at_ 2)).length : Nat) : Int)))))] hS114 fun _ hS115 => then_normal ?_
        clear hS114
        refine cond_true hS115.env_ (b := decide (((k94 : Nat) : Int) < (((lst (T.at_ 2)).length : Nat) : Int))) (by kernel_rfl) (decide_eq_true (by omega)) ?_
        refine wp_skip ?_
        refine then_normal ?_
        refine wp_seq ?_
        refine wp_block ?_
        refine wp_seq ?_
        refine rs_elem (t := 125) (e := 132) (size := 3) (bytes := 48) (d := 81) (tb := [⟨bv, 0, [.int .i16 v, .int .i32 (IntKind.i32.wrap (T.at_ 0).N), .int .i8 D60.n, .slice none 0 0, .int .i32 30000, .map none], true⟩]) (z := .agg #[.string ByteArray.empty, .slice none 0 0, .map none]) [(2, .v (.bool false)), (7, .p 0 0), (8, .v (.int .i16 v)), (9, .v (.bool (decide (v ≥ 6)))), (10, .p 1 0), (14, .v (.slice (some ⟨g88, 0, none⟩) ((lst (T.at_ 2)).length) c89)), (15, .v (.int .i32 (((lst (T.at_ 2)).length : Nat) : Int))), (16, .v (.int .i32 ((k94 : Nat) : Int))), (79, .v (.slice (some ⟨g88, 0, none⟩) ((lst (T.at_ 2)).length) c89)), (80, .v (.int .i32 ((k94 : Nat) : Int)))] [(2, .v (.bool false)), (7, .p 0 0), (8, .v (.int .i16 v)), (9, .v (.bool (decide (v ≥ 6)))), (10, .p 1 0), (14, .v (.slice (some ⟨g88, 0, none⟩) ((lst (T.at_ 2)).length) c89)), (15, .v (.int .i32 (((lst (T.at_ 2)).length : Nat) : Int))), (16, .v (.int .i32 ((k94 : Nat) : Int))), (17, .p 3 0)] 2 hS115 hk97 rfl (by kernel_rfl) fun _ hS116 => ?_
        clear hS115
        have hS117 := hS116.tbEq (tb' := [⟨bv, 0, [.int .i16 v, .int .i32 (IntKind.i32.wrap (T.at_ 0).N), .int .i8 D60.n, .slice none 0 0, .int .i32 30000, .map none], true⟩, restO g88 3 (.agg #[.string ByteArray.empty, .slice none 0 0, .map none]) ((lst (T.at_ 2)).length) (k94 + 1), ⟨g88, k94 * 3, [.string ByteArray.empty, .slice none 0 0, .map none], true⟩]) rfl
        clear hS116
        refine then_normal ?_
        refine wp_seq ?_
        refine go_region [0, 1] (by kernel_rfl) ?_
        refine rs_rn [0] [1] [(2, .v (.bool false)), (7, .p 0 0), (8, .v (.int .i16 v)), (9, .v (.bool (decide (v ≥ 6)))), (10, .p 1 0), (14, .v (.slice (some ⟨g88, 0, none⟩) ((lst (T.at_ 2)).length) c89)), (15, .v (.int .i32 (((lst (T.at_ 2)).length : Nat) : Int))), (16, .v (.int .i32 ((k94 : Nat) : Int))), (17, .p 3 0), (82, .p 3 0)] hS117 fun _ hS118 => ?_
        clear hS117
        refine of_op (rs_nop (d := 83) (vs := [.pointer (some ⟨g88, k94 * 3, none⟩)]) hS118 (fun _ => nop168 _ _ _) Tryz.call168 fun _ hS119 => ?_)
        clear hS118
        refine wpOps_nil ?_
        have hS120 := hS119.pk (env' := [(2, .v (.bool false)), (7, .p 0 0), (8, .v (.int .i16 v)), (9, .v (.bool (decide (v ≥ 6)))), (10, .p 1 0), (14, .v (.slice (some ⟨g88, 0, none⟩) ((lst (T.at_ 2)).length) c89)), (15, .v (.int .i32 (((lst (T.at_ 2)).length : Nat) : Int))), (16, .v (.int .i32 ((k94 : Nat) : Int))), (17, .p 3 0)])
        clear hS119
        refine then_normal ?_
        refine wp_seq ?_
        refine rs_sr [(2, .v (.bool false)), (7, .p 0 0), (8, .v (.int .i16 v)), (9, .v (.bool (decide (v ≥ 6)))), (10, .p 1 0), (14, .v (.slice (some ⟨g88, 0, none⟩) ((lst (T.at_ 2)).length) c89)), (15, .v (.int .i32 (((lst (T.at_ 2)).length : Nat) : Int))), (16, .v (.int .i32 ((k94 : Nat) : Int))), (18, .p 3 0)] hS120 fun _ hS121 => ?_
        clear hS120
        refine then_normal ?_
        refine wp_seq ?_
        refine wp_seq ?_
        refine rs_sr [(2, .v (.bool false)), (7, .p 0 0), (8, .v (.int .i16 v)), (9, .v (.bool (decide (v ≥ 6)))), (10, .p 1 0), (14, .v (.slice (some ⟨g88, 0, none⟩) ((lst (T.at_ 2)).length) c89)), (15, .v (.int .i32 (((lst (T.at_ 2)).length : Nat) : Int))), (16, .v (.int .i32 ((k94 : Nat) : Int))), (18, .p 3 0)] hS121 fun _ hS122 => ?_
        clear hS121
        refine then_normal ?_
        refine wp_seq ?_
        refine wp_seq ?_
        refine rs_sr [(2, .v (.bool false)), (7, .p 0 0), (8, .v (.int .i16 v)), (9, .v (.bool (decide (v ≥ 6)))), (10, .p 1 0), (14, .v (.slice (some ⟨g88, 0, none⟩) ((lst (T.at_ 2)).length) c89)), (15, .v (.int .i32 (((lst (T.at_ 2)).length : Nat) : Int))), (16, .v (.int .i32 ((k94 : Nat) : Int))), (18, .p 3 0), (85, .v (.bool false))] hS122 fun _ hS123 => then_normal ?_
        clear hS122
        refine cond_false hS123.env_ (b := false) (by kernel_rfl) (rfl) ?_
        have hS124 := hS123.cast hR113
        clear hS123
        refine rs_alt0 (d1 := 90) (d2 := 91) [(2, .v (.bool false)), (7, .p 0 0), (8, .v (.int .i16 v)), (9, .v (.bool (decide (v ≥ 6)))), (10, .p 1 0), (14, .v (.slice (some ⟨g88, 0, none⟩) ((lst (T.at_ 2)).length) c89)), (15, .v (.int .i32 (((lst (T.at_ 2)).length : Nat) : Int))), (16, .v (.int .i32 ((k94 : Nat) : Int))), (18, .p 3 0), (89, .v (.bool (decide (v ≥ 6))))] [(2, .v (.bool false)), (7, .p 0 0), (8, .v (.int .i16 v)), (9, .v (.bool (decide (v ≥ 6)))), (10, .p 1 0), (14, .v (.slice (some ⟨g88, 0, none⟩) ((lst (T.at_ 2)).length) c89)), (15, .v (.int .i32 (((lst (T.at_ 2)).length : Nat) : Int))), (16, .v (.int .i32 ((k94 : Nat) : Int))), (18, .p 3 0), (19, .v (.string (bs (t95.at_ 0).S)))] hS124 (pCompactString (t95.at_ 0).S e107_0 _) Tryz.call150 (pString (t95.at_ 0).S e107_0 _) Tryz.call151 fun _ _ hS126 => ?_
        clear hS124
        refine then_normal ?_
        refine rs_sto [⟨bv, 0, [.int .i16 v, .int .i32 (IntKind.i32.wrap (T.at_ 0).N), .int .i8 D60.n, .slice none 0 0, .int .i32 30000, .map none], true⟩, restO g88 3 (.agg #[.string ByteArray.empty, .slice none 0 0, .map none]) ((lst (T.at_ 2)).length) (k94 + 1), ⟨g88, k94 * 3, [.string (bs (t95.at_ 0).S), .slice none 0 0, .map none], true⟩] 2 [(2, .v (.bool false)), (7, .p 0 0), (8, .v (.int .i16 v)), (9, .v (.bool (decide (v ≥ 6)))), (10, .p 1 0), (14, .v (.slice (some ⟨g88, 0, none⟩) ((lst (T.at_ 2)).length) c89)), (15, .v (.int .i32 (((lst (T.at_ 2)).length : Nat) : Int))), (16, .v (.int .i32 ((k94 : Nat) : Int))), (18, .p 3 0)] hS126 fun _ _ hS127 => ?_
        clear hS126
        refine then_normal ?_
        refine wp_seq ?_
        refine wp_seq ?_
        refine rs_sr [(2, .v (.bool false)), (7, .p 0 0), (8, .v (.int .i16 v)), (9, .v (.bool (decide (v ≥ 6)))), (10, .p 1 0), (14, .v (.slice (some ⟨g88, 0, none⟩) ((lst (T.at_ 2)).length) c89)), (15, .v (.int .i32 (((lst (T.at_ 2)).length : Nat) : Int))), (16, .v (.int .i32 ((k94 : Nat) : Int))), (18, .p 3 0), (20, .v (.slice none 0 0))] hS127 fun _ hS128 => ?_
        clear hS127
        refine then_normal ?_
        refine wp_seq ?_
        refine rs_sr [(2, .v (.bool false)), (7, .p 0 0), (8, .v (.int .i16 v)), (9, .v (.bool (decide (v ≥ 6)))), (10, .p 1 0), (14, .v (.slice (some ⟨g88, 0, none⟩) ((lst (T.at_ 2)).length) c89)), (15, .v (.int .i32 (((lst (T.at_ 2)).length : Nat) : Int))), (16, .v (.int .i32 ((k94 : Nat) : Int))), (18, .p 3 0), (21, .v (.slice none 0 0))] hS128 fun _ hS129 => ?_
        clear hS128
        refine then_normal ?_
        refine wp_seq ?_
        refine rs_sr [(2, .v (.bool false)), (7, .p 0 0), (8, .v (.int .i16 v)), (9, .v (.bool (decide (v ≥ 6)))), (10, .p 1 0), (14, .v (.slice (some ⟨g88, 0, none⟩) ((lst (T.at_ 2)).length) c89)), (15, .v (.int .i32 (((lst (T.at_ 2)).length : Nat) : Int))), (16, .v (.int .i32 ((k94 : Nat) : Int))), (18, .p 3 0), (21, .v (.slice none 0 0))] hS129 fun _ hS130 => ?_
        clear hS129
        refine then_normal ?_
        refine wp_seq ?_
        have hS131 := hS130.cast hR111
        clear hS130
        have hS132 := hS131.cast (t := (if (decide (v ≥ 6)) = true then (uv ((lst (t95.at_ 1)).length + 1)) else (be 4 (lst (t95.at_ 1)).length)) ++ (((lst (t95.at_ 1)).flatMap (tEListOffsetsRequestTopicPartition v)) ++ R108)) (by rw [List.append_assoc])
        clear hS131
        refine rs_alt0 (d1 := 102) (d2 := 103) [(2, .v (.bool false)), (7, .p 0 0), (8, .v (.int .i16 v)), (9, .v (.bool (decide (v ≥ 6)))), (10, .p 1 0), (14, .v (.slice (some ⟨g88, 0, none⟩) ((lst (T.at_ 2)).length) c89)), (15, .v (.int .i32 (((lst (T.at_ 2)).length : Nat) : Int))), (16, .v (.int .i32 ((k94 : Nat) : Int))), (18, .p 3 0), (21, .v (.slice none 0 0)), (101, .v (.bool (decide (v ≥ 6))))] [(2, .v (.bool false)), (7, .p 0 0), (8, .v (.int .i16 v)), (9, .v (.bool (decide (v ≥ 6)))), (10, .p 1 0), (14, .v (.slice (some ⟨g88, 0, none⟩) ((lst (T.at_ 2)).length) c89)), (15, .v (.int .i32 (((lst (T.at_ 2)).length : Nat) : Int))), (16, .v (.int .i32 ((k94 : Nat) : Int))), (18, .p 3 0), (21, .v (.slice none 0 0)), (22, .v (.int .i32 (((lst (t95.at_ 1)).length : Nat) : Int)))] hS132 (pCompactArrayLen ((lst (t95.at_ 1)).length) e107_1 _ (flat_ge' (posListOffsetsRequestTopicPartition v) _)) Tryz.call143 (pArrayLen ((lst (t95.at_ 1)).length) e107_1 _ (flat_ge' (posListOffsetsRequestTopicPartition v) _)) Tryz.call144 fun _ _ hS134 => ?_
        clear hS132
        refine then_normal ?_
        refine wp_seq ?_
        refine wp_seq ?_
        refine rs_ok (d := 104) [(2, .v (.bool false)), (7, .p 0 0), (8, .v (.int .i16 v)), (9, .v (.bool (decide (v ≥ 6)))), (10, .p 1 0), (14, .v (.slice (some ⟨g88, 0, none⟩) ((lst (T.at_ 2)).length) c89)), (15, .v (.int .i32 (((lst (T.at_ 2)).length : Nat) : Int))), (16, .v (.int .i32 ((k94 : Nat) : Int))), (18, .p 3 0), (21, .v (.slice none 0 0)), (22, .v (.int .i32 (((lst (t95.at_ 1)).length : Nat) : Int))), (105, .v (.bool false))] hS134 (pOk _) Tryz.call145 fun _ _ hS136 => ?_
        clear hS134
        refine then_normal ?_
        refine cond_false hS136.env_ (b := false) (by kernel_rfl) (rfl) ?_
        refine wp_skip ?_
        refine then_normal ?_
        refine wp_seq ?_
        refine rs_cut0 (t := 130) (e := 135) (size := 5) (bytes := 32) (d := 108) (A0 := none) (m := 0) (cp := 0) [(2, .v (.bool false)), (7, .p 0 0), (8, .v (.int .i16 v)), (9, .v (.bool (decide (v ≥ 6)))), (10, .p 1 0), (14, .v (.slice (some ⟨g88, 0, none⟩) ((lst (T.at_ 2)).length) c89)), (15, .v (.int .i32 (((lst (T.at_ 2)).length : Nat) : Int))), (16, .v (.int .i32 ((k94 : Nat) : Int))), (18, .p 3 0), (22, .v (.int .i32 (((lst (t95.at_ 1)).length : Nat) : Int))), (107, .v (.slice none 0 0))] [(2, .v (.bool false)), (7, .p 0 0), (8, .v (.int .i16 v)), (9, .v (.bool (decide (v ≥ 6)))), (10, .p 1 0), (14, .v (.slice (some ⟨g88, 0, none⟩) ((lst (T.at_ 2)).length) c89)), (15, .v (.int .i32 (((lst (T.at_ 2)).length : Nat) : Int))), (16, .v (.int .i32 ((k94 : Nat) : Int))), (18, .p 3 0), (21, .v (.slice none 0 0)), (22, .v (.int .i32 (((lst (t95.at_ 1)).length : Nat) : Int)))] 1 hS136 fun _ hS137 => ?_
        clear hS136
        refine then_normal ?_
        refine wp_join2 (Mid := fun a_ w_ => ∃ (D138 : DV) (P' : FactW), (∀ w F, P' w F → P102 w F ∧ (Slots w F 5 D138.A D138.c D138.l (fun i => [.int .i32 (((D138.f i).f 0).n), .int .i32 (((D138.f i).f 1).n), .int .i64 (((D138.f i).f 2).n), .int .i32 (((D138.f i).f 3).n), .map ((D138.f i).m)]) ∧ D138.l ≤ 1000000 ∧ ∀ i, i < D138.l → okListOffsetsRequestTopicPartition w F (D138.f i)) ∧ (D138.l = (lst (t95.at_ 1)).length ∧ ∀ i, i < D138.l → rvListOffsetsRequestTopicPartition v (D138.f i) ((lst (t95.at_ 1)).getD i .zero))) ∧ RS w (fun b o => b = bv ∧ o < 6) F 186 b25 [⟨bv, 0, [.int .i16 v, .int .i32 (IntKind.i32.wrap (T.at_ 0).N), .int .i8 D60.n, .slice none 0 0, .int .i32 30000, .map none], true⟩, restO g88 3 (.agg #[.string ByteArray.empty, .slice none 0 0, .map none]) ((lst (T.at_ 2)).length) (k94 + 1), ⟨g88, k94 * 3, [.string (bs (t95.at_ 0).S), .slice none 0 0, .map none], true⟩] [(2, .v (.bool false)), (7, .p 0 0), (8, .v (.int .i16 v)), (9, .v (.bool (decide (v ≥ 6)))), (10, .p 1 0), (14, .v (.slice (some ⟨g88, 0, none⟩) ((lst (T.at_ 2)).length) c89)), (15, .v (.int .i32 (((lst (T.at_ 2)).length : Nat) : Int))), (16, .v (.int .i32 ((k94 : Nat) : Int))), (18, .p 3 0), (21, .v (.slice D138.A D138.l D138.c))] P' R108 a_ w_) ?_ ?_
        ·
          refine wp_seq ?_
          refine rs_sr [(2, .v (.bool false)), (7, .p 0 0), (8, .v (.int .i16 v)), (9, .v (.bool (decide (v ≥ 6)))), (10, .p 1 0), (14, .v (.slice (some ⟨g88, 0, none⟩) ((lst (T.at_ 2)).length) c89)), (15, .v (.int .i32 (((lst (T.at_ 2)).length : Nat) : Int))), (16, .v (.int .i32 ((k94 : Nat) : Int))), (18, .p 3 0), (21, .v (.slice none 0 0)), (22, .v (.int .i32 (((lst (t95.at_ 1)).length : Nat) : Int))), (110, .v (.bool (decide ((((lst (t95.at_ 1)).length : Nat) : Int) > 0))))] hS137 fun _ hS142 => then_normal ?_
          clear hS137
          refine cond_of hS142.env_ (b := decide ((((lst (t95.at_ 1)).length : Nat) : Int) > 0)) (by kernel_rfl) (fun hc143 => ?_) (fun hc143 => ?_)
          ·
            have hn_g144 : 0 < (lst (t95.at_ 1)).length := by have h_ := of_decide_eq_true hc143; omega
            refine go_region [0, 1, 2, 3] (by kernel_rfl) ?_
            refine rs_rn [0, 1] [2, 3] [(2, .v (.bool false)), (7, .p 0 0), (8, .v (.int .i16 v)), (9, .v (.bool (decide (v ≥ 6)))), (10, .p 1 0), (14, .v (.slice (some ⟨g88, 0, none⟩) ((lst (T.at_ 2)).length) c89)), (15, .v (.int .i32 (((lst (T.at_ 2)).length : Nat) : Int))), (16, .v (.int .i32 ((k94 : Nat) : Int))), (18, .p 3 0), (22, .v (.int .i32 (((lst (t95.at_ 1)).length : Nat) : Int))), (111, .v (.slice none 0 0)), (112, .v (.int .i32 (((lst (t95.at_ 1)).length : Nat) : Int)))] hS142 fun _ hS146 => ?_
            clear hS142
            refine of_op (rs_appendZ (d := 113) (t := 130) (tn := 21) (e := 135) (size := 5) (bytes := 32) (k := .i32) (kn := .i32) (q := (((lst (t95.at_ 1)).length : Nat) : Int)) (j := (lst (t95.at_ 1)).length) (.agg #[.int .i32 0, .int .i32 0, .int .i64 0, .int .i32 0, .map none]) hS146 (fun g144 c145 _ _ hg_g144 hcap_g144 hS147 => ?_) rfl hn_g144 (by have := e107_1; omega))
            clear hS146
            refine rs_rn [3] [] [(2, .v (.bool false)), (7, .p 0 0), (8, .v (.int .i16 v)), (9, .v (.bool (decide (v ≥ 6)))), (10, .p 1 0), (14, .v (.slice (some ⟨g88, 0, none⟩) ((lst (T.at_ 2)).length) c89)), (15, .v (.int .i32 (((lst (T.at_ 2)).length : Nat) : Int))), (16, .v (.int .i32 ((k94 : Nat) : Int))), (18, .p 3 0), (21, .v (.slice (some ⟨g144, 0, none⟩) ((lst (t95.at_ 1)).length) c145)), (22, .v (.int .i32 (((lst (t95.at_ 1)).length : Nat) : Int)))] hS147 fun _ hS148 => wpOps_nil ?_
            clear hS147
            refine then_normal ?_
            refine wp_seq ?_
            refine rs_sr [(2, .v (.bool false)), (7, .p 0 0), (8, .v (.int .i16 v)), (9, .v (.bool (decide (v ≥ 6)))), (10, .p 1 0), (14, .v (.slice (some ⟨g88, 0, none⟩) ((lst (T.at_ 2)).length) c89)), (15, .v (.int .i32 (((lst (T.at_ 2)).length : Nat) : Int))), (16, .v (.int .i32 ((k94 : Nat) : Int))), (18, .p 3 0), (21, .v (.slice (some ⟨g144, 0, none⟩) ((lst (t95.at_ 1)).length) c145)), (22, .v (.int .i32 (((lst (t95.at_ 1)).length : Nat) : Int))), (23, .v (.int .i32 0))] hS148 fun _ hS149 => ?_
            clear hS148
            refine then_normal ?_
            refine wp_block ?_
            have hmP155 := hS149.mv
            have hS156 := (hS149.cast (t := (lst (t95.at_ 1)).flatMap (tEListOffsetsRequestTopicPartition v) ++ R108) rfl).pk (env' := [(2, .v (.bool false)), (7, .p 0 0), (8, .v (.int .i16 v)), (9, .v (.bool (decide (v ≥ 6)))), (10, .p 1 0), (14, .v (.slice (some ⟨g88, 0, none⟩) ((lst (T.at_ 2)).length) c89)), (15, .v (.int .i32 (((lst (T.at_ 2)).length : Nat) : Int))), (16, .v (.int .i32 ((k94 : Nat) : Int))), (18, .p 3 0), (21, .v (.slice (some ⟨g144, 0, none⟩) ((lst (t95.at_ 1)).length) c145)), (22, .v (.int .i32 (((lst (t95.at_ 1)).length : Nat) : Int))), (23, .v (.int .i32 ((0 : Nat) : Int)))])
            clear hS149
            refine rs_loop (tb := [⟨bv, 0, [.int .i16 v, .int .i32 (IntKind.i32.wrap (T.at_ 0).N), .int .i8 D60.n, .slice none 0 0, .int .i32 30000, .map none], true⟩, restO g88 3 (.agg #[.string ByteArray.empty, .slice none 0 0, .map none]) ((lst (T.at_ 2)).length) (k94 + 1), ⟨g88, k94 * 3, [.string (bs (t95.at_ 0).S), .slice none 0 0, .map none], true⟩]) (z := .agg #[.int .i32 0, .int .i32 0, .int .i64 0, .int .i32 0, .map none]) (cl := clListOffsetsRequestTopicPartition) (ok := okListOffsetsRequestTopicPartition) (rel := (rvListOffsetsRequestTopicPartition v)) (L := lst (t95.at_ 1)) (size := 5) (tEListOffsetsRequestTopicPartition v) R108 (fun k => [(2, .v (.bool false)), (7, .p 0 0), (8, .v (.int .i16 v)), (9, .v (.bool (decide (v ≥ 6)))), (10, .p 1 0), (14, .v (.slice (some ⟨g88, 0, none⟩) ((lst (T.at_ 2)).length) c89)), (15, .v (.int .i32 (((lst (T.at_ 2)).length : Nat) : Int))), (16, .v (.int .i32 ((k94 : Nat) : Int))), (18, .p 3 0), (21, .v (.slice (some ⟨g144, 0, none⟩) ((lst (t95.at_ 1)).length) c145)), (22, .v (.int .i32 (((lst (t95.at_ 1)).length : Nat) : Int))), (23, .v (.int .i32 ((k : Nat) : Int)))]) hS156 mvListOffsetsRequestTopicPartition (fun k150 t151 _ _ ht152 hk153 hS154 => ?_) (fun _ _ hS157 => ?_)
            ·
              obtain ⟨P158, hP159, hS160⟩ : ∃ P', (∀ w F, P' w F → (P102 w F ∧ doneF g144 5 clListOffsetsRequestTopicPartition okListOffsetsRequestTopicPartition (rvListOffsetsRequestTopicPartition v) (lst (t95.at_ 1)) k150 w F)) ∧ RS w (fun b o => b = bv ∧ o < 6) F 186 b25 [⟨bv, 0, [.int .i16 v, .int .i32 (IntKind.i32.wrap (T.at_ 0).N), .int .i8 D60.n, .slice none 0 0, .int .i32 30000, .map none], true⟩, restO g88 3 (.agg #[.string ByteArray.empty, .slice none 0 0, .map none]) ((lst (T.at_ 2)).length) (k94 + 1), ⟨g88, k94 * 3, [.string (bs (t95.at_ 0).S), .slice none 0 0, .map none], true⟩, restO g144 5 (.agg #[.int .i32 0, .int .i32 0, .int .i64 0, .int .i32 0, .map none]) ((lst (t95.at_ 1)).length) k150] [(2, .v (.bool false)), (7, .p 0 0), (8, .v (.int .i16 v)), (9, .v (.bool (decide (v ≥ 6)))), (10, .p 1 0), (14, .v (.slice (some ⟨g88, 0, none⟩) ((lst (T.at_ 2)).length) c89)), (15, .v (.int .i32 (((lst (T.at_ 2)).length : Nat) : Int))), (16, .v (.int .i32 ((k94 : Nat) : Int))), (18, .p 3 0), (21, .v (.slice (some ⟨g144, 0, none⟩) ((lst (t95.at_ 1)).length) c145)), (22, .v (.int .i32 (((lst (t95.at_ 1)).length : Nat) : Int))), (23, .v (.int .i32 ((k150 : Nat) : Int)))] P' ((tEListOffsetsRequestTopicPartition v) t151 ++ (((lst (t95.at_ 1)).drop (k150 + 1)).flatMap (tEListOffsetsRequestTopicPartition v) ++ R108)) _ _ := ⟨_, fun _ _ h => h, hS154⟩
              clear hS154
              obtain ⟨R161, hR162⟩ : ∃ R, R = ((lst (t95.at_ 1)).drop (k150 + 1)).flatMap (tEListOffsetsRequestTopicPartition v) ++ R108 := ⟨_, rfl⟩
              have e163 := (e107_1e t151 (List.mem_of_getElem? ht152))
              have e163r := (ranged_lst (ranged_at e107r 1) t151 (List.mem_of_getElem? ht152))
              unfold canListOffsetsRequestTopicPartition at e163
              obtain ⟨e163_0, e163_1, e163_2, e163_3, e163_U, _⟩ := e163
              obtain ⟨R164, hR165⟩ : ∃ R, R = (if (decide (v ≥ 6)) = true then (uv t151.U.length) ++ (tagsR t151.U) else []) ++ R161 := ⟨_, rfl⟩
              obtain ⟨R166, hR167⟩ : ∃ R, R = (if ((if (decide (v ≥ 0)) = true then decide (v ≤ 0) else false)) = true then be 4 ((IntKind.i32.wrap (t151.at_ 3).N)) else []) ++ R164 := ⟨_, rfl⟩
              obtain ⟨R168, hR169⟩ : ∃ R, R = (be 8 ((t151.at_ 2).N)) ++ R166 := ⟨_, rfl⟩
              obtain ⟨R170, hR171⟩ : ∃ R, R = (if (decide (v ≥ 4)) = true then be 4 ((IntKind.i32.wrap (t151.at_ 1).N)) else []) ++ R168 := ⟨_, rfl⟩
              obtain ⟨R172, hR173⟩ : ∃ R, R = (be 4 ((IntKind.i32.wrap (t151.at_ 0).N))) ++ R170 := ⟨_, rfl⟩
              have hS174 := hS160.cast (t := R172) (by rw [hR173, hR171, hR169, hR167, hR165, ← hR162]; unfold tEListOffsetsRequestTopicPartition; simp only [List.append_assoc])
              clear hS160
              refine wp_seq ?_
              refine wp_seq ?_
              refine rs_sr [(2, .v (.bool false)), (7, .p 0 0), (8, .v (.int .i16 v)), (9, .v (.bool (decide (v ≥ 6)))), (10, .p 1 0), (14, .v (.slice (some ⟨g88, 0, none⟩) ((lst (T.at_ 2)).length) c89)), (15, .v (.int .i32 (((lst (T.at_ 2)).length : Nat) : Int))), (16, .v (.int .i32 ((k94 : Nat) : Int))), (18, .p 3 0), (21, .v (.slice (some ⟨g144, 0, none⟩) ((lst (t95.at_ 1)).length) c145)), (22, .v (.int .i32 (((lst (t95.at_ 1)).length : Nat) : Int))), (23, .v (.int .i32 ((k150 : Nat) : Int))), (116, .v (.bool (decide (((k150 : Nat) : Int) < (((lst (t95.at_ 1)).length : Nat) : Int)))))] hS174 fun _ hS175 => then_normal ?_
              clear hS174
              refine cond_true hS175.env_ (b := decide (((k150 : Nat) : Int) < (((lst (t95.at_ 1)).length : Nat) : Int))) (by kernel_rfl) (decide_eq_true (by omega)) ?_
              refine wp_skip ?_
              refine then_normal ?_
              refine wp_seq ?_
              refine wp_block ?_
              refine wp_seq ?_
              refine rs_elem (t := 130) (e := 135) (size := 5) (bytes := 32) (d := 121) (tb := [⟨bv, 0, [.int .i16 v, .int .i32 (IntKind.i32.wrap (T.at_ 0).N), .int .i8 D60.n, .slice none 0 0, .int .i32 30000, .map none], true⟩, restO g88 3 (.agg #[.string ByteArray.empty, .slice none 0 0, .map none]) ((lst (T.at_ 2)).length) (k94 + 1), ⟨g88, k94 * 3, [.string (bs (t95.at_ 0).S), .slice none 0 0, .map none], true⟩]) (z := .agg #[.int .i32 0, .int .i32 0, .int .i64 0, .int .i32 0, .map none]) [(2, .v (.bool false)), (7, .p 0 0), (8, .v (.int .i16 v)), (9, .v (.bool (decide (v ≥ 6)))), (10, .p 1 0), (14, .v (.slice (some ⟨g88, 0, none⟩) ((lst (T.at_ 2)).length) c89)), (15, .v (.int .i32 (((lst (T.at_ 2)).length : Nat) : Int))), (16, .v (.int .i32 ((k94 : Nat) : Int))), (18, .p 3 0), (21, .v (.slice (some ⟨g144, 0, none⟩) ((lst (t95.at_ 1)).length) c145)), (22, .v (.int .i32 (((lst (t95.at_ 1)).length : Nat) : Int))), (23, .v (.int .i32 ((k150 : Nat) : Int))), (119, .v (.slice (some ⟨g144, 0, none⟩) ((lst (t95.at_ 1)).length) c145)), (120, .v (.int .i32 ((k150 : Nat) : Int)))] [(2, .v (.bool false)), (7, .p 0 0), (8, .v (.int .i16 v)), (9, .v (.bool (decide (v ≥ 6)))), (10, .p 1 0), (14, .v (.slice (some ⟨g88, 0, none⟩) ((lst (T.at_ 2)).length) c89)), (15, .v (.int .i32 (((lst (T.at_ 2)).length : Nat) : Int))), (16, .v (.int .i32 ((k94 : Nat) : Int))), (18, .p 3 0), (21, .v (.slice (some ⟨g144, 0, none⟩) ((lst (t95.at_ 1)).length) c145)), (22, .v (.int .i32 (((lst (t95.at_ 1)).length : Nat) : Int))), (23, .v (.int .i32 ((k150 : Nat) : Int))), (24, .p 5 0)] 2 hS175 hk153 rfl (by kernel_rfl) fun _ hS176 => ?_
              clear hS175
              have hS177 := hS176.tbEq (tb' := [⟨bv, 0, [.int .i16 v, .int .i32 (IntKind.i32.wrap (T.at_ 0).N), .int .i8 D60.n, .slice none 0 0, .int .i32 30000, .map none], true⟩, restO g88 3 (.agg #[.string ByteArray.empty, .slice none 0 0, .map none]) ((lst (T.at_ 2)).length) (k94 + 1), ⟨g88, k94 * 3, [.string (bs (t95.at_ 0).S), .slice none 0 0, .map none], true⟩, restO g144 5 (.agg #[.int .i32 0, .int .i32 0, .int .i64 0, .int .i32 0, .map none]) ((lst (t95.at_ 1)).length) (k150 + 1), ⟨g144, k150 * 5, [.int .i32 0, .int .i32 0, .int .i64 0, .int .i32 0, .map none], true⟩]) rfl
              clear hS176
              refine then_normal ?_
              refine wp_seq ?_
              refine go_region [0, 1] (by kernel_rfl) ?_
              refine rs_rn [0] [1] [(2, .v (.bool false)), (7, .p 0 0), (8, .v (.int .i16 v)), (9, .v (.bool (decide (v ≥ 6)))), (10, .p 1 0), (14, .v (.slice (some ⟨g88, 0, none⟩) ((lst (T.at_ 2)).length) c89)), (15, .v (.int .i32 (((lst (T.at_ 2)).length : Nat) : Int))), (16, .v (.int .i32 ((k94 : Nat) : Int))), (18, .p 3 0), (21, .v (.slice (some ⟨g144, 0, none⟩) ((lst (t95.at_ 1)).length) c145)), (22, .v (.int .i32 (((lst (t95.at_ 1)).length : Nat) : Int))), (23, .v (.int .i32 ((k150 : Nat) : Int))), (24, .p 5 0), (122, .p 5 0)] hS177 fun _ hS178 => ?_
              clear hS177
              refine of_op (rs_inline (d := 123) (vs := [.pointer (some ⟨g144, k150 * 5, none⟩)]) hS178 Tryz.call169 Tryz.func169 rfl Tryz.ntmps169 (fun _ hS179 => ?_))
              clear hS178
              have hS180 := (hS179.recast 0 (.v (.pointer (some ⟨g144, k150 * 5, none⟩))) (.p 5 0) rfl rfl (Nat.le_of_ble_eq_true (n := 6) rfl)).pk (env' := [(0, .p 5 0)])
              clear hS179
              refine wp_seq ?_
              refine rs_sto [⟨bv, 0, [.int .i16 v, .int .i32 (IntKind.i32.wrap (T.at_ 0).N), .int .i8 D60.n, .slice none 0 0, .int .i32 30000, .map none], true⟩, restO g88 3 (.agg #[.string ByteArray.empty, .slice none 0 0, .map none]) ((lst (T.at_ 2)).length) (k94 + 1), ⟨g88, k94 * 3, [.string (bs (t95.at_ 0).S), .slice none 0 0, .map none], true⟩, restO g144 5 (.agg #[.int .i32 0, .int .i32 0, .int .i64 0, .int .i32 0, .map none]) ((lst (t95.at_ 1)).length) (k150 + 1), ⟨g144, k150 * 5, [.int .i32 0, .int .i32 (-1), .int .i64 0, .int .i32 0, .map none], true⟩] 4 [(0, .p 5 0)] hS180 fun _ _ hS181 => ?_
              clear hS180
              refine then_normal ?_
              refine rs_sto [⟨bv, 0, [.int .i16 v, .int .i32 (IntKind.i32.wrap (T.at_ 0).N), .int .i8 D60.n, .slice none 0 0, .int .i32 30000, .map none], true⟩, restO g88 3 (.agg #[.string ByteArray.empty, .slice none 0 0, .map none]) ((lst (T.at_ 2)).length) (k94 + 1), ⟨g88, k94 * 3, [.string (bs (t95.at_ 0).S), .slice none 0 0, .map none], true⟩, restO g144 5 (.agg #[.int .i32 0, .int .i32 0, .int .i64 0, .int .i32 0, .map none]) ((lst (t95.at_ 1)).length) (k150 + 1), ⟨g144, k150 * 5, [.int .i32 0, .int .i32 (-1), .int .i64 0, .int .i32 1, .map none], true⟩] 4 [] hS181 fun _ _ hS182 => ?_
              clear hS181
              refine rs_backN (v := .tuple #[]) hS182 (fun _ hS183 => ?_) (⟨rfl, rfl, ⟨rfl, rfl, ⟨rfl, rfl, ⟨rfl, rfl, ⟨rfl, rfl, ⟨rfl, rfl, trivial⟩⟩⟩⟩⟩⟩)
              clear hS182
              refine wpOps_nil ?_
              have hS184 := hS183.pk (env' := [(2, .v (.bool false)), (7, .p 0 0), (8, .v (.int .i16 v)), (9, .v (.bool (decide (v ≥ 6)))), (10, .p 1 0), (14, .v (.slice (some ⟨g88, 0, none⟩) ((lst (T.at_ 2)).length) c89)), (15, .v (.int .i32 (((lst (T.at_ 2)).length : Nat) : Int))), (16, .v (.int .i32 ((k94 : Nat) : Int))), (18, .p 3 0), (21, .v (.slice (some ⟨g144, 0, none⟩) ((lst (t95.at_ 1)).length) c145)), (22, .v (.int .i32 (((lst (t95.at_ 1)).length : Nat) : Int))), (23, .v (.int .i32 ((k150 : Nat) : Int))), (24, .p 5 0)])
              clear hS183
              refine then_normal ?_
              refine wp_seq ?_
              refine rs_sr [(2, .v (.bool false)), (7, .p 0 0), (8, .v (.int .i16 v)), (9, .v (.bool (decide (v ≥ 6)))), (10, .p 1 0), (14, .v (.slice (some ⟨g88, 0, none⟩) ((lst (T.at_ 2)).length) c89)), (15, .v (.int .i32 (((lst (T.at_ 2)).length : Nat) : Int))), (16, .v (.int .i32 ((k94 : Nat) : Int))), (18, .p 3 0), (21, .v (.slice (some ⟨g144, 0, none⟩) ((lst (t95.at_ 1)).length) c145)), (22, .v (.int .i32 (((lst (t95.at_ 1)).length : Nat) : Int))), (23, .v (.int .i32 ((k150 : Nat) : Int))), (25, .p 5 0)] hS184 fun _ hS185 => ?_
              clear hS184
              refine then_normal ?_
              refine wp_seq ?_
              refine wp_seq ?_
              have hS186 := hS185.cast hR173
              clear hS185
              refine rs_ca0 (d := 125) [(2, .v (.bool false)), (7, .p 0 0), (8, .v (.int .i16 v)), (9, .v (.bool (decide (v ≥ 6)))), (10, .p 1 0), (14, .v (.slice (some ⟨g88, 0, none⟩) ((lst (T.at_ 2)).length) c89)), (15, .v (.int .i32 (((lst (T.at_ 2)).length : Nat) : Int))), (16, .v (.int .i32 ((k94 : Nat) : Int))), (18, .p 3 0), (21, .v (.slice (some ⟨g144, 0, none⟩) ((lst (t95.at_ 1)).length) c145)), (22, .v (.int .i32 (((lst (t95.at_ 1)).length : Nat) : Int))), (23, .v (.int .i32 ((k150 : Nat) : Int))), (25, .p 5 0), (26, .v (.int .i32 (IntKind.i32.wrap (t151.at_ 0).N)))] hS186 (pInt32 _ _) Tryz.call153 fun _ _ hS188 => ?_
              clear hS186
              refine then_normal ?_
              refine rs_sto [⟨bv, 0, [.int .i16 v, .int .i32 (IntKind.i32.wrap (T.at_ 0).N), .int .i8 D60.n, .slice none 0 0, .int .i32 30000, .map none], true⟩, restO g88 3 (.agg #[.string ByteArray.empty, .slice none 0 0, .map none]) ((lst (T.at_ 2)).length) (k94 + 1), ⟨g88, k94 * 3, [.string (bs (t95.at_ 0).S), .slice none 0 0, .map none], true⟩, restO g144 5 (.agg #[.int .i32 0, .int .i32 0, .int .i64 0, .int .i32 0, .map none]) ((lst (t95.at_ 1)).length) (k150 + 1), ⟨g144, k150 * 5, [.int .i32 (IntKind.i32.wrap (t151.at_ 0).N), .int .i32 (-1), .int .i64 0, .int .i32 1, .map none], true⟩] 4 [(2, .v (.bool false)), (7, .p 0 0), (8, .v (.int .i16 v)), (9, .v (.bool (decide (v ≥ 6)))), (10, .p 1 0), (14, .v (.slice (some ⟨g88, 0, none⟩) ((lst (T.at_ 2)).length) c89)), (15, .v (.int .i32 (((lst (T.at_ 2)).length : Nat) : Int))), (16, .v (.int .i32 ((k94 : Nat) : Int))), (18, .p 3 0), (21, .v (.slice (some ⟨g144, 0, none⟩) ((lst (t95.at_ 1)).length) c145)), (22, .v (.int .i32 (((lst (t95.at_ 1)).length : Nat) : Int))), (23, .v (.int .i32 ((k150 : Nat) : Int))), (25, .p 5 0)] hS188 fun _ _ hS189 => ?_
              clear hS188
              refine then_normal ?_
              refine wp_seq ?_
              have hS190 := hS189.cast hR171
              clear hS189
              refine wp_joinN (Mid := fun a_ w_ => ∃ (D191 : DV) (P' : FactW), (∀ w F, P' w F → P158 w F ∧ (True) ∧ ((decide (v ≥ 4)) = true → D191.n = IntKind.i32.wrap (t151.at_ 1).N) ∧ ((decide (v ≥ 4)) = false → D191.n = -1)) ∧ RS w (fun b o => b = bv ∧ o < 6) F 186 b25 [⟨bv, 0, [.int .i16 v, .int .i32 (IntKind.i32.wrap (T.at_ 0).N), .int .i8 D60.n, .slice none 0 0, .int .i32 30000, .map none], true⟩, restO g88 3 (.agg #[.string ByteArray.empty, .slice none 0 0, .map none]) ((lst (T.at_ 2)).length) (k94 + 1), ⟨g88, k94 * 3, [.string (bs (t95.at_ 0).S), .slice none 0 0, .map none], true⟩, restO g144 5 (.agg #[.int .i32 0, .int .i32 0, .int .i64 0, .int .i32 0, .map none]) ((lst (t95.at_ 1)).length) (k150 + 1), ⟨g144, k150 * 5, [.int .i32 (IntKind.i32.wrap (t151.at_ 0).N), .int .i32 D191.n, .int .i64 0, .int .i32 1, .map none], true⟩] [(2, .v (.bool false)), (7, .p 0 0), (8, .v (.int .i16 v)), (9, .v (.bool (decide (v ≥ 6)))), (10, .p 1 0), (14, .v (.slice (some ⟨g88, 0, none⟩) ((lst (T.at_ 2)).length) c89)), (15, .v (.int .i32 (((lst (T.at_ 2)).length : Nat) : Int))), (16, .v (.int .i32 ((k94 : Nat) : Int))), (18, .p 3 0), (21, .v (.slice (some ⟨g144, 0, none⟩) ((lst (t95.at_ 1)).length) c145)), (22, .v (.int .i32 (((lst (t95.at_ 1)).length : Nat) : Int))), (23, .v (.int .i32 ((k150 : Nat) : Int))), (25, .p 5 0)] P' R168 a_ w_) ?_ ?_
              ·
                refine wp_seq ?_
                refine rs_sr [(2, .v (.bool false)), (7, .p 0 0), (8, .v (.int .i16 v)), (9, .v (.bool (decide (v ≥ 6)))), (10, .p 1 0), (14, .v (.slice (some ⟨g88, 0, none⟩) ((lst (T.at_ 2)).length) c89)), (15, .v (.int .i32 (((lst (T.at_ 2)).length : Nat) : Int))), (16, .v (.int .i32 ((k94 : Nat) : Int))), (18, .p 3 0), (21, .v (.slice (some ⟨g144, 0, none⟩) ((lst (t95.at_ 1)).length) c145)), (22, .v (.int .i32 (((lst (t95.at_ 1)).length : Nat) : Int))), (23, .v (.int .i32 ((k150 : Nat) : Int))), (25, .p 5 0), (131, .v (.bool (decide (v ≥ 4))))] hS190 fun _ hS195 => then_normal ?_
                clear hS190
                refine cond_of hS195.env_ (b := decide (v ≥ 4)) (by kernel_rfl) (fun hc196 => ?_) (fun hc196 => ?_)
                ·
                  have hS197 := hS195.cast (t := (be 4 ((IntKind.i32.wrap (t151.at_ 1).N))) ++ R168) (by rw [if_pos hc196])
                  clear hS195
                  refine wp_seq ?_
                  refine rs_ca0 (d := 132) [(2, .v (.bool false)), (7, .p 0 0), (8, .v (.int .i16 v)), (9, .v (.bool (decide (v ≥ 6)))), (10, .p 1 0), (14, .v (.slice (some ⟨g88, 0, none⟩) ((lst (T.at_ 2)).length) c89)), (15, .v (.int .i32 (((lst (T.at_ 2)).length : Nat) : Int))), (16, .v (.int .i32 ((k94 : Nat) : Int))), (18, .p 3 0), (21, .v (.slice (some ⟨g144, 0, none⟩) ((lst (t95.at_ 1)).length) c145)), (22, .v (.int .i32 (((lst (t95.at_ 1)).length : Nat) : Int))), (23, .v (.int .i32 ((k150 : Nat) : Int))), (25, .p 5 0), (27, .v (.int .i32 (IntKind.i32.wrap (t151.at_ 1).N)))] hS197 (pInt32 _ _) Tryz.call153 fun _ _ hS199 => ?_
                  clear hS197
                  refine then_normal ?_
                  refine rs_sto [⟨bv, 0, [.int .i16 v, .int .i32 (IntKind.i32.wrap (T.at_ 0).N), .int .i8 D60.n, .slice none 0 0, .int .i32 30000, .map none], true⟩, restO g88 3 (.agg #[.string ByteArray.empty, .slice none 0 0, .map none]) ((lst (T.at_ 2)).length) (k94 + 1), ⟨g88, k94 * 3, [.string (bs (t95.at_ 0).S), .slice none 0 0, .map none], true⟩, restO g144 5 (.agg #[.int .i32 0, .int .i32 0, .int .i64 0, .int .i32 0, .map none]) ((lst (t95.at_ 1)).length) (k150 + 1), ⟨g144, k150 * 5, [.int .i32 (IntKind.i32.wrap (t151.at_ 0).N), .int .i32 (IntKind.i32.wrap (t151.at_ 1).N), .int .i64 0, .int .i32 1, .map none], true⟩] 4 [(2, .v (.bool false)), (7, .p 0 0), (8, .v (.int .i16 v)), (9, .v (.bool (decide (v ≥ 6)))), (10, .p 1 0), (14, .v (.slice (some ⟨g88, 0, none⟩) ((lst (T.at_ 2)).length) c89)), (15, .v (.int .i32 (((lst (T.at_ 2)).length : Nat) : Int))), (16, .v (.int .i32 ((k94 : Nat) : Int))), (18, .p 3 0), (21, .v (.slice (some ⟨g144, 0, none⟩) ((lst (t95.at_ 1)).length) c145)), (22, .v (.int .i32 (((lst (t95.at_ 1)).length : Nat) : Int))), (23, .v (.int .i32 ((k150 : Nat) : Int))), (25, .p 5 0)] hS199 fun _ _ hS200 => ?_
                  clear hS199
                  refine then_normal ?_
                  exact ⟨dvN (IntKind.i32.wrap (t151.at_ 1).N), _, fun w F h_ => ⟨h_, trivial, ⟨fun _ => rfl, (fun e_ => by rw [hc196] at e_; cases e_)⟩⟩, hS200.pk (env' := [(2, .v (.bool false)), (7, .p 0 0), (8, .v (.int .i16 v)), (9, .v (.bool (decide (v ≥ 6)))), (10, .p 1 0), (14, .v (.slice (some ⟨g88, 0, none⟩) ((lst (T.at_ 2)).length) c89)), (15, .v (.int .i32 (((lst (T.at_ 2)).length : Nat) : Int))), (16, .v (.int .i32 ((k94 : Nat) : Int))), (18, .p 3 0), (21, .v (.slice (some ⟨g144, 0, none⟩) ((lst (t95.at_ 1)).length) c145)), (22, .v (.int .i32 (((lst (t95.at_ 1)).length : Nat) : Int))), (23, .v (.int .i32 ((k150 : Nat) : Int))), (25, .p 5 0)])⟩
                ·
                  have hS201 := hS195.cast (t := [] ++ R168) (by rw [if_neg (by rw [hc196]; decide)])
                  clear hS195
                  have hS202 := hS201.cast (t := R168) rfl
                  clear hS201
                  refine wp_skip (then_normal ?_)
                  exact ⟨dvN (-1), _, fun w F h_ => ⟨h_, trivial, ⟨(fun e_ => by rw [hc196] at e_; cases e_), fun _ => rfl⟩⟩, hS202.pk (env' := [(2, .v (.bool false)), (7, .p 0 0), (8, .v (.int .i16 v)), (9, .v (.bool (decide (v ≥ 6)))), (10, .p 1 0), (14, .v (.slice (some ⟨g88, 0, none⟩) ((lst (T.at_ 2)).length) c89)), (15, .v (.int .i32 (((lst (T.at_ 2)).length : Nat) : Int))), (16, .v (.int .i32 ((k94 : Nat) : Int))), (18, .p 3 0), (21, .v (.slice (some ⟨g144, 0, none⟩) ((lst (t95.at_ 1)).length) c145)), (22, .v (.int .i32 (((lst (t95.at_ 1)).length : Nat) : Int))), (23, .v (.int .i32 ((k150 : Nat) : Int))), (25, .p 5 0)])⟩
              rintro _ _ ⟨D191, P192, hP193, hS194⟩
              refine then_normal ?_
              refine wp_seq ?_
              refine wp_seq ?_
              have hS203 := hS194.cast hR169
              clear hS194
              refine rs_ca0 (d := 137) [(2, .v (.bool false)), (7, .p 0 0), (8, .v (.int .i16 v)), (9, .v (.bool (decide (v ≥ 6)))), (10, .p 1 0), (14, .v (.slice (some ⟨g88, 0, none⟩) ((lst (T.at_ 2)).length) c89)), (15, .v (.int .i32 (((lst (T.at_ 2)).length : Nat) : Int))), (16, .v (.int .i32 ((k94 : Nat) : Int))), (18, .p 3 0), (21, .v (.slice (some ⟨g144, 0, none⟩) ((lst (t95.at_ 1)).length) c145)), (22, .v (.int .i32 (((lst (t95.at_ 1)).length : Nat) : Int))), (23, .v (.int .i32 ((k150 : Nat) : Int))), (25, .p 5 0), (28, .v (.int .i64 (IntKind.i64.wrap (t151.at_ 2).N)))] hS203 (pInt64 _ _) Tryz.call170 fun _ _ hS205 => ?_
              clear hS203
              refine then_normal ?_
              refine rs_sto [⟨bv, 0, [.int .i16 v, .int .i32 (IntKind.i32.wrap (T.at_ 0).N), .int .i8 D60.n, .slice none 0 0, .int .i32 30000, .map none], true⟩, restO g88 3 (.agg #[.string ByteArray.empty, .slice none 0 0, .map none]) ((lst (T.at_ 2)).length) (k94 + 1), ⟨g88, k94 * 3, [.string (bs (t95.at_ 0).S), .slice none 0 0, .map none], true⟩, restO g144 5 (.agg #[.int .i32 0, .int .i32 0, .int .i64 0, .int .i32 0, .map none]) ((lst (t95.at_ 1)).length) (k150 + 1), ⟨g144, k150 * 5, [.int .i32 (IntKind.i32.wrap (t151.at_ 0).N), .int .i32 D191.n, .int .i64 (IntKind.i64.wrap (t151.at_ 2).N), .int .i32 1, .map none], true⟩] 4 [(2, .v (.bool false)), (7, .p 0 0), (8, .v (.int .i16 v)), (9, .v (.bool (decide (v ≥ 6)))), (10, .p 1 0), (14, .v (.slice (some ⟨g88, 0, none⟩) ((lst (T.at_ 2)).length) c89)), (15, .v (.int .i32 (((lst (T.at_ 2)).length : Nat) : Int))), (16, .v (.int .i32 ((k94 : Nat) : Int))), (18, .p 3 0), (21, .v (.slice (some ⟨g144, 0, none⟩) ((lst (t95.at_ 1)).length) c145)), (22, .v (.int .i32 (((lst (t95.at_ 1)).length : Nat) : Int))), (23, .v (.int .i32 ((k150 : Nat) : Int))), (25, .p 5 0)] hS205 fun _ _ hS206 => ?_
              clear hS205
              refine then_normal ?_
              refine wp_seq ?_
              have hS207 := hS206.cast hR167
              clear hS206
              refine wp_joinN (Mid := fun a_ w_ => ∃ (D208 : DV) (P' : FactW), (∀ w F, P' w F → P192 w F ∧ (True) ∧ ((if (decide (v ≥ 0)) = true then decide (v ≤ 0) else false) = true → D208.n = IntKind.i32.wrap (t151.at_ 3).N) ∧ ((if (decide (v ≥ 0)) = true then decide (v ≤ 0) else false) = false → D208.n = 1)) ∧ RS w (fun b o => b = bv ∧ o < 6) F 186 b25 [⟨bv, 0, [.int .i16 v, .int .i32 (IntKind.i32.wrap (T.at_ 0).N), .int .i8 D60.n, .slice none 0 0, .int .i32 30000, .map none], true⟩, restO g88 3 (.agg #[.string ByteArray.empty, .slice none 0 0, .map none]) ((lst (T.at_ 2)).length) (k94 + 1), ⟨g88, k94 * 3, [.string (bs (t95.at_ 0).S), .slice none 0 0, .map none], true⟩, restO g144 5 (.agg #[.int .i32 0, .int .i32 0, .int .i64 0, .int .i32 0, .map none]) ((lst (t95.at_ 1)).length) (k150 + 1), ⟨g144, k150 * 5, [.int .i32 (IntKind.i32.wrap (t151.at_ 0).N), .int .i32 D191.n, .int .i64 (IntKind.i64.wrap (t151.at_ 2).N), .int .i32 D208.n, .map none], true⟩] [(2, .v (.bool false)), (7, .p 0 0), (8, .v (.int .i16 v)), (9, .v (.bool (decide (v ≥ 6)))), (10, .p 1 0), (14, .v (.slice (some ⟨g88, 0, none⟩) ((lst (T.at_ 2)).length) c89)), (15, .v (.int .i32 (((lst (T.at_ 2)).length : Nat) : Int))), (16, .v (.int .i32 ((k94 : Nat) : Int))), (18, .p 3 0), (21, .v (.slice (some ⟨g144, 0, none⟩) ((lst (t95.at_ 1)).length) c145)), (22, .v (.int .i32 (((lst (t95.at_ 1)).length : Nat) : Int))), (23, .v (.int .i32 ((k150 : Nat) : Int))), (25, .p 5 0)] P' R164 a_ w_) ?_ ?_
              ·
                refine wp_seq ?_
                refine go_region [0, 1, 2, 3, 4, 5] (by kernel_rfl) ?_
                refine rs_rn [0, 1, 2] [3, 4, 5] [(2, .v (.bool false)), (7, .p 0 0), (8, .v (.int .i16 v)), (9, .v (.bool (decide (v ≥ 6)))), (10, .p 1 0), (14, .v (.slice (some ⟨g88, 0, none⟩) ((lst (T.at_ 2)).length) c89)), (15, .v (.int .i32 (((lst (T.at_ 2)).length : Nat) : Int))), (16, .v (.int .i32 ((k94 : Nat) : Int))), (18, .p 3 0), (21, .v (.slice (some ⟨g144, 0, none⟩) ((lst (t95.at_ 1)).length) c145)), (22, .v (.int .i32 (((lst (t95.at_ 1)).length : Nat) : Int))), (23, .v (.int .i32 ((k150 : Nat) : Int))), (25, .p 5 0), (144, .v (.bool (decide (v ≥ 0))))] hS207 fun _ hS212 => ?_
                clear hS207
                refine (Bool.eq_false_or_eq_true (decide (v ≥ 0))).elim (fun hg213 => ?_) (fun hg213 => ?_)
                ·
                  have hS214 := hS212.envEq (env' := [(2, .v (.bool false)), (7, .p 0 0), (8, .v (.int .i16 v)), (9, .v (.bool (decide (v ≥ 6)))), (10, .p 1 0), (14, .v (.slice (some ⟨g88, 0, none⟩) ((lst (T.at_ 2)).length) c89)), (15, .v (.int .i32 (((lst (T.at_ 2)).length : Nat) : Int))), (16, .v (.int .i32 ((k94 : Nat) : Int))), (18, .p 3 0), (21, .v (.slice (some ⟨g144, 0, none⟩) ((lst (t95.at_ 1)).length) c145)), (22, .v (.int .i32 (((lst (t95.at_ 1)).length : Nat) : Int))), (23, .v (.int .i32 ((k150 : Nat) : Int))), (25, .p 5 0), (144, .v (.bool true))]) (by rw [hg213])
                  clear hS212
                  refine rs_rn [3, 4, 5] [] [(2, .v (.bool false)), (7, .p 0 0), (8, .v (.int .i16 v)), (9, .v (.bool (decide (v ≥ 6)))), (10, .p 1 0), (14, .v (.slice (some ⟨g88, 0, none⟩) ((lst (T.at_ 2)).length) c89)), (15, .v (.int .i32 (((lst (T.at_ 2)).length : Nat) : Int))), (16, .v (.int .i32 ((k94 : Nat) : Int))), (18, .p 3 0), (21, .v (.slice (some ⟨g144, 0, none⟩) ((lst (t95.at_ 1)).length) c145)), (22, .v (.int .i32 (((lst (t95.at_ 1)).length : Nat) : Int))), (23, .v (.int .i32 ((k150 : Nat) : Int))), (25, .p 5 0), (147, .v (.bool (decide (v ≤ 0))))] hS214 fun _ hS215 => wpOps_nil (then_normal ?_)
                  clear hS214
                  refine cond_of hS215.env_ (b := decide (v ≤ 0)) (by kernel_rfl) (fun hc216 => ?_) (fun hc216 => ?_)
                  ·
                    have hS217 := hS215.cast (t := (be 4 ((IntKind.i32.wrap (t151.at_ 3).N))) ++ R164) (by rw [if_pos (by simp only [hg213, hc216, if_true])])
                    clear hS215
                    refine wp_seq ?_
                    refine rs_ca0 (d := 148) [(2, .v (.bool false)), (7, .p 0 0), (8, .v (.int .i16 v)), (9, .v (.bool (decide (v ≥ 6)))), (10, .p 1 0), (14, .v (.slice (some ⟨g88, 0, none⟩) ((lst (T.at_ 2)).length) c89)), (15, .v (.int .i32 (((lst (T.at_ 2)).length : Nat) : Int))), (16, .v (.int .i32 ((k94 : Nat) : Int))), (18, .p 3 0), (21, .v (.slice (some ⟨g144, 0, none⟩) ((lst (t95.at_ 1)).length) c145)), (22, .v (.int .i32 (((lst (t95.at_ 1)).length : Nat) : Int))), (23, .v (.int .i32 ((k150 : Nat) : Int))), (25, .p 5 0), (29, .v (.int .i32 (IntKind.i32.wrap (t151.at_ 3).N)))] hS217 (pInt32 _ _) Tryz.call153 fun _ _ hS219 => ?_
                    clear hS217
                    refine then_normal ?_
                    refine rs_sto [⟨bv, 0, [.int .i16 v, .int .i32 (IntKind.i32.wrap (T.at_ 0).N), .int .i8 D60.n, .slice none 0 0, .int .i32 30000, .map none], true⟩, restO g88 3 (.agg #[.string ByteArray.empty, .slice none 0 0, .map none]) ((lst (T.at_ 2)).length) (k94 + 1), ⟨g88, k94 * 3, [.string (bs (t95.at_ 0).S), .slice none 0 0, .map none], true⟩, restO g144 5 (.agg #[.int .i32 0, .int .i32 0, .int .i64 0, .int .i32 0, .map none]) ((lst (t95.at_ 1)).length) (k150 + 1), ⟨g144, k150 * 5, [.int .i32 (IntKind.i32.wrap (t151.at_ 0).N), .int .i32 D191.n, .int .i64 (IntKind.i64.wrap (t151.at_ 2).N), .int .i32 (IntKind.i32.wrap (t151.at_ 3).N), .map none], true⟩] 4 [(2, .v (.bool false)), (7, .p 0 0), (8, .v (.int .i16 v)), (9, .v (.bool (decide (v ≥ 6)))), (10, .p 1 0), (14, .v (.slice (some ⟨g88, 0, none⟩) ((lst (T.at_ 2)).length) c89)), (15, .v (.int .i32 (((lst (T.at_ 2)).length : Nat) : Int))), (16, .v (.int .i32 ((k94 : Nat) : Int))), (18, .p 3 0), (21, .v (.slice (some ⟨g144, 0, none⟩) ((lst (t95.at_ 1)).length) c145)), (22, .v (.int .i32 (((lst (t95.at_ 1)).length : Nat) : Int))), (23, .v (.int .i32 ((k150 : Nat) : Int))), (25, .p 5 0)] hS219 fun _ _ hS220 => ?_
                    clear hS219
                    refine then_normal ?_
                    exact ⟨dvN (IntKind.i32.wrap (t151.at_ 3).N), _, fun w F h_ => ⟨h_, trivial, ⟨fun _ => rfl, (fun e_ => by simp [hg213, hc216] at e_)⟩⟩, hS220.pk (env' := [(2, .v (.bool false)), (7, .p 0 0), (8, .v (.int .i16 v)), (9, .v (.bool (decide (v ≥ 6)))), (10, .p 1 0), (14, .v (.slice (some ⟨g88, 0, none⟩) ((lst (T.at_ 2)).length) c89)), (15, .v (.int .i32 (((lst (T.at_ 2)).length : Nat) : Int))), (16, .v (.int .i32 ((k94 : Nat) : Int))), (18, .p 3 0), (21, .v (.slice (some ⟨g144, 0, none⟩) ((lst (t95.at_ 1)).length) c145)), (22, .v (.int .i32 (((lst (t95.at_ 1)).length : Nat) : Int))), (23, .v (.int .i32 ((k150 : Nat) : Int))), (25, .p 5 0)])⟩
                  ·
                    have hS221 := hS215.cast (t := [] ++ R164) (by rw [if_neg (by simp only [hg213, hc216, if_true, if_false, Bool.false_eq_true]; try decide)])
                    clear hS215
                    have hS222 := hS221.cast (t := R164) rfl
                    clear hS221
                    refine wp_skip (then_normal ?_)
                    exact ⟨dvN (1), _, fun w F h_ => ⟨h_, trivial, ⟨(fun e_ => by simp [hg213, hc216] at e_), fun _ => rfl⟩⟩, hS222.pk (env' := [(2, .v (.bool false)), (7, .p 0 0), (8, .v (.int .i16 v)), (9, .v (.bool (decide (v ≥ 6)))), (10, .p 1 0), (14, .v (.slice (some ⟨g88, 0, none⟩) ((lst (T.at_ 2)).length) c89)), (15, .v (.int .i32 (((lst (T.at_ 2)).length : Nat) : Int))), (16, .v (.int .i32 ((k94 : Nat) : Int))), (18, .p 3 0), (21, .v (.slice (some ⟨g144, 0, none⟩) ((lst (t95.at_ 1)).length) c145)), (22, .v (.int .i32 (((lst (t95.at_ 1)).length : Nat) : Int))), (23, .v (.int .i32 ((k150 : Nat) : Int))), (25, .p 5 0)])⟩
                ·
                  have hS223 := hS212.envEq (env' := [(2, .v (.bool false)), (7, .p 0 0), (8, .v (.int .i16 v)), (9, .v (.bool (decide (v ≥ 6)))), (10, .p 1 0), (14, .v (.slice (some ⟨g88, 0, none⟩) ((lst (T.at_ 2)).length) c89)), (15, .v (.int .i32 (((lst (T.at_ 2)).length : Nat) : Int))), (16, .v (.int .i32 ((k94 : Nat) : Int))), (18, .p 3 0), (21, .v (.slice (some ⟨g144, 0, none⟩) ((lst (t95.at_ 1)).length) c145)), (22, .v (.int .i32 (((lst (t95.at_ 1)).length : Nat) : Int))), (23, .v (.int .i32 ((k150 : Nat) : Int))), (25, .p 5 0), (144, .v (.bool false))]) (by rw [hg213])
                  clear hS212
                  refine rs_rn [3, 4, 5] [] [(2, .v (.bool false)), (7, .p 0 0), (8, .v (.int .i16 v)), (9, .v (.bool (decide (v ≥ 6)))), (10, .p 1 0), (14, .v (.slice (some ⟨g88, 0, none⟩) ((lst (T.at_ 2)).length) c89)), (15, .v (.int .i32 (((lst (T.at_ 2)).length : Nat) : Int))), (16, .v (.int .i32 ((k94 : Nat) : Int))), (18, .p 3 0), (21, .v (.slice (some ⟨g144, 0, none⟩) ((lst (t95.at_ 1)).length) c145)), (22, .v (.int .i32 (((lst (t95.at_ 1)).length : Nat) : Int))), (23, .v (.int .i32 ((k150 : Nat) : Int))), (25, .p 5 0), (147, .v (.bool false))] hS223 fun _ hS224 => wpOps_nil (then_normal ?_)
                  clear hS223
                  refine cond_false hS224.env_ (b := false) (by kernel_rfl) rfl ?_
                  have hS225 := hS224.cast (t := [] ++ R164) (by rw [if_neg (by simp only [hg213, if_true, if_false, Bool.false_eq_true]; try decide)])
                  clear hS224
                  have hS226 := hS225.cast (t := R164) rfl
                  clear hS225
                  refine wp_skip (then_normal ?_)
                  exact ⟨dvN (1), _, fun w F h_ => ⟨h_, trivial, ⟨(fun e_ => by simp [hg213] at e_), fun _ => rfl⟩⟩, hS226.pk (env' := [(2, .v (.bool false)), (7, .p 0 0), (8, .v (.int .i16 v)), (9, .v (.bool (decide (v ≥ 6)))), (10, .p 1 0), (14, .v (.slice (some ⟨g88, 0, none⟩) ((lst (T.at_ 2)).length) c89)), (15, .v (.int .i32 (((lst (T.at_ 2)).length : Nat) : Int))), (16, .v (.int .i32 ((k94 : Nat) : Int))), (18, .p 3 0), (21, .v (.slice (some ⟨g144, 0, none⟩) ((lst (t95.at_ 1)).length) c145)), (22, .v (.int .i32 (((lst (t95.at_ 1)).length : Nat) : Int))), (23, .v (.int .i32 ((k150 : Nat) : Int))), (25, .p 5 0)])⟩
              rintro _ _ ⟨D208, P209, hP210, hS211⟩
              refine then_normal ?_
              have hS227 := hS211.cast hR165
              clear hS211
              refine wp_joinN (Mid := fun a_ w_ => ∃ (m229 : Option Nat) (u230 : List (Int × Bs)) (P' : FactW), (∀ w F, P' w F → P209 w F ∧ (MapR w F m229 u230 ∧ u230.length ≤ 1000000 ∧ ∀ x ∈ u230, x.2.length < 4294967296) ∧ ((decide (v ≥ 6)) = true → u230 = t151.U) ∧ ((decide (v ≥ 6)) = false → u230 = [])) ∧ RS w (fun b o => b = bv ∧ o < 6) F 186 b25 [⟨bv, 0, [.int .i16 v, .int .i32 (IntKind.i32.wrap (T.at_ 0).N), .int .i8 D60.n, .slice none 0 0, .int .i32 30000, .map none], true⟩, restO g88 3 (.agg #[.string ByteArray.empty, .slice none 0 0, .map none]) ((lst (T.at_ 2)).length) (k94 + 1), ⟨g88, k94 * 3, [.string (bs (t95.at_ 0).S), .slice none 0 0, .map none], true⟩, restO g144 5 (.agg #[.int .i32 0, .int .i32 0, .int .i64 0, .int .i32 0, .map none]) ((lst (t95.at_ 1)).length) (k150 + 1), ⟨g144, k150 * 5, [.int .i32 (IntKind.i32.wrap (t151.at_ 0).N), .int .i32 D191.n, .int .i64 (IntKind.i64.wrap (t151.at_ 2).N), .int .i32 D208.n, .map m229], true⟩] [(2, .v (.bool false)), (7, .p 0 0), (8, .v (.int .i16 v)), (9, .v (.bool (decide (v ≥ 6)))), (10, .p 1 0), (14, .v (.slice (some ⟨g88, 0, none⟩) ((lst (T.at_ 2)).length) c89)), (15, .v (.int .i32 (((lst (T.at_ 2)).length : Nat) : Int))), (16, .v (.int .i32 ((k94 : Nat) : Int))), (18, .p 3 0), (21, .v (.slice (some ⟨g144, 0, none⟩) ((lst (t95.at_ 1)).length) c145)), (22, .v (.int .i32 (((lst (t95.at_ 1)).length : Nat) : Int))), (23, .v (.int .i32 ((k150 : Nat) : Int)))] P' R161 a_ w_) ?_ ?_
              ·
                refine wp_seq ?_
                refine rs_sr [(2, .v (.bool false)), (7, .p 0 0), (8, .v (.int .i16 v)), (9, .v (.bool (decide (v ≥ 6)))), (10, .p 1 0), (14, .v (.slice (some ⟨g88, 0, none⟩) ((lst (T.at_ 2)).length) c89)), (15, .v (.int .i32 (((lst (T.at_ 2)).length : Nat) : Int))), (16, .v (.int .i32 ((k94 : Nat) : Int))), (18, .p 3 0), (21, .v (.slice (some ⟨g144, 0, none⟩) ((lst (t95.at_ 1)).length) c145)), (22, .v (.int .i32 (((lst (t95.at_ 1)).length : Nat) : Int))), (23, .v (.int .i32 ((k150 : Nat) : Int))), (25, .p 5 0), (153, .v (.bool (decide (v ≥ 6))))] hS227 fun _ hS234 => then_normal ?_
                clear hS227
                refine cond_of hS234.env_ (b := decide (v ≥ 6)) (by kernel_rfl) (fun hc235 => ?_) (fun hc235 => ?_)
                ·
                  have hS236 := hS234.cast (t := ((uv t151.U.length) ++ (tagsR t151.U)) ++ R161) (by rw [if_pos hc235])
                  clear hS234
                  refine go_region [0, 1, 2, 3, 4] (by kernel_rfl) ?_
                  refine rs_rn [0] [1, 2, 3, 4] [(2, .v (.bool false)), (7, .p 0 0), (8, .v (.int .i16 v)), (9, .v (.bool (decide (v ≥ 6)))), (10, .p 1 0), (14, .v (.slice (some ⟨g88, 0, none⟩) ((lst (T.at_ 2)).length) c89)), (15, .v (.int .i32 (((lst (T.at_ 2)).length : Nat) : Int))), (16, .v (.int .i32 ((k94 : Nat) : Int))), (18, .p 3 0), (21, .v (.slice (some ⟨g144, 0, none⟩) ((lst (t95.at_ 1)).length) c145)), (22, .v (.int .i32 (((lst (t95.at_ 1)).length : Nat) : Int))), (23, .v (.int .i32 ((k150 : Nat) : Int))), (154, .p 5 0)] hS236 fun _ hS237 => ?_
                  clear hS236
                  refine of_op (rs_call (d := 155) hS237 (pTags t151.U e163_U (ranged_U e163r) _) (fun _ => MvF.tags _ _) Tryz.call154 fun m238 P239 _ _ hP240 hS241 => ?_)
                  clear hS237
                  refine rs_rn [2, 3] [4] [(2, .v (.bool false)), (7, .p 0 0), (8, .v (.int .i16 v)), (9, .v (.bool (decide (v ≥ 6)))), (10, .p 1 0), (14, .v (.slice (some ⟨g88, 0, none⟩) ((lst (T.at_ 2)).length) c89)), (15, .v (.int .i32 (((lst (T.at_ 2)).length : Nat) : Int))), (16, .v (.int .i32 ((k94 : Nat) : Int))), (18, .p 3 0), (21, .v (.slice (some ⟨g144, 0, none⟩) ((lst (t95.at_ 1)).length) c145)), (22, .v (.int .i32 (((lst (t95.at_ 1)).length : Nat) : Int))), (23, .v (.int .i32 ((k150 : Nat) : Int))), (155, .v (.agg #[.map m238])), (157, .p 5 4)] hS241 fun _ hS242 => ?_
                  clear hS241
                  refine of_op (rs_store [⟨bv, 0, [.int .i16 v, .int .i32 (IntKind.i32.wrap (T.at_ 0).N), .int .i8 D60.n, .slice none 0 0, .int .i32 30000, .map none], true⟩, restO g88 3 (.agg #[.string ByteArray.empty, .slice none 0 0, .map none]) ((lst (T.at_ 2)).length) (k94 + 1), ⟨g88, k94 * 3, [.string (bs (t95.at_ 0).S), .slice none 0 0, .map none], true⟩, restO g144 5 (.agg #[.int .i32 0, .int .i32 0, .int .i64 0, .int .i32 0, .map none]) ((lst (t95.at_ 1)).length) (k150 + 1), ⟨g144, k150 * 5, [.int .i32 (IntKind.i32.wrap (t151.at_ 0).N), .int .i32 D191.n, .int .i64 (IntKind.i64.wrap (t151.at_ 2).N), .int .i32 D208.n, .map m238], true⟩] 4 hS242 fun _ hS243 => ?_)
                  clear hS242
                  refine wpOps_nil ?_
                  have hS244 := hS243.pk (env' := [(2, .v (.bool false)), (7, .p 0 0), (8, .v (.int .i16 v)), (9, .v (.bool (decide (v ≥ 6)))), (10, .p 1 0), (14, .v (.slice (some ⟨g88, 0, none⟩) ((lst (T.at_ 2)).length) c89)), (15, .v (.int .i32 (((lst (T.at_ 2)).length : Nat) : Int))), (16, .v (.int .i32 ((k94 : Nat) : Int))), (18, .p 3 0), (21, .v (.slice (some ⟨g144, 0, none⟩) ((lst (t95.at_ 1)).length) c145)), (22, .v (.int .i32 (((lst (t95.at_ 1)).length : Nat) : Int))), (23, .v (.int .i32 ((k150 : Nat) : Int)))])
                  clear hS243
                  refine then_normal ?_
                  exact ⟨m238, t151.U, _, fun w F h_ => ⟨(hP240 _ _ h_).1, ⟨(hP240 _ _ h_).2, e163_U.2.1, e163_U.2.2⟩, ⟨fun _ => rfl, (fun e_ => by rw [hc235] at e_; cases e_)⟩⟩, hS244.pk (env' := [(2, .v (.bool false)), (7, .p 0 0), (8, .v (.int .i16 v)), (9, .v (.bool (decide (v ≥ 6)))), (10, .p 1 0), (14, .v (.slice (some ⟨g88, 0, none⟩) ((lst (T.at_ 2)).length) c89)), (15, .v (.int .i32 (((lst (T.at_ 2)).length : Nat) : Int))), (16, .v (.int .i32 ((k94 : Nat) : Int))), (18, .p 3 0), (21, .v (.slice (some ⟨g144, 0, none⟩) ((lst (t95.at_ 1)).length) c145)), (22, .v (.int .i32 (((lst (t95.at_ 1)).length : Nat) : Int))), (23, .v (.int .i32 ((k150 : Nat) : Int)))])⟩
                ·
                  have hS245 := hS234.cast (t := [] ++ R161) (by rw [if_neg (by rw [hc235]; decide)])
                  clear hS234
                  have hS246 := hS245.cast (t := R161) rfl
                  clear hS245
                  refine wp_skip (then_normal ?_)
                  exact ⟨none, [], _, fun w F h_ => ⟨h_, ⟨MapR.nil _ _, Nat.zero_le _, fun _ h => by cases h⟩, ⟨(fun e_ => by rw [hc235] at e_; cases e_), fun _ => rfl⟩⟩, hS246.pk (env' := [(2, .v (.bool false)), (7, .p 0 0), (8, .v (.int .i16 v)), (9, .v (.bool (decide (v ≥ 6)))), (10, .p 1 0), (14, .v (.slice (some ⟨g88, 0, none⟩) ((lst (T.at_ 2)).length) c89)), (15, .v (.int .i32 (((lst (T.at_ 2)).length : Nat) : Int))), (16, .v (.int .i32 ((k94 : Nat) : Int))), (18, .p 3 0), (21, .v (.slice (some ⟨g144, 0, none⟩) ((lst (t95.at_ 1)).length) c145)), (22, .v (.int .i32 (((lst (t95.at_ 1)).length : Nat) : Int))), (23, .v (.int .i32 ((k150 : Nat) : Int)))])⟩
              rintro _ _ ⟨m229, u230, P231, hP232, hS233⟩
              refine block_normal ?_
              refine then_normal ?_
              refine rs_sr [(2, .v (.bool false)), (7, .p 0 0), (8, .v (.int .i16 v)), (9, .v (.bool (decide (v ≥ 6)))), (10, .p 1 0), (14, .v (.slice (some ⟨g88, 0, none⟩) ((lst (T.at_ 2)).length) c89)), (15, .v (.int .i32 (((lst (T.at_ 2)).length : Nat) : Int))), (16, .v (.int .i32 ((k94 : Nat) : Int))), (18, .p 3 0), (21, .v (.slice (some ⟨g144, 0, none⟩) ((lst (t95.at_ 1)).length) c145)), (22, .v (.int .i32 (((lst (t95.at_ 1)).length : Nat) : Int))), (23, .v (.int .i32 (IntKind.i32.wrap (((k150 : Nat) : Int) + 1))))] hS233 fun _ hS247 => ?_
              clear hS233
              refine then_normal ?_
              have hS248 := (hS247.envEq (env' := [(2, .v (.bool false)), (7, .p 0 0), (8, .v (.int .i16 v)), (9, .v (.bool (decide (v ≥ 6)))), (10, .p 1 0), (14, .v (.slice (some ⟨g88, 0, none⟩) ((lst (T.at_ 2)).length) c89)), (15, .v (.int .i32 (((lst (T.at_ 2)).length : Nat) : Int))), (16, .v (.int .i32 ((k94 : Nat) : Int))), (18, .p 3 0), (21, .v (.slice (some ⟨g144, 0, none⟩) ((lst (t95.at_ 1)).length) c145)), (22, .v (.int .i32 (((lst (t95.at_ 1)).length : Nat) : Int))), (23, .v (.int .i32 ((k150 + 1 : Nat) : Int)))]) (by rw [i32_succ (by have := e107_1; omega)])).pk (env' := [(2, .v (.bool false)), (7, .p 0 0), (8, .v (.int .i16 v)), (9, .v (.bool (decide (v ≥ 6)))), (10, .p 1 0), (14, .v (.slice (some ⟨g88, 0, none⟩) ((lst (T.at_ 2)).length) c89)), (15, .v (.int .i32 (((lst (T.at_ 2)).length : Nat) : Int))), (16, .v (.int .i32 ((k94 : Nat) : Int))), (18, .p 3 0), (21, .v (.slice (some ⟨g144, 0, none⟩) ((lst (t95.at_ 1)).length) c145)), (22, .v (.int .i32 (((lst (t95.at_ 1)).length : Nat) : Int))), (23, .v (.int .i32 ((k150 + 1 : Nat) : Int)))])
              clear hS247
              exact (RS.thing (tb := [⟨bv, 0, [.int .i16 v, .int .i32 (IntKind.i32.wrap (T.at_ 0).N), .int .i8 D60.n, .slice none 0 0, .int .i32 30000, .map none], true⟩, restO g88 3 (.agg #[.string ByteArray.empty, .slice none 0 0, .map none]) ((lst (T.at_ 2)).length) (k94 + 1), ⟨g88, k94 * 3, [.string (bs (t95.at_ 0).S), .slice none 0 0, .map none], true⟩]) (z := .agg #[.int .i32 0, .int .i32 0, .int .i64 0, .int .i32 0, .map none]) (D := (dvP m229 u230 [dvN (IntKind.i32.wrap (t151.at_ 0).N), D191, dvN (IntKind.i64.wrap (t151.at_ 2).N), D208])) (hS248.cast hR162) hg_g144 ht152 mvListOffsetsRequestTopicPartition hmP155 rfl (fun w F h_ => ⟨(hP159 _ _ (hP193 _ _ (hP210 _ _ (hP232 _ _ h_).1).1).1).1, (hP159 _ _ (hP193 _ _ (hP210 _ _ (hP232 _ _ h_).1).1).1).2, ⟨(trivial), ((hP193 _ _ (hP210 _ _ (hP232 _ _ h_).1).1).2.1), (trivial), ((hP210 _ _ (hP232 _ _ h_).1).2.1), (hP232 _ _ h_).2.1.1, (hP232 _ _ h_).2.1.2.1, (hP232 _ _ h_).2.1.2.2, trivial⟩, ⟨(rfl), ((hP193 _ _ (hP210 _ _ (hP232 _ _ h_).1).1).2.2), (rfl), ((hP210 _ _ (hP232 _ _ h_).1).2.2), (hP232 _ _ h_).2.2, trivial⟩⟩) (by kernel_rfl))
            ·
              refine wp_seq ?_
              refine wp_seq ?_
              refine rs_sr [(2, .v (.bool false)), (7, .p 0 0), (8, .v (.int .i16 v)), (9, .v (.bool (decide (v ≥ 6)))), (10, .p 1 0), (14, .v (.slice (some ⟨g88, 0, none⟩) ((lst (T.at_ 2)).length) c89)), (15, .v (.int .i32 (((lst (T.at_ 2)).length : Nat) : Int))), (16, .v (.int .i32 ((k94 : Nat) : Int))), (18, .p 3 0), (21, .v (.slice (some ⟨g144, 0, none⟩) ((lst (t95.at_ 1)).length) c145)), (22, .v (.int .i32 (((lst (t95.at_ 1)).length : Nat) : Int))), (23, .v (.int .i32 (((lst (t95.at_ 1)).length : Nat) : Int))), (116, .v (.bool (decide ((((lst (t95.at_ 1)).length : Nat) : Int) < (((lst (t95.at_ 1)).length : Nat) : Int)))))] hS157 fun _ hS249 => then_normal ?_
              clear hS157
              refine cond_false hS249.env_ (b := decide ((((lst (t95.at_ 1)).length : Nat) : Int) < (((lst (t95.at_ 1)).length : Nat) : Int))) (by kernel_rfl) (decide_eq_false (by omega)) ?_
              refine wp_exit ?_
              refine then_exit ?_
              refine then_exit ?_
              refine block_exit ?_
              refine then_normal ?_
              obtain ⟨f250, hS251⟩ := RS.listEnd (tb := [⟨bv, 0, [.int .i16 v, .int .i32 (IntKind.i32.wrap (T.at_ 0).N), .int .i8 D60.n, .slice none 0 0, .int .i32 30000, .map none], true⟩, restO g88 3 (.agg #[.string ByteArray.empty, .slice none 0 0, .map none]) ((lst (T.at_ 2)).length) (k94 + 1), ⟨g88, k94 * 3, [.string (bs (t95.at_ 0).S), .slice none 0 0, .map none], true⟩]) (c := c145) (hS249.pk (env' := [(2, .v (.bool false)), (7, .p 0 0), (8, .v (.int .i16 v)), (9, .v (.bool (decide (v ≥ 6)))), (10, .p 1 0), (14, .v (.slice (some ⟨g88, 0, none⟩) ((lst (T.at_ 2)).length) c89)), (15, .v (.int .i32 (((lst (T.at_ 2)).length : Nat) : Int))), (16, .v (.int .i32 ((k94 : Nat) : Int))), (18, .p 3 0), (21, .v (.slice (some ⟨g144, 0, none⟩) ((lst (t95.at_ 1)).length) c145))])) hg_g144 mvListOffsetsRequestTopicPartition hmP155 hcap_g144 (by have := e107_1; omega) hn_g144 (by kernel_rfl)
              exact ⟨dvL (some ⟨g144, 0, none⟩) (lst (t95.at_ 1)).length c145 f250, _, fun w F h_ => ⟨h_.1, ⟨h_.2.1, Nat.le_trans e107_1 (by decide), h_.2.2.1⟩, ⟨rfl, h_.2.2.2⟩⟩, hS251⟩
          ·
            refine wp_skip ?_
            refine then_normal ?_
            refine wp_seq ?_
            refine rs_sr [(2, .v (.bool false)), (7, .p 0 0), (8, .v (.int .i16 v)), (9, .v (.bool (decide (v ≥ 6)))), (10, .p 1 0), (14, .v (.slice (some ⟨g88, 0, none⟩) ((lst (T.at_ 2)).length) c89)), (15, .v (.int .i32 (((lst (T.at_ 2)).length : Nat) : Int))), (16, .v (.int .i32 ((k94 : Nat) : Int))), (18, .p 3 0), (21, .v (.slice none 0 0)), (22, .v (.int .i32 (((lst (t95.at_ 1)).length : Nat) : Int))), (23, .v (.int .i32 0))] hS142 fun _ hS252 => ?_
            clear hS142
            refine then_normal ?_
            refine wp_block ?_
            refine loop_out ?_
            refine wp_seq ?_
            refine wp_seq ?_
            refine rs_sr [(2, .v (.bool false)), (7, .p 0 0), (8, .v (.int .i16 v)), (9, .v (.bool (decide (v ≥ 6)))), (10, .p 1 0), (14, .v (.slice (some ⟨g88, 0, none⟩) ((lst (T.at_ 2)).length) c89)), (15, .v (.int .i32 (((lst (T.at_ 2)).length : Nat) : Int))), (16, .v (.int .i32 ((k94 : Nat) : Int))), (18, .p 3 0), (21, .v (.slice none 0 0)), (22, .v (.int .i32 (((lst (t95.at_ 1)).length : Nat) : Int))), (23, .v (.int .i32 0)), (116, .v (.bool (decide (0 < (((lst (t95.at_ 1)).length : Nat) : Int)))))] hS252 fun _ hS253 => then_normal ?_
            clear hS252
            refine cond_false hS253.env_ (b := decide (0 < (((lst (t95.at_ 1)).length : Nat) : Int))) (by kernel_rfl) (decide_eq_false (by have h_ := of_decide_eq_false hc143; omega)) ?_
            refine wp_exit ?_
            refine then_exit ?_
            refine then_exit ?_
            refine block_exit ?_
            refine then_normal ?_
            have hz_ : (lst (t95.at_ 1)).length = 0 := by have h_ := of_decide_eq_false hc143; omega
            exact ⟨dvL none 0 0 (fun _ => dv0), _, fun w F h_ => ⟨h_, ⟨Slots.nil _ _ _ _, Nat.zero_le _, fun _ h => absurd h (Nat.not_lt_zero _)⟩, ⟨hz_.symm, fun _ h => absurd h (Nat.not_lt_zero _)⟩⟩, (hS253.cast (t := R108) (by rw [List.eq_nil_of_length_eq_zero hz_]; rfl)).pk (env' := [(2, .v (.bool false)), (7, .p 0 0), (8, .v (.int .i16 v)), (9, .v (.bool (decide (v ≥ 6)))), (10, .p 1 0), (14, .v (.slice (some ⟨g88, 0, none⟩) ((lst (T.at_ 2)).length) c89)), (15, .v (.int .i32 (((lst (T.at_ 2)).length : Nat) : Int))), (16, .v (.int .i32 ((k94 : Nat) : Int))), (18, .p 3 0), (21, .v (.slice none 0 0))])⟩
        rintro _ _ ⟨D138, P139, hP140, hS141⟩
        refine wp_seq ?_
        refine rs_sr [(2, .v (.bool false)), (7, .p 0 0), (8, .v (.int .i16 v)), (9, .v (.bool (decide (v ≥ 6)))), (10, .p 1 0), (14, .v (.slice (some ⟨g88, 0, none⟩) ((lst (T.at_ 2)).length) c89)), (15, .v (.int .i32 (((lst (T.at_ 2)).length : Nat) : Int))), (16, .v (.int .i32 ((k94 : Nat) : Int))), (18, .p 3 0), (20, .v (.slice D138.A D138.l D138.c))] hS141 fun _ hS254 => ?_
        clear hS141
        refine then_normal ?_
        refine rs_sto [⟨bv, 0, [.int .i16 v, .int .i32 (IntKind.i32.wrap (T.at_ 0).N), .int .i8 D60.n, .slice none 0 0, .int .i32 30000, .map none], true⟩, restO g88 3 (.agg #[.string ByteArray.empty, .slice none 0 0, .map none]) ((lst (T.at_ 2)).length) (k94 + 1), ⟨g88, k94 * 3, [.string (bs (t95.at_ 0).S), .slice D138.A D138.l D138.c, .map none], true⟩] 2 [(2, .v (.bool false)), (7, .p 0 0), (8, .v (.int .i16 v)), (9, .v (.bool (decide (v ≥ 6)))), (10, .p 1 0), (14, .v (.slice (some ⟨g88, 0, none⟩) ((lst (T.at_ 2)).length) c89)), (15, .v (.int .i32 (((lst (T.at_ 2)).length : Nat) : Int))), (16, .v (.int .i32 ((k94 : Nat) : Int))), (18, .p 3 0)] hS254 fun _ _ hS255 => ?_
        clear hS254
        refine then_normal ?_
        have hS256 := hS255.cast hR109
        clear hS255
        refine wp_joinN (Mid := fun a_ w_ => ∃ (m258 : Option Nat) (u259 : List (Int × Bs)) (P' : FactW), (∀ w F, P' w F → P139 w F ∧ (MapR w F m258 u259 ∧ u259.length ≤ 1000000 ∧ ∀ x ∈ u259, x.2.length < 4294967296) ∧ ((decide (v ≥ 6)) = true → u259 = t95.U) ∧ ((decide (v ≥ 6)) = false → u259 = [])) ∧ RS w (fun b o => b = bv ∧ o < 6) F 186 b25 [⟨bv, 0, [.int .i16 v, .int .i32 (IntKind.i32.wrap (T.at_ 0).N), .int .i8 D60.n, .slice none 0 0, .int .i32 30000, .map none], true⟩, restO g88 3 (.agg #[.string ByteArray.empty, .slice none 0 0, .map none]) ((lst (T.at_ 2)).length) (k94 + 1), ⟨g88, k94 * 3, [.string (bs (t95.at_ 0).S), .slice D138.A D138.l D138.c, .map m258], true⟩] [(2, .v (.bool false)), (7, .p 0 0), (8, .v (.int .i16 v)), (9, .v (.bool (decide (v ≥ 6)))), (10, .p 1 0), (14, .v (.slice (some ⟨g88, 0, none⟩) ((lst (T.at_ 2)).length) c89)), (15, .v (.int .i32 (((lst (T.at_ 2)).length : Nat) : Int))), (16, .v (.int .i32 ((k94 : Nat) : Int)))] P' R105 a_ w_) ?_ ?_
        ·
          refine wp_seq ?_
          refine rs_sr [(2, .v (.bool false)), (7, .p 0 0), (8, .v (.int .i16 v)), (9, .v (.bool (decide (v ≥ 6)))), (10, .p 1 0), (14, .v (.slice (some ⟨g88, 0, none⟩) ((lst (T.at_ 2)).length) c89)), (15, .v (.int .i32 (((lst (T.at_ 2)).length : Nat) : Int))), (16, .v (.int .i32 ((k94 : Nat) : Int))), (18, .p 3 0), (163, .v (.bool (decide (v ≥ 6))))] hS256 fun _ hS263 => then_normal ?_
          clear hS256
          refine cond_of hS263.env_ (b := decide (v ≥ 6)) (by kernel_rfl) (fun hc264 => ?_) (fun hc264 => ?_)
          ·
            have hS265 := hS263.cast (t := ((uv t95.U.length) ++ (tagsR t95.U)) ++ R105) (by rw [if_pos hc264])
            clear hS263
            refine go_region [0, 1, 2, 3, 4] (by kernel_rfl) ?_
            refine rs_rn [0] [1, 2, 3, 4] [(2, .v (.bool false)), (7, .p 0 0), (8, .v (.int .i16 v)), (9, .v (.bool (decide (v ≥ 6)))), (10, .p 1 0), (14, .v (.slice (some ⟨g88, 0, none⟩) ((lst (T.at_ 2)).length) c89)), (15, .v (.int .i32 (((lst (T.at_ 2)).length : Nat) : Int))), (16, .v (.int .i32 ((k94 : Nat) : Int))), (164, .p 3 0)] hS265 fun _ hS266 => ?_
            clear hS265
            refine of_op (rs_call (d := 165) hS266 (pTags t95.U e107_U (ranged_U e107r) _) (fun _ => MvF.tags _ _) Tryz.call154 fun m267 P268 _ _ hP269 hS270 => ?_)
            clear hS266
            refine rs_rn [2, 3] [4] [(2, .v (.bool false)), (7, .p 0 0), (8, .v (.int .i16 v)), (9, .v (.bool (decide (v ≥ 6)))), (10, .p 1 0), (14, .v (.slice (some ⟨g88, 0, none⟩) ((lst (T.at_ 2)).length) c89)), (15, .v (.int .i32 (((lst (T.at_ 2)).length : Nat) : Int))), (16, .v (.int .i32 ((k94 : Nat) : Int))), (165, .v (.agg #[.map m267])), (167, .p 3 2)] hS270 fun _ hS271 => ?_
            clear hS270
            refine of_op (rs_store [⟨bv, 0, [.int .i16 v, .int .i32 (IntKind.i32.wrap (T.at_ 0).N), .int .i8 D60.n, .slice none 0 0, .int .i32 30000, .map none], true⟩, restO g88 3 (.agg #[.string ByteArray.empty, .slice none 0 0, .map none]) ((lst (T.at_ 2)).length) (k94 + 1), ⟨g88, k94 * 3, [.string (bs (t95.at_ 0).S), .slice D138.A D138.l D138.c, .map m267], true⟩] 2 hS271 fun _ hS272 => ?_)
            clear hS271
            refine wpOps_nil ?_
            have hS273 := hS272.pk (env' := [(2, .v (.bool false)), (7, .p 0 0), (8, .v (.int .i16 v)), (9, .v (.bool (decide (v ≥ 6)))), (10, .p 1 0), (14, .v (.slice (some ⟨g88, 0, none⟩) ((lst (T.at_ 2)).length) c89)), (15, .v (.int .i32 (((lst (T.at_ 2)).length : Nat) : Int))), (16, .v (.int .i32 ((k94 : Nat) : Int)))])
            clear hS272
            refine then_normal ?_
            exact ⟨m267, t95.U, _, fun w F h_ => ⟨(hP269 _ _ h_).1, ⟨(hP269 _ _ h_).2, e107_U.2.1, e107_U.2.2⟩, ⟨fun _ => rfl, (fun e_ => by rw [hc264] at e_; cases e_)⟩⟩, hS273.pk (env' := [(2, .v (.bool false)), (7, .p 0 0), (8, .v (.int .i16 v)), (9, .v (.bool (decide (v ≥ 6)))), (10, .p 1 0), (14, .v (.slice (some ⟨g88, 0, none⟩) ((lst (T.at_ 2)).length) c89)), (15, .v (.int .i32 (((lst (T.at_ 2)).length : Nat) : Int))), (16, .v (.int .i32 ((k94 : Nat) : Int)))])⟩
          ·
            have hS274 := hS263.cast (t := [] ++ R105) (by rw [if_neg (by rw [hc264]; decide)])
            clear hS263
            have hS275 := hS274.cast (t := R105) rfl
            clear hS274
            refine wp_skip (then_normal ?_)
            exact ⟨none, [], _, fun w F h_ => ⟨h_, ⟨MapR.nil _ _, Nat.zero_le _, fun _ h => by cases h⟩, ⟨(fun e_ => by rw [hc264] at e_; cases e_), fun _ => rfl⟩⟩, hS275.pk (env' := [(2, .v (.bool false)), (7, .p 0 0), (8, .v (.int .i16 v)), (9, .v (.bool (decide (v ≥ 6)))), (10, .p 1 0), (14, .v (.slice (some ⟨g88, 0, none⟩) ((lst (T.at_ 2)).length) c89)), (15, .v (.int .i32 (((lst (T.at_ 2)).length : Nat) : Int))), (16, .v (.int .i32 ((k94 : Nat) : Int)))])⟩
        rintro _ _ ⟨m258, u259, P260, hP261, hS262⟩
        refine block_normal ?_
        refine then_normal ?_
        refine rs_sr [(2, .v (.bool false)), (7, .p 0 0), (8, .v (.int .i16 v)), (9, .v (.bool (decide (v ≥ 6)))), (10, .p 1 0), (14, .v (.slice (some ⟨g88, 0, none⟩) ((lst (T.at_ 2)).length) c89)), (15, .v (.int .i32 (((lst (T.at_ 2)).length : Nat) : Int))), (16, .v (.int .i32 (IntKind.i32.wrap (((k94 : Nat) : Int) + 1))))] hS262 fun _ hS276 => ?_
        clear hS262
        refine then_normal ?_
        have hS277 := (hS276.envEq (env' := [(2, .v (.bool false)), (7, .p 0 0), (8, .v (.int .i16 v)), (9, .v (.bool (decide (v ≥ 6)))), (10, .p 1 0), (14, .v (.slice (some ⟨g88, 0, none⟩) ((lst (T.at_ 2)).length) c89)), (15, .v (.int .i32 (((lst (T.at_ 2)).length : Nat) : Int))), (16, .v (.int .i32 ((k94 + 1 : Nat) : Int)))]) (by rw [i32_succ (by have := e38_2; omega)])).pk (env' := [(2, .v (.bool false)), (7, .p 0 0), (8, .v (.int .i16 v)), (9, .v (.bool (decide (v ≥ 6)))), (10, .p 1 0), (14, .v (.slice (some ⟨g88, 0, none⟩) ((lst (T.at_ 2)).length) c89)), (15, .v (.int .i32 (((lst (T.at_ 2)).length : Nat) : Int))), (16, .v (.int .i32 ((k94 + 1 : Nat) : Int)))])
        clear hS276
        exact (RS.thing (tb := [⟨bv, 0, [.int .i16 v, .int .i32 (IntKind.i32.wrap (T.at_ 0).N), .int .i8 D60.n, .slice none 0 0, .int .i32 30000, .map none], true⟩]) (z := .agg #[.string ByteArray.empty, .slice none 0 0, .map none]) (D := (dvP m258 u259 [dvS (bs (t95.at_ 0).S), D138])) (hS277.cast hR106) hg_g88 ht96 mvListOffsetsRequestTopic hmP99 rfl (fun w F h_ => ⟨(hP103 _ _ (hP140 _ _ (hP261 _ _ h_).1).1).1, (hP103 _ _ (hP140 _ _ (hP261 _ _ h_).1).1).2, ⟨(by show ByteArray.size (bs _) ≤ 1000000; rw [bs_size]; exact Nat.le_trans e107_0 (by decide)), ((hP140 _ _ (hP261 _ _ h_).1).2.1), (hP261 _ _ h_).2.1.1, (hP261 _ _ h_).2.1.2.1, (hP261 _ _ h_).2.1.2.2, trivial⟩, ⟨(rfl), ((hP140 _ _ (hP261 _ _ h_).1).2.2), (hP261 _ _ h_).2.2, trivial⟩⟩) (by kernel_rfl))
      ·
        refine wp_seq ?_
        refine wp_seq ?_
        refine rs_sr [(2, .v (.bool false)), (7, .p 0 0), (8, .v (.int .i16 v)), (9, .v (.bool (decide (v ≥ 6)))), (10, .p 1 0), (14, .v (.slice (some ⟨g88, 0, none⟩) ((lst (T.at_ 2)).length) c89)), (15, .v (.int .i32 (((lst (T.at_ 2)).length : Nat) : Int))), (16, .v (.int .i32 (((lst (T.at_ 2)).length : Nat) : Int))), (76, .v (.bool (decide ((((lst (T.at_ 2)).length : Nat) : Int) < (((lst (T.at_ 2)).length : Nat) : Int)))))] hS101 fun _ hS278 => then_normal ?_
        clear hS101
        refine cond_false hS278.env_ (b := decide ((((lst (T.at_ 2)).length : Nat) : Int) < (((lst (T.at_ 2)).length : Nat) : Int))) (by kernel_rfl) (decide_eq_false (by omega)) ?_
        refine wp_exit ?_
        refine then_exit ?_
        refine then_exit ?_
        refine block_exit ?_
        refine then_normal ?_
        obtain ⟨f279, hS280⟩ := RS.listEnd (tb := [⟨bv, 0, [.int .i16 v, .int .i32 (IntKind.i32.wrap (T.at_ 0).N), .int .i8 D60.n, .slice none 0 0, .int .i32 30000, .map none], true⟩]) (c := c89) (hS278.pk (env' := [(7, .p 0 0), (8, .v (.int .i16 v)), (9, .v (.bool (decide (v ≥ 6)))), (10, .p 1 0), (14, .v (.slice (some ⟨g88, 0, none⟩) ((lst (T.at_ 2)).length) c89))])) hg_g88 mvListOffsetsRequestTopic hmP99 hcap_g88 (by have := e38_2; omega) hn_g88 (by kernel_rfl)
        exact ⟨dvL (some ⟨g88, 0, none⟩) (lst (T.at_ 2)).length c89 f279, _, fun w F h_ => ⟨h_.1, ⟨h_.2.1, Nat.le_trans e38_2 (by decide), h_.2.2.1⟩, ⟨rfl, h_.2.2.2⟩⟩, hS280⟩
    ·
      refine wp_skip ?_
      refine then_normal ?_
      refine wp_seq ?_
      refine rs_sr [(2, .v (.bool false)), (7, .p 0 0), (8, .v (.int .i16 v)), (9, .v (.bool (decide (v ≥ 6)))), (10, .p 1 0), (14, .v (.slice none 0 0)), (15, .v (.int .i32 (((lst (T.at_ 2)).length : Nat) : Int))), (16, .v (.int .i32 0))] hS86 fun _ hS281 => ?_
      clear hS86
      refine then_normal ?_
      refine wp_block ?_
      refine loop_out ?_
      refine wp_seq ?_
      refine wp_seq ?_
      refine rs_sr [(2, .v (.bool false)), (7, .p 0 0), (8, .v (.int .i16 v)), (9, .v (.bool (decide (v ≥ 6)))), (10, .p 1 0), (14, .v (.slice none 0 0)), (15, .v (.int .i32 (((lst (T.at_ 2)).length : Nat) : Int))), (16, .v (.int .i32 0)), (76, .v (.bool (decide (0 < (((lst (T.at_ 2)).length : Nat) : Int)))))] hS281 fun _ hS282 => then_normal ?_
      clear hS281
      refine cond_false hS282.env_ (b := decide (0 < (((lst (T.at_ 2)).length : Nat) : Int))) (by kernel_rfl) (decide_eq_false (by have h_ := of_decide_eq_false hc87; omega)) ?_
      refine wp_exit ?_
      refine then_exit ?_
      refine then_exit ?_
      refine block_exit ?_
      refine then_normal ?_
      have hz_ : (lst (T.at_ 2)).length = 0 := by have h_ := of_decide_eq_false hc87; omega
      exact ⟨dvL none 0 0 (fun _ => dv0), _, fun w F h_ => ⟨h_, ⟨Slots.nil _ _ _ _, Nat.zero_le _, fun _ h => absurd h (Nat.not_lt_zero _)⟩, ⟨hz_.symm, fun _ h => absurd h (Nat.not_lt_zero _)⟩⟩, (hS282.cast (t := R41) (by rw [List.eq_nil_of_length_eq_zero hz_]; rfl)).pk (env' := [(7, .p 0 0), (8, .v (.int .i16 v)), (9, .v (.bool (decide (v ≥ 6)))), (10, .p 1 0), (14, .v (.slice none 0 0))])⟩
  rintro _ _ ⟨D82, P83, hP84, hS85⟩
  refine wp_seq ?_
  refine rs_sr [(7, .p 0 0), (8, .v (.int .i16 v)), (9, .v (.bool (decide (v ≥ 6)))), (10, .p 1 0), (13, .v (.slice D82.A D82.l D82.c))] hS85 fun _ hS283 => ?_
  clear hS85
  refine then_normal ?_
  refine rs_sto [⟨bv, 0, [.int .i16 v, .int .i32 (IntKind.i32.wrap (T.at_ 0).N), .int .i8 D60.n, .slice D82.A D82.l D82.c, .int .i32 30000, .map none], true⟩] 0 [(7, .p 0 0), (8, .v (.int .i16 v)), (9, .v (.bool (decide (v ≥ 6)))), (10, .p 1 0)] hS283 fun _ _ hS284 => ?_
  clear hS283
  refine then_normal ?_
  refine wp_seq ?_
  have hS285 := hS284.cast hR42
  clear hS284
  refine wp_joinN (Mid := fun a_ w_ => ∃ (D286 : DV) (P' : FactW), (∀ w F, P' w F → P83 w F ∧ (True) ∧ ((decide (v ≥ 10)) = true → D286.n = IntKind.i32.wrap (T.at_ 3).N) ∧ ((decide (v ≥ 10)) = false → D286.n = 30000)) ∧ RS w (fun b o => b = bv ∧ o < 6) F 186 b25 [⟨bv, 0, [.int .i16 v, .int .i32 (IntKind.i32.wrap (T.at_ 0).N), .int .i8 D60.n, .slice D82.A D82.l D82.c, .int .i32 D286.n, .map none], true⟩] [(7, .p 0 0), (9, .v (.bool (decide (v ≥ 6)))), (10, .p 1 0)] P' R39 a_ w_) ?_ ?_
  ·
    refine wp_seq ?_
    refine rs_sr [(7, .p 0 0), (9, .v (.bool (decide (v ≥ 6)))), (10, .p 1 0), (174, .v (.bool (decide (v ≥ 10))))] hS285 fun _ hS290 => then_normal ?_
    clear hS285
    refine cond_of hS290.env_ (b := decide (v ≥ 10)) (by kernel_rfl) (fun hc291 => ?_) (fun hc291 => ?_)
    ·
      have hS292 := hS290.cast (t := (be 4 ((IntKind.i32.wrap (T.at_ 3).N))) ++ R39) (by rw [if_pos hc291])
      clear hS290
      refine wp_seq ?_
      refine rs_ca0 (d := 175) [(7, .p 0 0), (9, .v (.bool (decide (v ≥ 6)))), (10, .p 1 0), (30, .v (.int .i32 (IntKind.i32.wrap (T.at_ 3).N)))] hS292 (pInt32 _ _) Tryz.call153 fun _ _ hS294 => ?_
      clear hS292
      refine then_normal ?_
      refine rs_sto [⟨bv, 0, [.int .i16 v, .int .i32 (IntKind.i32.wrap (T.at_ 0).N), .int .i8 D60.n, .slice D82.A D82.l D82.c, .int .i32 (IntKind.i32.wrap (T.at_ 3).N), .map none], true⟩] 0 [(7, .p 0 0), (9, .v (.bool (decide (v ≥ 6)))), (10, .p 1 0)] hS294 fun _ _ hS295 => ?_
      clear hS294
      refine then_normal ?_
      exact ⟨dvN (IntKind.i32.wrap (T.at_ 3).N), _, fun w F h_ => ⟨h_, trivial, ⟨fun _ => rfl, (fun e_ => by rw [hc291] at e_; cases e_)⟩⟩, hS295.pk (env' := [(7, .p 0 0), (9, .v (.bool (decide (v ≥ 6)))), (10, .p 1 0)])⟩
    ·
      have hS296 := hS290.cast (t := [] ++ R39) (by rw [if_neg (by rw [hc291]; decide)])
      clear hS290
      have hS297 := hS296.cast (t := R39) rfl
      clear hS296
      refine wp_skip (then_normal ?_)
      exact ⟨dvN (30000), _, fun w F h_ => ⟨h_, trivial, ⟨(fun e_ => by rw [hc291] at e_; cases e_), fun _ => rfl⟩⟩, hS297.pk (env' := [(7, .p 0 0), (9, .v (.bool (decide (v ≥ 6)))), (10, .p 1 0)])⟩
  rintro _ _ ⟨D286, P287, hP288, hS289⟩
  refine then_normal ?_
  refine wp_seq ?_
  have hS298 := hS289.cast hR40
  clear hS289
  refine wp_joinN (Mid := fun a_ w_ => ∃ (m300 : Option Nat) (u301 : List (Int × Bs)) (P' : FactW), (∀ w F, P' w F → P287 w F ∧ (MapR w F m300 u301 ∧ u301.length ≤ 1000000 ∧ ∀ x ∈ u301, x.2.length < 4294967296) ∧ ((decide (v ≥ 6)) = true → u301 = T.U) ∧ ((decide (v ≥ 6)) = false → u301 = [])) ∧ RS w (fun b o => b = bv ∧ o < 6) F 186 b25 [⟨bv, 0, [.int .i16 v, .int .i32 (IntKind.i32.wrap (T.at_ 0).N), .int .i8 D60.n, .slice D82.A D82.l D82.c, .int .i32 D286.n, .map m300], true⟩] [(7, .p 0 0)] P' ([] : Bs) a_ w_) ?_ ?_
  ·
    refine wp_seq ?_
    refine rs_sr [(7, .p 0 0), (10, .p 1 0), (180, .v (.bool (decide (v ≥ 6))))] hS298 fun _ hS305 => then_normal ?_
    clear hS298
    refine cond_of hS305.env_ (b := decide (v ≥ 6)) (by kernel_rfl) (fun hc306 => ?_) (fun hc306 => ?_)
    ·
      have hS307 := hS305.cast (t := ((uv T.U.length) ++ (tagsR T.U)) ++ ([] : Bs)) (by rw [if_pos hc306])
      clear hS305
      refine go_region [0, 1, 2, 3, 4] (by kernel_rfl) ?_
      refine rs_rn [0] [1, 2, 3, 4] [(7, .p 0 0), (181, .p 1 0)] hS307 fun _ hS308 => ?_
      clear hS307
      refine of_op (rs_call (d := 182) hS308 (pTags T.U e38_U (ranged_U e38r) _) (fun _ => MvF.tags _ _) Tryz.call154 fun m309 P310 _ _ hP311 hS312 => ?_)
      clear hS308
      refine rs_rn [2, 3] [4] [(7, .p 0 0), (182, .v (.agg #[.map m309])), (184, .p 1 5)] hS312 fun _ hS313 => ?_
      clear hS312
      refine of_op (rs_store [⟨bv, 0, [.int .i16 v, .int .i32 (IntKind.i32.wrap (T.at_ 0).N), .int .i8 D60.n, .slice D82.A D82.l D82.c, .int .i32 D286.n, .map m309], true⟩] 0 hS313 fun _ hS314 => ?_)
      clear hS313
      refine wpOps_nil ?_
      have hS315 := hS314.pk (env' := [(7, .p 0 0)])
      clear hS314
      refine then_normal ?_
      exact ⟨m309, T.U, _, fun w F h_ => ⟨(hP311 _ _ h_).1, ⟨(hP311 _ _ h_).2, e38_U.2.1, e38_U.2.2⟩, ⟨fun _ => rfl, (fun e_ => by rw [hc306] at e_; cases e_)⟩⟩, hS315.pk (env' := [(7, .p 0 0)])⟩
    ·
      have hS316 := hS305.cast (t := [] ++ ([] : Bs)) (by rw [if_neg (by rw [hc306]; decide)])
      clear hS305
      have hS317 := hS316.cast (t := ([] : Bs)) rfl
      clear hS316
      refine wp_skip (then_normal ?_)
      exact ⟨none, [], _, fun w F h_ => ⟨h_, ⟨MapR.nil _ _, Nat.zero_le _, fun _ h => by cases h⟩, ⟨(fun e_ => by rw [hc306] at e_; cases e_), fun _ => rfl⟩⟩, hS317.pk (env' := [(7, .p 0 0)])⟩
  rintro _ _ ⟨m300, u301, P302, hP303, hS304⟩
  refine then_normal ?_
  refine wp_seq ?_
  refine go_region [0, 1] (by kernel_rfl) (of_op (rs_complete (d := 185) hS304 rComplete Tryz.call146 fun _ hS318 => ?_))
  clear hS304
  refine rs_rn [1] [] [(6, .v (.nilIface))] hS318 fun _ hS319 => wpOps_nil ?_
  clear hS318
  refine then_normal ?_
  refine wp_ret ?_
  obtain ⟨A_, m_, c_, hW_, hr_, hE_, hP_⟩ := hS319.open_
  refine leave hE_ hW_.cells (v := .nilIface) (by kernel_rfl) ?_
  have h_ := hS319.mv.mono immOut hP_
  refine ⟨(dvP m300 u301 [dvN (IntKind.i32.wrap (T.at_ 0).N), D60, D82, D286]), rfl, Str.of hW_ 1 rfl, ?_, ?_, hW_.step⟩
  · unfold okListOffsetsRequest
    exact ⟨(trivial), ((hP62 _ _ (hP84 _ _ (hP288 _ _ (hP303 _ _ h_).1).1).1).2.1), ((hP84 _ _ (hP288 _ _ (hP303 _ _ h_).1).1).2.1), ((hP288 _ _ (hP303 _ _ h_).1).2.1), (hP303 _ _ h_).2.1.1, (hP303 _ _ h_).2.1.2.1, (hP303 _ _ h_).2.1.2.2, trivial⟩
  · unfold rvListOffsetsRequest
    exact ⟨(rfl), ((hP62 _ _ (hP84 _ _ (hP288 _ _ (hP303 _ _ h_).1).1).1).2.2), ((hP84 _ _ (hP288 _ _ (hP303 _ _ h_).1).1).2.2), ((hP288 _ _ (hP303 _ _ h_).1).2.2), (hP303 _ _ h_).2.2, trivial⟩

theorem mvListOffsetsRequest : Moves okListOffsetsRequest := by
  intro w w' F F' M d hs hM hF h
  unfold okListOffsetsRequest at h ⊢
  obtain ⟨g0, g1, ⟨g2, g2l, g2e⟩, g3, t1, t2, t3, _⟩ := h
  exact ⟨g0, g1, ⟨g2.move hs hM hF, g2l, fun i hi => mvListOffsetsRequestTopic _ hs hM hF (g2e i hi)⟩, g3, t1.move hs hM hF, t2, t3, trivial⟩

theorem aeListOffsetsRequestTopicPartition (v : Int) (D : DV) (T : Tree) (h : rvListOffsetsRequestTopicPartition v D T) : (be 4 ((D.f 0).n)) ++ ((if (decide (v ≥ 4)) = true then be 4 ((D.f 1).n) else []) ++ ((be 8 ((D.f 2).n)) ++ ((if ((if (decide (v ≥ 0)) = true then decide (v ≤ 0) else false)) = true then be 4 ((D.f 3).n) else []) ++ (if (decide (v ≥ 6)) = true then (uv D.u.length) ++ (tagsR D.u) else [])))) = tEListOffsetsRequestTopicPartition v T := by
  unfold rvListOffsetsRequestTopicPartition at h
  obtain ⟨r0_, r1_, r2_, r3_, rU_, _⟩ := h
  unfold tEListOffsetsRequestTopicPartition
  exact app_c (by rw [r0_]) (app_c (if_c (fun hc_ => by rw [(r1_.1 hc_)])) (app_c (by rw [r2_]; exact be8_i64 _) (app_c (if_c (fun hc_ => by rw [(r3_.1 hc_)])) ((if_c (fun hc_ => by rw [(rU_.1 hc_)]))))))

theorem aeListOffsetsRequestTopic (v : Int) (D : DV) (T : Tree) (h : rvListOffsetsRequestTopic v D T) : (if (decide (v ≥ 6)) = true then (uv ((D.f 0).s.size + 1) ++ sb (D.f 0).s) else (be 2 (D.f 0).s.size ++ sb (D.f 0).s)) ++ (((if (decide (v ≥ 6)) = true then (uv ((D.f 1).l + 1)) else (be 4 (D.f 1).l)) ++ ((List.range (D.f 1).l).flatMap fun k83 => (be 4 ((((D.f 1).f k83).f 0).n)) ++ ((if (decide (v ≥ 4)) = true then be 4 ((((D.f 1).f k83).f 1).n) else []) ++ ((be 8 ((((D.f 1).f k83).f 2).n)) ++ ((if ((if (decide (v ≥ 0)) = true then decide (v ≤ 0) else false)) = true then be 4 ((((D.f 1).f k83).f 3).n) else []) ++ (if (decide (v ≥ 6)) = true then (uv ((D.f 1).f k83).u.length) ++ (tagsR ((D.f 1).f k83).u) else [])))))) ++ (if (decide (v ≥ 6)) = true then (uv D.u.length) ++ (tagsR D.u) else [])) = tEListOffsetsRequestTopic v T := by
  unfold rvListOffsetsRequestTopic at h
  obtain ⟨r0_, r1_, rU_, _⟩ := h
  unfold tEListOffsetsRequestTopic
  exact app_c (by simp only [r0_, sb_bs, bs_size]) (app_c (app_c (by simp only [r1_.1]) (flat_rel r1_.1 (fun i hi => aeListOffsetsRequestTopicPartition v _ _ (r1_.2 i hi)))) ((if_c (fun hc_ => by rw [(rU_.1 hc_)]))))

theorem avListOffsetsRequest (v : Int) (D : DV) (T : Tree) (h : rvListOffsetsRequest v D T) : aListOffsetsRequest v D = tListOffsetsRequest v T := by
  unfold rvListOffsetsRequest at h
  obtain ⟨r0_, r1_, r2_, r3_, rU_, _⟩ := h
  rw [teListOffsetsRequest]
  unfold aListOffsetsRequest tEListOffsetsRequest_
  exact app_c (by rw [r0_]) (app_c (if_c (fun hc_ => by rw [(r1_.1 hc_)])) (app_c (app_c (by simp only [r2_.1]) (flat_rel r2_.1 (fun i hi => aeListOffsetsRequestTopic v _ _ (r2_.2 i hi)))) (app_c (if_c (fun hc_ => by rw [(r3_.1 hc_)])) (app_c (if_c (fun hc_ => by rw [(rU_.1 hc_)])) (rfl)))))

theorem bhListOffsetsRequest (v : Int) (T : Tree) (dst : Bs) {A1 A2 : Option Addr} {c1 c2 : Nat} {w : World} {F : Nat → Nat → Prop} (hd : Octs w F A1 c1 dst) (hs_ : Octs w F A2 c2 (tListOffsetsRequest (IntKind.i16.wrap v) T)) (hc : canListOffsetsRequest T) (hkey : T.ranged) (hroom : dst.length + (tListOffsetsRequest (IntKind.i16.wrap v) T).length + 16 ≤ 1099511627776) :
    Calls Tryz.prog 22 #[.int .i64 v, .slice A1 dst.length c1, .slice A2 (tListOffsetsRequest (IntKind.i16.wrap v) T).length c2] w (fun e w' => ∃ A c, e = .returned (.tuple #[.slice A (dst ++ (tListOffsetsRequest (IntKind.i16.wrap v) T)).length c, .bool true]) ∧ w'.ownsRow w.heap.size 5 1 (.slice A (dst ++ (tListOffsetsRequest (IntKind.i16.wrap v) T)).length c) (dst ++ (tListOffsetsRequest (IntKind.i16.wrap v) T)).length (bc (dst ++ (tListOffsetsRequest (IntKind.i16.wrap v) T))) ∧ Step w w' Nil) := by
  refine enter (n := 23) Tryz.func22 rfl Tryz.ntmps22 (by kernel_rfl) fun a hE => ?_
  have hW := WOk.start w Nil
  have hsm1 := Slots.small hd
  have hsm2 := Slots.small hs_
  refine go_sp [(0, .v (.int .i64 v)), (1, .v (.slice A1 dst.length c1)), (2, .v (.slice A2 ((tListOffsetsRequest (IntKind.i16.wrap v) T).length) c2))] hW hE fun a1 hE2 => ?_
  clear hE
  refine go_seq_region [0, 1] (by kernel_rfl) ?_
  refine of_op (wpOp_inline hE2 (f := 52) (vs := []) (d := 9) (n' := 3) (by kernel_rfl) Tryz.call52 Tryz.func52 rfl Tryz.ntmps52 (by kernel_rfl) fun a3 hE4 => ?_)
  refine go_sp [] hW hE4 fun a5 hE6 => ?_
  clear hE4
  refine go_seq_region [0] (by kernel_rfl) ?_
  refine of_op (wpOp_alloc hW hE6 (d := 1) (cs := [.int .i16 0, .int .i32 0, .int .i8 0, .slice none 0 0, .int .i32 0, .map none]) (by kernel_rfl) fun b7 a8 w9 hb10 hz11 hF12 hW13 hE14 => ?_)
  clear hE6 hW
  refine wpOps_nil ?_
  refine then_normal ?_
  refine go_seq_region [0] (by kernel_rfl) ?_
  refine of_op (wpOp_inline hE14 (f := 111) (vs := [.pointer (some ⟨b7, 0, none⟩)]) (d := 2) (n' := 8) (by kernel_rfl) Tryz.call111 Tryz.func111 rfl Tryz.ntmps111 (by kernel_rfl) fun a15 hE16 => ?_)
  have hE17 := hE16.recast 0 (.v (.pointer (some ⟨b7, 0, none⟩))) (.p 0 0) rfl rfl (Nat.le_of_ble_eq_true (n := 1) rfl)
  refine go_seq_region [0, 1, 2, 3] (by kernel_rfl) ?_
  refine go_rn [0, 1, 2] [3] [(0, .p 0 0), (4, .p 0 1)] hW13 hE17 fun a18 hE19 => ?_
  clear hE17
  refine of_op (wpOp_store hW13 hE19 (oi := 0) (cs := [.int .i16 0, .int .i32 (-1), .int .i8 0, .slice none 0 0, .int .i32 0, .map none]) (by kernel_rfl) fun w20 hF21 hW22 hE23 => ?_)
  clear hE19 hW13
  refine wpOps_nil ?_
  refine then_normal ?_
  refine go_region [0, 1, 2, 3] (by kernel_rfl) ?_
  refine go_rn [0, 1, 2] [3] [(7, .p 0 4)] hW22 hE23 fun a24 hE25 => ?_
  clear hE23
  refine of_op (wpOp_store hW22 hE25 (oi := 0) (cs := [.int .i16 0, .int .i32 (-1), .int .i8 0, .slice none 0 0, .int .i32 30000, .map none]) (by kernel_rfl) fun w26 hF27 hW28 hE29 => ?_)
  clear hE25 hW22
  refine wpOps_nil ?_
  refine leave_end hE29 hW28.cells (v := .tuple #[]) (by kernel_rfl) ?_
  refine ⟨_, rfl, fun a30 hE31 => ?_⟩
  have hE32 : EnvOk 3 [⟨b7, 0, [.int .i16 0, .int .i32 (-1), .int .i8 0, .slice none 0 0, .int .i32 30000, .map none], true⟩] [(2, .v (.tuple #[])), (1, .p 0 0)] _ := hE31.places (⟨rfl, rfl, trivial⟩)
  refine wpOps_nil ?_
  refine then_normal ?_
  refine go_sp [(0, .p 0 0)] hW28 hE32 fun a33 hE34 => ?_
  clear hE32
  refine wp_ret ?_
  refine leave hE34 hW28.cells (v := .pointer (some ⟨b7, 0, none⟩)) (by kernel_rfl) ?_
  refine ⟨_, rfl, fun a35 hE36 => ?_⟩
  have hE37 : EnvOk 23 [⟨b7, 0, [.int .i16 0, .int .i32 (-1), .int .i8 0, .slice none 0 0, .int .i32 30000, .map none], true⟩] [(9, .v (.pointer (some ⟨b7, 0, none⟩))), (0, .v (.int .i64 v)), (1, .v (.slice A1 dst.length c1)), (2, .v (.slice A2 ((tListOffsetsRequest (IntKind.i16.wrap v) T).length) c2))] _ := hE36.places (trivial)
  have hE38 := hE37.recast 9 (.v (.pointer (some ⟨b7, 0, none⟩))) (.p 0 0) rfl rfl (Nat.le_of_ble_eq_true (n := 1) rfl)
  have hE39 := hE38.pick (ks := [0, 1, 2, 9]) (env' := [(0, .v (.int .i64 v)), (1, .v (.slice A1 dst.length c1)), (2, .v (.slice A2 ((tListOffsetsRequest (IntKind.i16.wrap v) T).length) c2)), (9, .p 0 0)]) (by kernel_rfl)
  clear hE37
  clear hE38
  refine go_rn [1] [] [(0, .v (.int .i64 v)), (1, .v (.slice A1 dst.length c1)), (2, .v (.slice A2 ((tListOffsetsRequest (IntKind.i16.wrap v) T).length) c2)), (8, .p 0 0)] hW28 hE39 fun a40 hE41 => ?_
  clear hE39
  refine wpOps_nil ?_
  refine then_normal ?_
  refine go_seq_region [0, 1, 2, 3] (by kernel_rfl) ?_
  refine go_rn [0, 1, 2] [3] [(1, .v (.slice A1 dst.length c1)), (2, .v (.slice A2 ((tListOffsetsRequest (IntKind.i16.wrap v) T).length) c2)), (8, .p 0 0), (10, .p 0 0), (12, .v (.int .i16 (IntKind.i16.wrap v)))] hW28 hE41 fun a42 hE43 => ?_
  clear hE41
  refine of_op (wpOp_inline hE43 (f := 55) (vs := [.pointer (some ⟨b7, 0, none⟩), .int .i16 (IntKind.i16.wrap v)]) (d := 13) (n' := 8) (by kernel_rfl) Tryz.call55 Tryz.func55 rfl Tryz.ntmps55 (by kernel_rfl) fun a44 hE45 => ?_)
  have hE46 := hE45.recast 0 (.v (.pointer (some ⟨b7, 0, none⟩))) (.p 0 0) rfl rfl (Nat.le_of_ble_eq_true (n := 1) rfl)
  refine go_region [0, 1, 2, 3, 4] (by kernel_rfl) ?_
  refine go_rn [0, 1, 2, 3] [4] [(5, .v (.int .i16 (IntKind.i16.wrap v))), (7, .p 0 0)] hW28 hE46 fun a47 hE48 => ?_
  clear hE46
  refine of_op (wpOp_store hW28 hE48 (oi := 0) (cs := [.int .i16 (IntKind.i16.wrap v), .int .i32 (-1), .int .i8 0, .slice none 0 0, .int .i32 30000, .map none]) (by kernel_rfl) fun w49 hF50 hW51 hE52 => ?_)
  clear hE48 hW28
  refine wpOps_nil ?_
  refine leave_end hE52 hW51.cells (v := .tuple #[]) (by kernel_rfl) ?_
  refine ⟨_, rfl, fun a53 hE54 => ?_⟩
  have hE55 : EnvOk 23 [⟨b7, 0, [.int .i16 (IntKind.i16.wrap v), .int .i32 (-1), .int .i8 0, .slice none 0 0, .int .i32 30000, .map none], true⟩] [(13, .v (.tuple #[])), (1, .v (.slice A1 dst.length c1)), (2, .v (.slice A2 ((tListOffsetsRequest (IntKind.i16.wrap v) T).length) c2)), (8, .p 0 0), (10, .p 0 0), (12, .v (.int .i16 (IntKind.i16.wrap v)))] _ := hE54.places (⟨rfl, rfl, trivial⟩)
  refine wpOps_nil ?_
  refine then_normal ?_
  refine wp_seq ?_
  refine go_seq_region [0, 1, 2, 3, 4] (by kernel_rfl) ?_
  refine go_rn [0, 1] [2, 3, 4] [(1, .v (.slice A1 dst.length c1)), (8, .p 0 0), (14, .p 0 0), (15, .v (.slice A2 ((tListOffsetsRequest (IntKind.i16.wrap v) T).length) c2))] hW51 hE55 fun a56 hE57 => ?_
  clear hE55
  have hW58 := hW51.addNil 5 1
  have hF59 := hW51.frNil 5 1
  clear hW51
  refine of_op (wpOp_append hW58 hE57 (k := 0) (d := 16) (t := 22) (e := 5) (size := 1) (bytes := 1) (A := none) (As := A2) (m0 := 0) (c := 0) (m := ((tListOffsetsRequest (IntKind.i16.wrap v) T).length)) (cs := c2) (xs := []) (news := bc (tListOffsetsRequest (IntKind.i16.wrap v) T)) (by kernel_rfl) (by kernel_rfl) rfl (hs_.move hW58.step nilM hW58.imm).src (hs_.move hW58.step nilM hW58.imm).cap (by first | omega | (simp only [List.length_nil]; omega) | (simp; omega)) fun A60 c61 a62 w63 hF64 hW65 hE66 => ?_)
  clear hE57 hW58
  have er67 : (⟨A60, c61, 5, 1, 0 + (tListOffsetsRequest (IntKind.i16.wrap v) T).length, [] ++ bc (tListOffsetsRequest (IntKind.i16.wrap v) T)⟩ : Rw) = brow A60 c61 5 (tListOffsetsRequest (IntKind.i16.wrap v) T) := by rw [List.nil_append, Nat.zero_add]
  obtain ⟨hW68, hF70⟩ := hW65.rowEq 0 [brow A60 c61 5 (tListOffsetsRequest (IntKind.i16.wrap v) T)] er67
  clear hW65
  have hE71 := EnvOk.pick hE66 (ks := [1, 8, 14, 15, 16]) (env' := [(1, .v (.slice A1 dst.length c1)), (8, .p 0 0), (14, .p 0 0), (15, .v (.slice A2 ((tListOffsetsRequest (IntKind.i16.wrap v) T).length) c2)), (16, .v (.slice A60 (0 + (tListOffsetsRequest (IntKind.i16.wrap v) T).length) c61))]) (by kernel_rfl)
  have hE69 := hE71.cast (env' := [(1, .v (.slice A1 dst.length c1)), (8, .p 0 0), (14, .p 0 0), (15, .v (.slice A2 ((tListOffsetsRequest (IntKind.i16.wrap v) T).length) c2)), (16, .v (.slice A60 ((tListOffsetsRequest (IntKind.i16.wrap v) T).length) c61))]) (by simp only [List.length_append, List.length_cons, List.length_nil, Nat.zero_add])
  clear hE66
  clear hE71
  refine of_op (wpOp_inline hE69 (f := 56) (vs := [.pointer (some ⟨b7, 0, none⟩), .slice A60 ((tListOffsetsRequest (IntKind.i16.wrap v) T).length) c61]) (d := 17) (n' := 8) (by kernel_rfl) Tryz.call56 Tryz.func56 rfl Tryz.ntmps56 (by kernel_rfl) fun a72 hE73 => ?_)
  have hE74 := hE73.recast 0 (.v (.pointer (some ⟨b7, 0, none⟩))) (.p 0 0) rfl rfl (Nat.le_of_ble_eq_true (n := 1) rfl)
  refine go_sp [(0, .p 0 0), (1, .v (.slice A60 ((tListOffsetsRequest (IntKind.i16.wrap v) T).length) c61))] hW68 hE74 fun a75 hE76 => ?_
  clear hE74
  refine go_seq_region [0, 1, 2, 3] (by kernel_rfl) ?_
  refine go_rn [0, 1] [2, 3] [(5, .p 0 0), (6, .v (.slice A60 ((tListOffsetsRequest (IntKind.i16.wrap v) T).length) c61))] hW68 hE76 fun a77 hE78 => ?_
  clear hE76
  have ho79 := hW68.giveUp (G := F) 0 [] (show _ = some (brow A60 c61 5 (tListOffsetsRequest (IntKind.i16.wrap v) T)) from rfl) (by omega)
  obtain ⟨hW80, hF81⟩ := hW68.cutR 0 []
  refine of_op (wpOp_call hE78 (f := 113) (vs := [.pointer (some ⟨b7, 0, none⟩), .slice A60 ((tListOffsetsRequest (IntKind.i16.wrap v) T).length) c61, .bool false]) (d := 7) (by kernel_rfl) Tryz.call113 (rdListOffsetsRequest (IntKind.i16.wrap v) T (Str.of hW80 0 rfl) ho79 (imm_n 0 rfl) hc hkey) ?_)
  rintro e_ w82 ⟨D83, rfl, hs84, hk85, hv86, hst87⟩
  replace hv86 := avListOffsetsRequest _ _ _ hv86
  obtain ⟨hW88, hF89, hl90⟩ := hW80.wrote 0 [⟨b7, 0, [.int .i16 (IntKind.i16.wrap v), .int .i32 ((D83.f 0).n), .int .i8 ((D83.f 1).n), .slice ((D83.f 2).A) ((D83.f 2).l) ((D83.f 2).c), .int .i32 ((D83.f 3).n), .map D83.m], true⟩] rfl hst87 hs84
  have hk94 := mvListOffsetsRequest _ (Step.refl _ Nil) nilM hl90 hk85
  refine ⟨_, rfl, fun a91 hE92 => ?_⟩
  have hE93 : EnvOk 8 [⟨b7, 0, [.int .i16 (IntKind.i16.wrap v), .int .i32 ((D83.f 0).n), .int .i8 ((D83.f 1).n), .slice ((D83.f 2).A) ((D83.f 2).l) ((D83.f 2).c), .int .i32 ((D83.f 3).n), .map D83.m], true⟩] [(7, .v (.nilIface)), (5, .p 0 0), (6, .v (.slice A60 ((tListOffsetsRequest (IntKind.i16.wrap v) T).length) c61))] _ := hE92.places (⟨rfl, rfl, trivial⟩)
  clear hE78
  refine go_rn [3] [] [(4, .v (.nilIface))] hW88 hE93 fun a95 hE96 => ?_
  clear hE93
  refine wpOps_nil ?_
  refine then_normal ?_
  refine wp_ret ?_
  refine leave hE96 hW88.cells (v := .nilIface) (by kernel_rfl) ?_
  refine ⟨_, rfl, fun a97 hE98 => ?_⟩
  have hE99 : EnvOk 23 [⟨b7, 0, [.int .i16 (IntKind.i16.wrap v), .int .i32 ((D83.f 0).n), .int .i8 ((D83.f 1).n), .slice ((D83.f 2).A) ((D83.f 2).l) ((D83.f 2).c), .int .i32 ((D83.f 3).n), .map D83.m], true⟩] [(17, .v (.nilIface)), (1, .v (.slice A1 dst.length c1)), (8, .p 0 0), (14, .p 0 0), (15, .v (.slice A2 ((tListOffsetsRequest (IntKind.i16.wrap v) T).length) c2)), (16, .v (.slice A60 ((tListOffsetsRequest (IntKind.i16.wrap v) T).length) c61))] _ := hE98.places (⟨rfl, rfl, trivial⟩)
  refine go_rn [4] [] [(1, .v (.slice A1 dst.length c1)), (8, .p 0 0), (18, .v (.bool false))] hW88 hE99 fun a100 hE101 => ?_
  clear hE99
  refine wpOps_nil ?_
  refine then_normal ?_
  refine cond_false hE101 (b := false) (by kernel_rfl) rfl ?_
  refine wp_skip ?_
  refine then_normal ?_
  refine go_seq_region [0, 1, 2, 3, 4, 5] (by kernel_rfl) ?_
  refine go_rn [0, 1] [2, 3, 4, 5] [(19, .p 0 0), (20, .v (.slice A1 dst.length c1))] hW88 hE101 fun a102 hE103 => ?_
  clear hE101
  have hW104 := hW88.addNil 5 1
  have hF105 := hW88.frNil 5 1
  clear hW88
  refine of_op (wpOp_append hW104 hE103 (k := 0) (d := 21) (t := 22) (e := 5) (size := 1) (bytes := 1) (A := none) (As := A1) (m0 := 0) (c := 0) (m := dst.length) (cs := c1) (xs := []) (news := bc dst) (by kernel_rfl) (by kernel_rfl) rfl (hd.move hW104.step nilM hW104.imm).src (hd.move hW104.step nilM hW104.imm).cap (by first | omega | (simp only [List.length_nil]; omega) | (simp; omega)) fun A106 c107 a108 w109 hF110 hW111 hE112 => ?_)
  clear hE103 hW104
  have er113 : (⟨A106, c107, 5, 1, 0 + dst.length, [] ++ bc dst⟩ : Rw) = brow A106 c107 5 dst := by rw [List.nil_append, Nat.zero_add]
  obtain ⟨hW114, hF116⟩ := hW111.rowEq 0 [brow A106 c107 5 dst] er113
  clear hW111
  have hE117 := EnvOk.pick hE112 (ks := [19, 20, 21]) (env' := [(19, .p 0 0), (20, .v (.slice A1 dst.length c1)), (21, .v (.slice A106 (0 + dst.length) c107))]) (by kernel_rfl)
  have hE115 := hE117.cast (env' := [(19, .p 0 0), (20, .v (.slice A1 dst.length c1)), (21, .v (.slice A106 dst.length c107))]) (by simp only [List.length_append, List.length_cons, List.length_nil, Nat.zero_add])
  clear hE112
  clear hE117
  have hk118 := (mvListOffsetsRequest _ (Fr.trans (Fr.trans hF105 hF110) hF116).step immM (Fr.trans (Fr.trans hF105 hF110) hF116).to' hk94)
  have hat119 := hW114.strImm (G := F) 0 rfl
  have hk_ := mvListOffsetsRequest _ (Step.refl _ Nil) nilM (fun b o h_ _ => imm_cut h_) hk118
  rw [← hv86] at hroom ⊢
  refine of_op (wpOp_call hE115 (f := 57) (vs := [.pointer (some ⟨b7, 0, none⟩), .slice A106 dst.length c107]) (d := 22) (by kernel_rfl) Tryz.call57 (kListOffsetsRequest (IntKind.i16.wrap v) D83 b7 0 A106 c107 dst _ _ hat119 hk_ (imm_blk 0 rfl) (hW114.own 0 _ rfl) (by omega)) ?_)
  rintro e_ w122 ⟨A123, c124, rfl, ho125, hs126, hn127⟩
  refine ⟨_, rfl, fun a128 hE129 => ?_⟩
  have hW120 : WOk _ _ _ _ [brow A123 c124 5 (dst ++ aListOffsetsRequest (IntKind.i16.wrap v) D83)] := hW114.grow (k := 0) rfl hs126 ho125 hn127
  have hF121 := Fr.grow [⟨b7, 0, [.int .i16 (IntKind.i16.wrap v), .int .i32 ((D83.f 0).n), .int .i8 ((D83.f 1).n), .slice ((D83.f 2).A) ((D83.f 2).l) ((D83.f 2).c), .int .i32 ((D83.f 3).n), .map D83.m], true⟩] (k := 0) (rs := [brow A106 c107 5 dst]) (r' := (brow A123 c124 5 (dst ++ aListOffsetsRequest (IntKind.i16.wrap v) D83))) rfl hs126 hn127
  clear hE115 hW114
  refine go_rn [4, 5] [] [(6, .v (.slice A123 ((dst ++ aListOffsetsRequest (IntKind.i16.wrap v) D83).length) c124)), (7, .v (.bool true))] hW120 hE129 fun a131 hE132 => ?_
  clear hE129
  refine wpOps_nil ?_
  refine then_normal ?_
  refine wp_ret ?_
  refine leave hE132 hW120.cells (v := .tuple #[.slice A123 ((dst ++ aListOffsetsRequest (IntKind.i16.wrap v) D83).length) c124, .bool true]) (by kernel_rfl) ?_
  exact ⟨A123, c124, rfl, own_fresh hW120 (k := 0) rfl rfl (hW120.own 0 _ rfl), hW120.step⟩

end Go.Proofs.YtnhgfbgdoelfoaaGreatDoor.ME

/- Printed by tools/mk.py. Own work. -/
namespace Go.Proofs.YtnhgfbgdoelfoaaGreatDoor.ME
open Go
open Go.RowKit
set_option linter.unusedVariables false
set_option linter.unusedSimpArgs false
set_option maxRecDepth 20000

theorem bhgListOffsetsRequest (v : Int) (T : Tree) (dst B : Bs) {A1 A2 : Option Addr} {c1 c2 : Nat} {w : World} {F : Nat → Nat → Prop} (hB : tListOffsetsRequest (IntKind.i16.wrap v) T = B) (hd : Octs w F A1 c1 dst) (hs_ : Octs w F A2 c2 B) (hc : canListOffsetsRequest T) (hkey : T.ranged) (hroom : dst.length + B.length + 16 ≤ 1099511627776) :
    Calls Tryz.prog 22 #[.int .i64 v, .slice A1 dst.length c1, .slice A2 B.length c2] w (fun e w' => ∃ A c, e = .returned (.tuple #[.slice A (dst ++ B).length c, .bool true]) ∧ w'.ownsRow w.heap.size 5 1 (.slice A (dst ++ B).length c) (dst ++ B).length (bc (dst ++ B)) ∧ Step w w' Nil) := by
  subst hB
  exact bhListOffsetsRequest v T dst hd hs_ hc hkey hroom

theorem xListOffsetsRequest (w : World) : Calls Tryz.prog 20 #[] w (Gives w (.int .i64 11)) := by
  refine enter (n := 4) Tryz.func20 rfl Tryz.ntmps20 (by kernel_rfl) fun a hE => ?_
  have hW := WOk.start w Nil
  refine go_sp [] hW hE fun a1 hE2 => ?_
  clear hE
  refine go_seq_region [0, 1, 2, 3] (by kernel_rfl) ?_
  refine of_op (wpOp_inline hE2 (f := 52) (vs := []) (d := 1) (n' := 3) (by kernel_rfl) Tryz.call52 Tryz.func52 rfl Tryz.ntmps52 (by kernel_rfl) fun a3 hE4 => ?_)
  refine go_sp [] hW hE4 fun a5 hE6 => ?_
  clear hE4
  refine go_seq_region [0] (by kernel_rfl) ?_
  refine of_op (wpOp_alloc hW hE6 (d := 1) (cs := [.int .i16 0, .int .i32 0, .int .i8 0, .slice none 0 0, .int .i32 0, .map none]) (by kernel_rfl) fun b7 a8 w9 hb10 hz11 hF12 hW13 hE14 => ?_)
  clear hE6 hW
  refine wpOps_nil ?_
  refine then_normal ?_
  refine go_seq_region [0] (by kernel_rfl) ?_
  refine of_op (wpOp_inline hE14 (f := 111) (vs := [.pointer (some ⟨b7, 0, none⟩)]) (d := 2) (n' := 8) (by kernel_rfl) Tryz.call111 Tryz.func111 rfl Tryz.ntmps111 (by kernel_rfl) fun a15 hE16 => ?_)
  have hE17 := hE16.recast 0 (.v (.pointer (some ⟨b7, 0, none⟩))) (.p 0 0) rfl rfl (Nat.le_of_ble_eq_true (n := 1) rfl)
  refine go_seq_region [0, 1, 2, 3] (by kernel_rfl) ?_
  refine go_rn [0, 1, 2] [3] [(0, .p 0 0), (4, .p 0 1)] hW13 hE17 fun a18 hE19 => ?_
  clear hE17
  refine of_op (wpOp_store hW13 hE19 (oi := 0) (cs := [.int .i16 0, .int .i32 (-1), .int .i8 0, .slice none 0 0, .int .i32 0, .map none]) (by kernel_rfl) fun w20 hF21 hW22 hE23 => ?_)
  clear hE19 hW13
  refine wpOps_nil ?_
  refine then_normal ?_
  refine go_region [0, 1, 2, 3] (by kernel_rfl) ?_
  refine go_rn [0, 1, 2] [3] [(7, .p 0 4)] hW22 hE23 fun a24 hE25 => ?_
  clear hE23
  refine of_op (wpOp_store hW22 hE25 (oi := 0) (cs := [.int .i16 0, .int .i32 (-1), .int .i8 0, .slice none 0 0, .int .i32 30000, .map none]) (by kernel_rfl) fun w26 hF27 hW28 hE29 => ?_)
  clear hE25 hW22
  refine wpOps_nil ?_
  refine leave_end hE29 hW28.cells (v := .tuple #[]) (by kernel_rfl) ?_
  refine ⟨_, rfl, fun a30 hE31 => ?_⟩
  have hE32 : EnvOk 3 [⟨b7, 0, [.int .i16 0, .int .i32 (-1), .int .i8 0, .slice none 0 0, .int .i32 30000, .map none], true⟩] [(2, .v (.tuple #[])), (1, .p 0 0)] _ := hE31.places (⟨rfl, rfl, trivial⟩)
  refine wpOps_nil ?_
  refine then_normal ?_
  refine go_sp [(0, .p 0 0)] hW28 hE32 fun a33 hE34 => ?_
  clear hE32
  refine wp_ret ?_
  refine leave hE34 hW28.cells (v := .pointer (some ⟨b7, 0, none⟩)) (by kernel_rfl) ?_
  refine ⟨_, rfl, fun a35 hE36 => ?_⟩
  have hE37 : EnvOk 4 [⟨b7, 0, [.int .i16 0, .int .i32 (-1), .int .i8 0, .slice none 0 0, .int .i32 30000, .map none], true⟩] [(1, .v (.pointer (some ⟨b7, 0, none⟩)))] _ := hE36.places (trivial)
  have hE38 := hE37.recast 1 (.v (.pointer (some ⟨b7, 0, none⟩))) (.p 0 0) rfl rfl (Nat.le_of_ble_eq_true (n := 1) rfl)
  have hE39 := hE38.pick (ks := [1]) (env' := [(1, .p 0 0)]) (by kernel_rfl)
  clear hE37
  clear hE38
  refine of_op (wpOp_inline hE39 (f := 53) (vs := [.pointer (some ⟨b7, 0, none⟩)]) (d := 2) (n' := 3) (by kernel_rfl) Tryz.call53 Tryz.func53 rfl Tryz.ntmps53 (by kernel_rfl) fun a40 hE41 => ?_)
  have hE42 := hE41.recast 0 (.v (.pointer (some ⟨b7, 0, none⟩))) (.p 0 0) rfl rfl (Nat.le_of_ble_eq_true (n := 1) rfl)
  refine go_sp [] hW28 hE42 fun a43 hE44 => ?_
  clear hE42
  refine go_sp [(2, .v (.int .i16 11))] hW28 hE44 fun a45 hE46 => ?_
  clear hE44
  refine wp_ret ?_
  refine leave hE46 hW28.cells (v := .int .i16 11) (by kernel_rfl) ?_
  refine ⟨_, rfl, fun a47 hE48 => ?_⟩
  have hE49 : EnvOk 4 [⟨b7, 0, [.int .i16 0, .int .i32 (-1), .int .i8 0, .slice none 0 0, .int .i32 30000, .map none], true⟩] [(2, .v (.int .i16 11)), (1, .p 0 0)] _ := hE48.places (⟨rfl, rfl, trivial⟩)
  refine go_rn [2, 3] [] [(0, .v (.int .i64 11))] hW28 hE49 fun a50 hE51 => ?_
  clear hE49
  refine wpOps_nil ?_
  refine then_normal ?_
  refine wp_ret ?_
  refine leave hE51 hW28.cells (v := .int .i64 11) (by kernel_rfl) ?_
  exact ⟨rfl, hW28.step⟩

theorem sListOffsetsRequest_depth : depths sListOffsetsRequestF ≤ 8 := by simp [sListOffsetsRequestF, Fld.depth.depths, Fld.depth]
theorem lawListOffsetsRequest (x : Int) (hx : 0 ≤ x) (hx' : x < 256) (dst : Bs) {A1 : Option Addr} {c1 : Nat} (ct : List Value) (t : Tree) (w : World) (F : Nat → Nat → Prop) (hd : Octs w F A1 c1 dst) (hdl : dst.length ≤ 1048576) (ht : TreeR w F ct t) (hroom1 : (writeB 8 sListOffsetsRequestF sListOffsetsRequestX (Int.tmod x (11 + 1)) t).length ≤ 1099511627776) (hroom : dst.length + (writeB 8 sListOffsetsRequestF sListOffsetsRequestX (Int.tmod x (11 + 1)) t).length + 16 ≤ 1099511627776) (hcan : canListOffsetsRequest (fitT (Int.tmod x (11 + 1)) 8 sListOffsetsRequestF t)) (hkey : Tree.ranged (fitT (Int.tmod x (11 + 1)) 8 sListOffsetsRequestF t)) (hpure : tListOffsetsRequest (IntKind.i16.wrap (Int.tmod x (11 + 1))) (fitT (Int.tmod x (11 + 1)) 8 sListOffsetsRequestF t) = writeB 8 sListOffsetsRequestF sListOffsetsRequestX (Int.tmod x (11 + 1)) t) :
    Calls Tryz.prog 5 #[.int .u8 x, .slice A1 dst.length c1, .agg ct.toArray] w (Gives w (.bool true)) := by
  obtain ⟨n1, s2, b3, l4, u5, A6, c7, A8, c9, A10, c11, xs12, rfl, rfl, h14, h15, h16, h17⟩ := ht.open_
  have hsm19 := h14.small
  have hsm20 := h15.small
  refine enter (n := 52) Tryz.func5 rfl Tryz.ntmps5 (by kernel_rfl) fun a hE => ?_
  have hW := WOk.start w Nil
  have hsm1 := Slots.small hd
  refine go_seq_region [0, 1] (by kernel_rfl) ?_
  refine of_op (wpOp_box hW hE (d := 5) (cs := [.int .i64 n1, .slice A6 s2.length c7, .bool b3, .slice A8 l4.length c9, .slice A10 u5.length c11]) (by kernel_rfl) fun b21 a22 w23 hb24 hz25 hF26 hW27 hE28 => ?_)
  clear hE hW
  refine go_rn [1] [] [(0, .v (.int .u8 x)), (1, .v (.slice A1 dst.length c1)), (5, .p 0 0)] hW27 hE28 fun a29 hE30 => ?_
  clear hE28
  refine wpOps_nil ?_
  refine then_normal ?_
  refine wp_seq ?_
  refine go_seq_region [0, 1, 2, 3, 4, 5, 6, 7] (by kernel_rfl) ?_
  refine go_rn [0, 1, 2, 3] [4, 5, 6, 7] [(0, .v (.int .u8 x)), (1, .v (.slice A1 dst.length c1)), (5, .p 0 0), (16, .v (.bool (decide (((dst.length : Nat) : Int) > 2147483647))))] hW27 hE30 fun a31 hE32 => ?_
  clear hE30
  have hc33 : (decide (((dst.length : Nat) : Int) > 2147483647)) = false := decide_eq_false (by omega)
  have hE34 := hE32.cast (env' := [(0, .v (.int .u8 x)), (1, .v (.slice A1 dst.length c1)), (5, .p 0 0), (16, .v (.bool false))]) (by rw [hc33])
  clear hE32
  refine go_rn [4] [5, 6, 7] [(0, .v (.int .u8 x)), (1, .v (.slice A1 dst.length c1)), (5, .p 0 0), (16, .v (.bool false)), (17, .v (.agg #[.int .i64 n1, .slice A6 s2.length c7, .bool b3, .slice A8 l4.length c9, .slice A10 u5.length c11]))] hW27 hE34 fun a35 hE36 => ?_
  clear hE34
  refine of_op (wpOp_call hE36 (f := 10) (vs := [.agg #[.int .i64 n1, .slice A6 s2.length c7, .bool b3, .slice A8 l4.length c9, .slice A10 u5.length c11]]) (d := 18) (by kernel_rfl) Tryz.call10 (lFits1 _ _ _ _ (ht.move hW27.step nilM hW27.imm)) ?_)
  rintro e_ w39 ⟨b38, rfl, hs37⟩
  refine ⟨_, rfl, fun a40 hE41 => ?_⟩
  have hW42 := hW27.next_nil hs37
  have hF43 := hW27.frN hs37
  clear hE36 hW27
  refine go_rn [6, 7] [] [(0, .v (.int .u8 x)), (1, .v (.slice A1 dst.length c1)), (5, .p 0 0), (20, .v (.bool (!b38)))] hW42 hE41 fun a44 hE45 => ?_
  clear hE41
  refine wpOps_nil ?_
  refine then_normal ?_
  refine cond_of hE45 (b := !b38) (by kernel_rfl) (fun hc46 => ?_) (fun hc46 => ?_)
  ·
    refine go_sp [(6, .v (.bool true))] hW42 hE45 fun a48 hE49 => ?_
    clear hE45
    refine wp_ret ?_
    refine then_ret ?_
    refine leave hE49 hW42.cells (v := .bool true) (by kernel_rfl) ?_
    exact ⟨rfl, hW42.step⟩
  ·
    refine wp_skip ?_
    refine then_normal ?_
    refine go_seq_region [0, 1] (by kernel_rfl) ?_
    refine of_op (wpOp_call hE45 (f := 20) (vs := []) (d := 21) (by kernel_rfl) Tryz.call20 (xListOffsetsRequest _) ?_)
    rintro e_ w52 ⟨rfl, hs51⟩
    refine ⟨_, rfl, fun a53 hE54 => ?_⟩
    have hW55 := hW42.next_nil hs51
    have hF56 := hW42.frN hs51
    clear hE45 hW42
    refine go_rn [1] [] [(0, .v (.int .u8 x)), (1, .v (.slice A1 dst.length c1)), (5, .p 0 0), (7, .v (.int .i64 11))] hW55 hE54 fun a57 hE58 => ?_
    clear hE54
    refine wpOps_nil ?_
    refine then_normal ?_
    refine wp_seq ?_
    refine go_sp [(0, .v (.int .u8 x)), (1, .v (.slice A1 dst.length c1)), (5, .p 0 0), (7, .v (.int .i64 11)), (23, .v (.bool false))] hW55 hE58 fun a59 hE60 => ?_
    clear hE58
    refine cond_false hE60 (b := false) (by kernel_rfl) rfl ?_
    refine wp_skip ?_
    refine then_normal ?_
    refine go_seq_region [0, 1, 2, 3, 4, 5, 6] (by kernel_rfl) ?_
    refine of_op (wpOp_call hE60 (f := 21) (vs := []) (d := 24) (by kernel_rfl) Tryz.call21 (sListOffsetsRequest _ (Imm F w w52 [⟨b21, 0, [.int .i64 n1, .slice A6 s2.length c7, .bool b3, .slice A8 l4.length c9, .slice A10 u5.length c11], true⟩] [])) ?_)
    rintro e_ w65 ⟨A63, c64, rfl, hr62, hs61⟩
    obtain ⟨xs66, h67, h68⟩ := hr62.move (Step.refl _ Nil) nilM (hW55.laid (G := F) hs61)
    refine ⟨_, rfl, fun a69 hE70 => ?_⟩
    have hW71 := hW55.next_nil hs61
    have hF72 := hW55.frN hs61
    clear hE60
    refine go_rn [1, 2] [3, 4, 5, 6] [(1, .v (.slice A1 dst.length c1)), (5, .p 0 0), (24, .v (.agg #[.slice A63 sListOffsetsRequestF.length c64, .int .i64 sListOffsetsRequestX])), (25, .v (.int .u8 x)), (26, .v (.int .i64 11))] hW71 hE70 fun a73 hE74 => ?_
    clear hE70
    refine of_op (wpOp_call hE74 (f := 13) (vs := [.int .u8 x, .int .i64 11]) (d := 27) (by kernel_rfl) Tryz.call13 (lVersion x 11 hx hx' (by decide) (by decide) _) ?_)
    rintro e_ w76 ⟨rfl, hs75⟩
    refine ⟨_, rfl, fun a77 hE78 => ?_⟩
    have hW79 := hW71.next_nil hs75
    have hF80 := hW71.frN hs75
    clear hE74 hW71
    refine of_op (wpOp_alloc hW79 hE78 (d := 8) (cs := [.slice none 0 0, .int .i64 0]) (by kernel_rfl) fun b81 a82 w83 hb84 hz85 hF86 hW87 hE88 => ?_)
    clear hE78 hW79
    refine of_op (wpOp_store hW87 hE88 (oi := 1) (cs := [.slice A63 sListOffsetsRequestF.length c64, .int .i64 sListOffsetsRequestX]) (by kernel_rfl) fun w89 hF90 hW91 hE92 => ?_)
    clear hE88 hW87
    refine go_rn [6] [] [(1, .v (.slice A1 dst.length c1)), (5, .p 0 0), (8, .p 1 0), (9, .v (.int .i64 (Int.tmod x (11 + 1))))] hW91 hE92 fun a93 hE94 => ?_
    clear hE92
    refine wpOps_nil ?_
    refine then_normal ?_
    refine wp_seq ?_
    refine go_sp [(1, .v (.slice A1 dst.length c1)), (5, .p 0 0), (8, .p 1 0), (9, .v (.int .i64 (Int.tmod x (11 + 1)))), (30, .v (.bool (decide (((dst.length : Nat) : Int) > 1000))))] hW91 hE94 fun a95 hE96 => ?_
    clear hE94
    refine cond_of hE96 (b := decide (((dst.length : Nat) : Int) > 1000)) (by kernel_rfl) (fun hc97 => ?_) (fun hc97 => ?_)
    ·
      have hf98 := of_decide_eq_true hc97
      refine go_sp [(6, .v (.bool true))] hW91 hE96 fun a99 hE100 => ?_
      clear hE96
      refine wp_ret ?_
      refine then_ret ?_
      refine leave hE100 hW91.cells (v := .bool true) (by kernel_rfl) ?_
      exact ⟨rfl, hW91.step⟩
    ·
      have hf101 := of_decide_eq_false hc97
      refine wp_skip ?_
      refine then_normal ?_
      refine go_seq_region [0, 1, 2, 3, 4] (by kernel_rfl) ?_
      refine go_rn [0, 1, 2] [3, 4] [(1, .v (.slice A1 dst.length c1)), (9, .v (.int .i64 (Int.tmod x (11 + 1)))), (31, .v (.agg #[.slice A63 sListOffsetsRequestF.length c64, .int .i64 sListOffsetsRequestX])), (32, .v (.int .i64 (Int.tmod x (11 + 1)))), (33, .v (.agg #[.int .i64 n1, .slice A6 s2.length c7, .bool b3, .slice A8 l4.length c9, .slice A10 u5.length c11]))] hW91 hE96 fun a102 hE103 => ?_
      clear hE96
      refine of_op (wpOp_call hE103 (f := 14) (vs := [.agg #[.slice A63 sListOffsetsRequestF.length c64, .int .i64 sListOffsetsRequestX], .int .i64 (Int.tmod x (11 + 1)), .agg #[.int .i64 n1, .slice A6 s2.length c7, .bool b3, .slice A8 l4.length c9, .slice A10 u5.length c11]]) (d := 34) (by kernel_rfl) Tryz.call14 (sWrite _ _ sListOffsetsRequestF sListOffsetsRequestX (Int.tmod x (11 + 1)) _ (Tree.mk n1 s2 b3 l4 u5) _ _ ⟨xs66, (h67.move (Fr.trans (Fr.trans hF80 hF86) hF90).step immM (Fr.trans (Fr.trans hF80 hF86) hF90).to'), (fun i_ x_ h_ => ((h68 i_ x_ h_).move (Fr.trans (Fr.trans hF80 hF86) hF90).step immM (Fr.trans (Fr.trans hF80 hF86) hF90).to'))⟩ sListOffsetsRequest_depth (ht.move hW91.step nilM hW91.imm) hroom1) ?_)
      rintro e_ w108 ⟨A106, c107, rfl, ho105, hs104⟩
      refine ⟨_, rfl, fun a109 hE110 => ?_⟩
      obtain ⟨hW111, hF112⟩ := hW91.frFresh hs104 (brow A106 c107 5 (writeB 8 sListOffsetsRequestF sListOffsetsRequestX (Int.tmod x (11 + 1)) (Tree.mk n1 s2 b3 l4 u5))) (Nat.le_refl _) ho105
      clear hE103 hW91
      refine go_rn [4] [] [(1, .v (.slice A1 dst.length c1)), (9, .v (.int .i64 (Int.tmod x (11 + 1)))), (10, .v (.slice A106 ((writeB 8 sListOffsetsRequestF sListOffsetsRequestX (Int.tmod x (11 + 1)) (Tree.mk n1 s2 b3 l4 u5)).length) c107))] hW111 hE110 fun a113 hE114 => ?_
      clear hE110
      refine wpOps_nil ?_
      refine then_normal ?_
      refine go_seq_region [0, 1, 2, 3, 4, 5, 6, 7, 8] (by kernel_rfl) ?_
      refine go_rn [0, 1, 2] [3, 4, 5, 6, 7, 8] [(1, .v (.slice A1 dst.length c1)), (10, .v (.slice A106 ((writeB 8 sListOffsetsRequestF sListOffsetsRequestX (Int.tmod x (11 + 1)) (Tree.mk n1 s2 b3 l4 u5)).length) c107)), (36, .v (.int .i64 (Int.tmod x (11 + 1)))), (37, .v (.slice A1 dst.length c1)), (38, .v (.slice A106 ((writeB 8 sListOffsetsRequestF sListOffsetsRequestX (Int.tmod x (11 + 1)) (Tree.mk n1 s2 b3 l4 u5)).length) c107))] hW111 hE114 fun a115 hE116 => ?_
      clear hE114
      refine of_op (wpOp_call hE116 (f := 22) (vs := [.int .i64 (Int.tmod x (11 + 1)), .slice A1 dst.length c1, .slice A106 ((writeB 8 sListOffsetsRequestF sListOffsetsRequestX (Int.tmod x (11 + 1)) (Tree.mk n1 s2 b3 l4 u5)).length) c107]) (d := 39) (by kernel_rfl) Tryz.call22 (bhgListOffsetsRequest (Int.tmod x (11 + 1)) _ dst (writeB 8 sListOffsetsRequestF sListOffsetsRequestX (Int.tmod x (11 + 1)) (Tree.mk n1 s2 b3 l4 u5)) hpure ((hd.move hW111.step nilM hW111.imm).move (Step.refl _ Nil) nilM allF) (octs_own (hW111.own 0 _ rfl) (by first | omega | (simp only [be_length]; exact Nat.le_trans (widthI_le _) (by decide)) | (have := hroom; omega) | (have := hmade; omega) | (simp only [List.length_append, List.length_nil]; omega)) (F := fun _ _ => True) (fun _ _ _ => trivial)) hcan hkey (by first | omega | (have := hroom1; omega))) ?_)
      rintro e_ w117 ⟨A118, c119, rfl, ho120, hs121⟩
      refine ⟨_, rfl, fun a122 hE123 => ?_⟩
      obtain ⟨hW124, hF125⟩ := hW111.frFresh hs121 (brow A118 c119 5 (dst ++ (writeB 8 sListOffsetsRequestF sListOffsetsRequestX (Int.tmod x (11 + 1)) (Tree.mk n1 s2 b3 l4 u5)))) (Nat.le_refl _) ho120
      clear hE116 hW111
      refine go_rn [4, 5, 6, 7, 8] [] [(1, .v (.slice A1 dst.length c1)), (10, .v (.slice A106 ((writeB 8 sListOffsetsRequestF sListOffsetsRequestX (Int.tmod x (11 + 1)) (Tree.mk n1 s2 b3 l4 u5)).length) c107)), (11, .v (.slice A118 ((dst ++ (writeB 8 sListOffsetsRequestF sListOffsetsRequestX (Int.tmod x (11 + 1)) (Tree.mk n1 s2 b3 l4 u5))).length) c119)), (12, .v (.bool true))] hW124 hE123 fun a126 hE127 => ?_
      clear hE123
      refine wpOps_nil ?_
      refine then_normal ?_
      refine go_seq_region [0, 1, 2, 3, 4, 5, 6, 7, 8, 9, 10] (by kernel_rfl) ?_
      refine go_rn [0, 1, 2] [3, 4, 5, 6, 7, 8, 9, 10] [(1, .v (.slice A1 dst.length c1)), (10, .v (.slice A106 ((writeB 8 sListOffsetsRequestF sListOffsetsRequestX (Int.tmod x (11 + 1)) (Tree.mk n1 s2 b3 l4 u5)).length) c107)), (43, .v (.bool true)), (44, .v (.slice A118 ((dst ++ (writeB 8 sListOffsetsRequestF sListOffsetsRequestX (Int.tmod x (11 + 1)) (Tree.mk n1 s2 b3 l4 u5))).length) c119))] hW124 hE127 fun a128 hE129 => ?_
      clear hE127
      refine of_op (wpOp_lit hW124 hE129 (e := 5) (size := 1) (len := 0) (cs := []) (d := 45) (by kernel_rfl) (by kernel_rfl) fun b130 a131 w132 hb133 hz134 hF135 hW136 hE137 => ?_)
      clear hE129 hW124
      have er138 : (⟨some ⟨b130, 0, none⟩, 0, 5, 1, 0, []⟩ : Rw) = brow (some ⟨b130, 0, none⟩) 0 5 ([] : Bs) := by first | rfl | (simp only [brow, bc, List.map, by8_wrap]; try rfl)
      obtain ⟨hW139, hF141⟩ := hW136.rowEq 2 [brow A106 c107 5 (writeB 8 sListOffsetsRequestF sListOffsetsRequestX (Int.tmod x (11 + 1)) (Tree.mk n1 s2 b3 l4 u5)), brow A118 c119 5 (dst ++ (writeB 8 sListOffsetsRequestF sListOffsetsRequestX (Int.tmod x (11 + 1)) (Tree.mk n1 s2 b3 l4 u5))), brow (some ⟨b130, 0, none⟩) 0 5 ([] : Bs)] er138
      clear hW136
      have hE143 := EnvOk.pick hE137 (ks := [1, 10, 43, 44, 45]) (env' := [(1, .v (.slice A1 dst.length c1)), (10, .v (.slice A106 ((writeB 8 sListOffsetsRequestF sListOffsetsRequestX (Int.tmod x (11 + 1)) (Tree.mk n1 s2 b3 l4 u5)).length) c107)), (43, .v (.bool true)), (44, .v (.slice A118 ((dst ++ (writeB 8 sListOffsetsRequestF sListOffsetsRequestX (Int.tmod x (11 + 1)) (Tree.mk n1 s2 b3 l4 u5))).length) c119)), (45, .v (.slice (some ⟨b130, 0, none⟩) 0 0))]) (by kernel_rfl)
      have hE142 := hE143.cast (env' := [(1, .v (.slice A1 dst.length c1)), (10, .v (.slice A106 ((writeB 8 sListOffsetsRequestF sListOffsetsRequestX (Int.tmod x (11 + 1)) (Tree.mk n1 s2 b3 l4 u5)).length) c107)), (43, .v (.bool true)), (44, .v (.slice A118 ((dst ++ (writeB 8 sListOffsetsRequestF sListOffsetsRequestX (Int.tmod x (11 + 1)) (Tree.mk n1 s2 b3 l4 u5))).length) c119)), (45, .v (.slice (some ⟨b130, 0, none⟩) (([] : Bs).length) 0))]) rfl
      clear hE137 hE143
      refine go_rn [4] [5, 6, 7, 8, 9, 10] [(10, .v (.slice A106 ((writeB 8 sListOffsetsRequestF sListOffsetsRequestX (Int.tmod x (11 + 1)) (Tree.mk n1 s2 b3 l4 u5)).length) c107)), (43, .v (.bool true)), (44, .v (.slice A118 ((dst ++ (writeB 8 sListOffsetsRequestF sListOffsetsRequestX (Int.tmod x (11 + 1)) (Tree.mk n1 s2 b3 l4 u5))).length) c119)), (45, .v (.slice (some ⟨b130, 0, none⟩) (([] : Bs).length) 0)), (46, .v (.slice A1 dst.length c1))] hW139 hE142 fun a144 hE145 => ?_
      clear hE142
      refine of_op (wpOp_append hW139 hE145 (k := 2) (d := 47) (t := 22) (e := 5) (size := 1) (bytes := 1) (A := some ⟨b130, 0, none⟩) (As := A1) (m0 := (([] : Bs).length)) (c := 0) (m := dst.length) (cs := c1) (xs := (bc ([] : Bs))) (news := bc dst) (by kernel_rfl) (by kernel_rfl) rfl (hd.move hW139.step nilM hW139.imm).src (hd.move hW139.step nilM hW139.imm).cap (by first | omega | (simp only [List.length_nil, List.length_append]; omega) | (simp; omega)) fun A146 c147 a148 w149 hF150 hW151 hE152 => ?_)
      clear hE145 hW139
      have er153 : (⟨A146, c147, 5, 1, ([] : Bs).length + dst.length, bc ([] : Bs) ++ bc dst⟩ : Rw) = brow A146 c147 5 (([] : Bs) ++ dst) := brow_eq (rfl) rfl
      obtain ⟨hW154, hF156⟩ := hW151.rowEq 2 [brow A106 c107 5 (writeB 8 sListOffsetsRequestF sListOffsetsRequestX (Int.tmod x (11 + 1)) (Tree.mk n1 s2 b3 l4 u5)), brow A118 c119 5 (dst ++ (writeB 8 sListOffsetsRequestF sListOffsetsRequestX (Int.tmod x (11 + 1)) (Tree.mk n1 s2 b3 l4 u5))), brow A146 c147 5 (([] : Bs) ++ dst)] er153
      clear hW151
      have hE157 := EnvOk.pick hE152 (ks := [10, 43, 44, 45, 46, 47]) (env' := [(10, .v (.slice A106 ((writeB 8 sListOffsetsRequestF sListOffsetsRequestX (Int.tmod x (11 + 1)) (Tree.mk n1 s2 b3 l4 u5)).length) c107)), (43, .v (.bool true)), (44, .v (.slice A118 ((dst ++ (writeB 8 sListOffsetsRequestF sListOffsetsRequestX (Int.tmod x (11 + 1)) (Tree.mk n1 s2 b3 l4 u5))).length) c119)), (45, .v (.slice (some ⟨b130, 0, none⟩) (([] : Bs).length) 0)), (46, .v (.slice A1 dst.length c1)), (47, .v (.slice A146 (([] : Bs).length + dst.length) c147))]) (by kernel_rfl)
      have hE155 := hE157.cast (env' := [(10, .v (.slice A106 ((writeB 8 sListOffsetsRequestF sListOffsetsRequestX (Int.tmod x (11 + 1)) (Tree.mk n1 s2 b3 l4 u5)).length) c107)), (43, .v (.bool true)), (44, .v (.slice A118 ((dst ++ (writeB 8 sListOffsetsRequestF sListOffsetsRequestX (Int.tmod x (11 + 1)) (Tree.mk n1 s2 b3 l4 u5))).length) c119)), (45, .v (.slice (some ⟨b130, 0, none⟩) (([] : Bs).length) 0)), (46, .v (.slice A1 dst.length c1)), (47, .v (.slice A146 ((([] : Bs) ++ dst).length) c147))]) (by simp only [List.length_append, List.length_cons, List.length_nil, Nat.zero_add])
      clear hE152
      clear hE157
      refine go_rn [6] [7, 8, 9, 10] [(43, .v (.bool true)), (44, .v (.slice A118 ((dst ++ (writeB 8 sListOffsetsRequestF sListOffsetsRequestX (Int.tmod x (11 + 1)) (Tree.mk n1 s2 b3 l4 u5))).length) c119)), (47, .v (.slice A146 ((([] : Bs) ++ dst).length) c147)), (48, .v (.slice A106 ((writeB 8 sListOffsetsRequestF sListOffsetsRequestX (Int.tmod x (11 + 1)) (Tree.mk n1 s2 b3 l4 u5)).length) c107))] hW154 hE155 fun a158 hE159 => ?_
      clear hE155
      refine of_op (wpOp_append hW154 hE159 (k := 2) (d := 49) (t := 22) (e := 5) (size := 1) (bytes := 1) (A := A146) (As := A106) (m0 := ((([] : Bs) ++ dst).length)) (c := c147) (m := ((writeB 8 sListOffsetsRequestF sListOffsetsRequestX (Int.tmod x (11 + 1)) (Tree.mk n1 s2 b3 l4 u5)).length)) (cs := c107) (xs := (bc (([] : Bs) ++ dst))) (news := bc (writeB 8 sListOffsetsRequestF sListOffsetsRequestX (Int.tmod x (11 + 1)) (Tree.mk n1 s2 b3 l4 u5))) (by kernel_rfl) (by kernel_rfl) rfl (own_src (hW154.own 0 _ rfl) (bc_one _)) (own_cap (hW154.own 0 _ rfl)) (by first | omega | (simp only [List.length_nil, List.length_append]; omega) | (simp; omega)) fun A160 c161 a162 w163 hF164 hW165 hE166 => ?_)
      clear hE159 hW154
      have er167 : (⟨A160, c161, 5, 1, (([] : Bs) ++ dst).length + (writeB 8 sListOffsetsRequestF sListOffsetsRequestX (Int.tmod x (11 + 1)) (Tree.mk n1 s2 b3 l4 u5)).length, bc (([] : Bs) ++ dst) ++ bc (writeB 8 sListOffsetsRequestF sListOffsetsRequestX (Int.tmod x (11 + 1)) (Tree.mk n1 s2 b3 l4 u5))⟩ : Rw) = brow A160 c161 5 (([] : Bs) ++ dst ++ (writeB 8 sListOffsetsRequestF sListOffsetsRequestX (Int.tmod x (11 + 1)) (Tree.mk n1 s2 b3 l4 u5))) := brow_eq (rfl) rfl
      obtain ⟨hW168, hF170⟩ := hW165.rowEq 2 [brow A106 c107 5 (writeB 8 sListOffsetsRequestF sListOffsetsRequestX (Int.tmod x (11 + 1)) (Tree.mk n1 s2 b3 l4 u5)), brow A118 c119 5 (dst ++ (writeB 8 sListOffsetsRequestF sListOffsetsRequestX (Int.tmod x (11 + 1)) (Tree.mk n1 s2 b3 l4 u5))), brow A160 c161 5 (([] : Bs) ++ dst ++ (writeB 8 sListOffsetsRequestF sListOffsetsRequestX (Int.tmod x (11 + 1)) (Tree.mk n1 s2 b3 l4 u5)))] er167
      clear hW165
      have hE171 := EnvOk.pick hE166 (ks := [43, 44, 47, 48, 49]) (env' := [(43, .v (.bool true)), (44, .v (.slice A118 ((dst ++ (writeB 8 sListOffsetsRequestF sListOffsetsRequestX (Int.tmod x (11 + 1)) (Tree.mk n1 s2 b3 l4 u5))).length) c119)), (47, .v (.slice A146 ((([] : Bs) ++ dst).length) c147)), (48, .v (.slice A106 ((writeB 8 sListOffsetsRequestF sListOffsetsRequestX (Int.tmod x (11 + 1)) (Tree.mk n1 s2 b3 l4 u5)).length) c107)), (49, .v (.slice A160 ((([] : Bs) ++ dst).length + (writeB 8 sListOffsetsRequestF sListOffsetsRequestX (Int.tmod x (11 + 1)) (Tree.mk n1 s2 b3 l4 u5)).length) c161))]) (by kernel_rfl)
      have hE169 := hE171.cast (env' := [(43, .v (.bool true)), (44, .v (.slice A118 ((dst ++ (writeB 8 sListOffsetsRequestF sListOffsetsRequestX (Int.tmod x (11 + 1)) (Tree.mk n1 s2 b3 l4 u5))).length) c119)), (47, .v (.slice A146 ((([] : Bs) ++ dst).length) c147)), (48, .v (.slice A106 ((writeB 8 sListOffsetsRequestF sListOffsetsRequestX (Int.tmod x (11 + 1)) (Tree.mk n1 s2 b3 l4 u5)).length) c107)), (49, .v (.slice A160 ((([] : Bs) ++ dst ++ (writeB 8 sListOffsetsRequestF sListOffsetsRequestX (Int.tmod x (11 + 1)) (Tree.mk n1 s2 b3 l4 u5))).length) c161))]) (by simp only [List.length_append, List.length_cons, List.length_nil, Nat.zero_add])
      clear hE166
      clear hE171
      refine of_op (wpOp_call hE169 (f := 16) (vs := [.slice A118 ((dst ++ (writeB 8 sListOffsetsRequestF sListOffsetsRequestX (Int.tmod x (11 + 1)) (Tree.mk n1 s2 b3 l4 u5))).length) c119, .slice A160 ((([] : Bs) ++ dst ++ (writeB 8 sListOffsetsRequestF sListOffsetsRequestX (Int.tmod x (11 + 1)) (Tree.mk n1 s2 b3 l4 u5))).length) c161]) (d := 50) (by kernel_rfl) Tryz.call16 (sSame _ _ _ _ (dst ++ (writeB 8 sListOffsetsRequestF sListOffsetsRequestX (Int.tmod x (11 + 1)) (Tree.mk n1 s2 b3 l4 u5))) (([] : Bs) ++ dst ++ (writeB 8 sListOffsetsRequestF sListOffsetsRequestX (Int.tmod x (11 + 1)) (Tree.mk n1 s2 b3 l4 u5))) _ _ (octs_own (hW168.own 1 _ rfl) (by first | omega | (simp only [be_length]; exact Nat.le_trans (widthI_le _) (by decide)) | (have := hroom; omega) | (have := hmade; omega) | (simp only [List.length_append, List.length_nil]; omega)) (F := fun _ _ => True) (fun _ _ _ => trivial)) (octs_own (hW168.own 2 _ rfl) (by first | omega | (simp only [be_length]; exact Nat.le_trans (widthI_le _) (by decide)) | (have := hroom; omega) | (have := hmade; omega) | (simp only [List.length_append, List.length_nil]; omega)) (F := fun _ _ => True) (fun _ _ _ => trivial))) ?_)
      rintro e_ w173 ⟨rfl, hs172⟩
      refine ⟨_, rfl, fun a174 hE175 => ?_⟩
      have hW176 := hW168.next_nil hs172
      have hF177 := hW168.frN hs172
      clear hE169 hW168
      refine go_rn [9, 10] [] [(6, .v (.bool (decide (dst ++ (writeB 8 sListOffsetsRequestF sListOffsetsRequestX (Int.tmod x (11 + 1)) (Tree.mk n1 s2 b3 l4 u5)) = ([] : Bs) ++ dst ++ (writeB 8 sListOffsetsRequestF sListOffsetsRequestX (Int.tmod x (11 + 1)) (Tree.mk n1 s2 b3 l4 u5))))))] hW176 hE175 fun a178 hE179 => ?_
      clear hE175
      refine wpOps_nil ?_
      refine then_normal ?_
      refine wp_ret ?_
      refine leave hE179 hW176.cells (v := .bool (decide (dst ++ (writeB 8 sListOffsetsRequestF sListOffsetsRequestX (Int.tmod x (11 + 1)) (Tree.mk n1 s2 b3 l4 u5)) = ([] : Bs) ++ dst ++ (writeB 8 sListOffsetsRequestF sListOffsetsRequestX (Int.tmod x (11 + 1)) (Tree.mk n1 s2 b3 l4 u5))))) (by kernel_rfl) ?_
      exact ⟨by simp, hW176.step⟩

theorem closeListOffsetsRequest (x : Int) (hx : 0 ≤ x ∧ x ≤ 255) (dst : Bs) {A1 : Option Addr} {c1 : Nat} (ct : List Value) (t : Tree) (w : World) (F : Nat → Nat → Prop) (hd : Octs w F A1 c1 dst) (hdl : dst.length ≤ 1048576) (ht : TreeR w F ct t) (hsz : t.size ≤ 8388608) : Calls Tryz.prog 5 #[.int .u8 x, .slice A1 dst.length c1, .agg ct.toArray] w (Gives w (.bool true)) := by
  obtain ⟨g0, g1⟩ := ver_ok (m := 11 + 1) hx.1 hx.2 (by decide) (by decide)
  have hp : tListOffsetsRequest (IntKind.i16.wrap (Int.tmod x (11 + 1))) (fitT (Int.tmod x (11 + 1)) 8 sListOffsetsRequestF t) = writeB 8 sListOffsetsRequestF sListOffsetsRequestX (Int.tmod x (11 + 1)) t := by rw [i16_small g0 g1]; exact pureListOffsetsRequest (Int.tmod x (11 + 1)) g0 g1 t
  have h1 := writeB_le 8 sListOffsetsRequestF sListOffsetsRequestX (Int.tmod x (11 + 1)) t
  have h2 : costL sListOffsetsRequestF ≤ 131000 := by decide +kernel
  have h3 := Nat.mul_le_mul h2 hsz
  exact lawListOffsetsRequest x hx.1 (by omega) dst ct t w F hd hdl ht (by omega) (by omega) (canfitListOffsetsRequest (Int.tmod x (11 + 1)) t) (ranged_fit _ _ _ _ ht.ranged) hp

end Go.Proofs.YtnhgfbgdoelfoaaGreatDoor.ME

/- FnBehindListOffsetsRequest: the statement: of every version, every slice of octets and every tree of the bulk that the statement speaks of the law returns true, and leaves its arguments as they are; and the card. Own work. -/
namespace Go.Proofs.YtnhgfbgdoelfoaaGreatDoor.ME
open Go
open Go.ChangeShapes Go.WideShapes Go.ChangeAt Go.RowKit
set_option linter.unusedVariables false
set_option linter.unusedSimpArgs false

theorem ownKnob_ : ownKnob Tryz.prog.godebug = none := by kernel_rfl
theorem laidOut_ : laidOutB Tryz.prog = true := by kernel_rfl
theorem treeTys : TreeTys Tryz.prog 26 23 24 83 22 2 4 81 5 := ⟨by kernel_rfl, by kernel_rfl, by kernel_rfl, by kernel_rfl, by kernel_rfl, by kernel_rfl, by kernel_rfl, by kernel_rfl, by kernel_rfl, by kernel_rfl⟩
theorem open_first {H : Type} {enc : TypeId × Value → H} {P : Program} {W : World} {base b' : Nat} {sp : Nat → Bool} {hd : Bool} {t0 t1 t2 : TypeId} {v0 v1 v2 : Value} {d0 : DataW H} {p0 : List MemPlace} (hu : P.underlying t0 = some (.int .u8))
    (hval : ∀ (j : Nat) (t : TypeId) (v : Value), #[t0, t1, t2][j]? = some t → #[v0, v1, v2][j]? = some v → Value.okWide P W .any base t v) (h : DataW.Trod enc P W b' sp hd t0 v0 d0 p0) : ∃ x, v0 = .int .u8 x ∧ d0 = .lit (.int .u8 x) ∧ p0 = [] ∧ (Lit.int .u8 x).wf = true :=
  open_int hu (hval 0 t0 v0 rfl rfl) h
theorem agg_of {v : Value} {cs : List Value} (h : v.cells.toList = cs) (h5 : cs.length = 5) : v = .agg cs.toArray := by
  subst h
  cases v <;> first | (simp [Value.cells] at h5; done) | simp [Value.cells]
theorem slice_of {A : Option Addr} {n c : Nat} {a : Option Addr} {l k : Nat} (h : (Value.slice a l k).cells.toList = [.slice A n c]) : Value.slice a l k = .slice A n c := by
  simpa [Value.cells] using h

set_option maxRecDepth 100000 in
theorem contract_ (H : Type) (enc : TypeId × Value → H) (W : World) (base : Nat) (args : Array Value) (ds gs : List (DataW H)) (before : List MemPlace)
    (hval : ∀ (j : Nat) t v, Tryz.f5.params[j]? = some t → args[j]? = some v → Value.okWide Tryz.prog W .any base t v)
    (hW : DataW.Whole enc Tryz.prog Tryz.f5.params.toList Rows.fnBehindListOffsetsRequestSpec.vars false W args.toList ds gs before) (hk : Rows.uptoSmall H (ds ++ gs) = true) :
    Calls Tryz.prog 5 args W fun e W' => ∃ v, e = .returned v ∧ Rows.fnBehindListOffsetsRequestSpec.post enc Tryz.prog Tryz.f5 false true false false W args v W' := by
  have hW' := hW
  obtain ⟨p, q, hA0, hV, rfl, hfz, hnd⟩ := hW
  have hA : DataW.TrodAll enc Tryz.prog W 0 (fun _ => true) true Tryz.f5.params.toList args.toList ds p := hA0
  rw [Tryz.params5] at hA hval
  obtain ⟨v0, v1, v2, d0, d1, d2, p0, p1, p2, rfl, rfl, rfl, h0, h1, h2⟩ := trodAll_three hA
  obtain ⟨rfl, rfl⟩ := trodVars_none hV
  obtain ⟨x, rfl, rfl, rfl, w0⟩ := open_first Tryz.underlying5 @hval h0
  have hx : 0 ≤ x ∧ x ≤ 255 := by simpa [Lit.wf, IntKind.min, IntKind.max, IntKind.signed, IntKind.bits] using w0
  have hb : Rows.uptoBulk d1 ≤ 1048576 ∧ Rows.uptoBulk d2 ≤ 1048576 := by
    have h : Rows.uptoBulkAll ([DataW.lit (H := H) (.int .u8 x), d1, d2] ++ []) ≤ 1048576 := of_decide_eq_true hk
    simp only [List.append_nil, Rows.uptoBulkAll] at h
    omega
  obtain ⟨fuel1, hf1⟩ := h1
  obtain ⟨A1, c1, dst, hcs1, hd, hdl⟩ := trod_octs treeTys hf1 hb.1
  obtain ⟨a1_, l1_, k1_, rfl⟩ := okWide_slice Tryz.underlying22 (hval 1 22 v1 rfl rfl)
  have hv1 := slice_of hcs1
  rw [hv1] at hW' hval ⊢
  obtain ⟨fuel, hf⟩ := h2
  obtain ⟨t, ht, hsz⟩ := trod_tree treeTys fuel _ _ hf hb.2
  have hdl' : dst.length ≤ 1048576 := Nat.le_trans hdl hb.1
  replace hsz : t.size ≤ 8388608 := Nat.le_trans hsz (by show 8 * Rows.uptoBulk d2 ≤ 8388608; omega)
  have hagg := agg_of rfl ht.five
  generalize v2.cells.toList = ct at ht hagg
  subst hagg
  clear hf hf1
  refine (closeListOffsetsRequest x hx dst _ t W (fun _ _ => True) hd hdl' ht hsz).mono fun e W' h => ?_
  obtain ⟨rfl, hs⟩ := h
  exact ⟨_, rfl, post_step hW' hs laidOut_ (by rw [Tryz.params5]; decide +kernel) rfl rfl rfl (fun _ _ _ => trodAll_cons_mk (shut_bool Tryz.underlying4 _) trodAll_mk0)⟩

/-- the door's own heap meets the condition -/
theorem door_met (os : Os) (args : Array Value) : laidMetH Tryz.prog Rows.fnBehindListOffsetsRequestUptoRow.laid ((World.doorLaid Tryz.prog 400 os).forCall (fun _ _ => 0) ⟨#[], args, []⟩).memory :=
  laidMetH_of_parts3 (fuel := 8) (laidMet_of_run' 8 (by kernel_rfl) (by kernel_rfl)) (by kernel_rfl) (by kernel_rfl)

set_option maxRecDepth 100000 in
theorem witness_ (os : Os) (H : Type) (enc : TypeId × Value → H) : ∃ (w : World) (tape : Tape) (i : Input), w.os = os ∧ (w.forCall tape i).Shaped Tryz.prog ∧ i.vars = [] ∧ Input.okWide Tryz.prog (w.forCall tape i) .any w.heap.size 5 i ∧
      (((Rows.OpenSpec.upto Rows.fnBehindListOffsetsRequestSpec).pre enc Tryz.prog Tryz.f5 Rows.fnBehindListOffsetsRequestUptoRow.domain false (w.forCall tape i).memory i.args ∧ laidMetH Tryz.prog Rows.fnBehindListOffsetsRequestUptoRow.laid (w.forCall tape i).memory) ∧ sizedMet enc Tryz.prog Tryz.f5 (Rows.OpenSpec.upto Rows.fnBehindListOffsetsRequestSpec) false (w.forCall tape i).memory i.args) ∧
      ({} : Assume).holds Tryz.prog (lone (Frame.enter Tryz.prog 5 i.args .normal) [] (w.forCall tape i)) := by
  have hok : Input.okWideB Tryz.prog ((World.doorLaid Tryz.prog 400 os).forCall (fun _ _ => 0) ⟨#[], #[.int .u8 0, .slice none 0 0, .agg #[.int .i64 0, .slice none 0 0, .bool false, .slice none 0 0, .slice none 0 0]], []⟩) 5 ⟨#[], #[.int .u8 0, .slice none 0 0, .agg #[.int .i64 0, .slice none 0 0, .bool false, .slice none 0 0, .slice none 0 0]], []⟩ = true := by kernel_rfl
  refine ⟨World.doorLaid Tryz.prog 400 os, fun _ _ => 0, ⟨#[], #[.int .u8 0, .slice none 0 0, .agg #[.int .i64 0, .slice none 0 0, .bool false, .slice none 0 0, .slice none 0 0]], []⟩, rfl, World.shaped_of_RefB (by kernel_rfl) (by kernel_rfl), (Input.okWide_of_okWideB (base := 0) hok).1, (Input.okWide_of_okWideB hok).2,
    ⟨⟨(OpenSpec.pre_some (k := Rows.uptoSmall) rfl _ _ _ _).2 ⟨[.lit (.int .u8 0), .nil, .agg [.lit (.int .i64 0), .nil, .lit (.bool false), .nil, .nil]], [], [], DataW.Whole_of_whole (fuel := 8) (x := ([.lit (.int .u8 0), .nil, .agg [.lit (.int .i64 0), .nil, .lit (.bool false), .nil, .nil]], [], [])) (by kernel_rfl), rfl, by kernel_rfl⟩, door_met os _⟩, sizedMet_of_sizedB (s := (Rows.OpenSpec.upto Rows.fnBehindListOffsetsRequestSpec).bare) (fuel := 8) (by kernel_rfl)⟩, ?_⟩
  simp only [Assume.holds]
  exact ⟨by simp, by simp, by simp, by simp, by simp⟩

set_option maxRecDepth 100000 in
theorem lifted_ (os : Os) (started : os.Started) (H : Type) (enc : TypeId × Value → H) (F : Stop.Interp) :
    ReturnsInHanded {} Tryz.checked os 5 .any (fun w args => ((Rows.OpenSpec.upto Rows.fnBehindListOffsetsRequestSpec).pre enc Tryz.prog Tryz.f5 Rows.fnBehindListOffsetsRequestUptoRow.domain false w args ∧ laidMetH Tryz.prog Rows.fnBehindListOffsetsRequestUptoRow.laid w) ∧ sizedMet enc Tryz.prog Tryz.f5 (Rows.OpenSpec.upto Rows.fnBehindListOffsetsRequestSpec) false w args) (((Rows.OpenSpec.upto Rows.fnBehindListOffsetsRequestSpec).at F).post enc Tryz.prog Tryz.f5 false true false false) := by
  refine returnsInHanded_of_calls ownKnob_ started (by kernel_rfl) (witness_ os H enc) ?_
  intro w tape i _ _ _ hok hpre hholds
  obtain ⟨_, _, _, fn', hfn', _, _, _, _, hval⟩ := hok
  have e : fn' = Tryz.f5 := Option.some.inj (hfn'.symm.trans Tryz.func5)
  subst e
  obtain ⟨ds, gs, before, hw, hc, hkk⟩ := (OpenSpec.pre_some (k := Rows.uptoSmall) rfl _ _ _ _).1 hpre.1.1
  have hw' := DataW.Whole.of_heap (w' := w.forCall tape i) (by rfl) hw
  refine (contract_ H enc (w.forCall tape i) w.heap.size i.args ds gs before hval hw' hkk).mono fun e W' ⟨v, he, hp⟩ => ?_
  subst he
  exact ChangeSpec.post_blind hp

theorem holds_ : Rows.FnBehindListOffsetsRequestUptoSaid :=
  OpenClaim.holds_of_cond 5 Tryz.f5 rfl rfl rfl rfl rfl rfl rfl ⟨rfl, rfl, rfl, rfl, rfl⟩ rfl rfl rfl rfl rfl (by kernel_rfl) Tryz.func5 (by kernel_rfl)
    (of_decide_eq_true (by kernel_rfl)) (by unfold Func.isWrapper; first | (rw [if_pos (by decide +kernel)]; kernel_rfl) | (rw [if_neg (by decide +kernel)]; exact ⟨rfl, rfl⟩))
    (fun os started H enc _ F => lifted_ os started H enc F)
end Go.Proofs.YtnhgfbgdoelfoaaGreatDoor.ME
namespace Go.Proofs.YtnhgfbgdoelfoaaGreatDoor
open Go
/-- the card -/
theorem fnBehindListOffsetsRequest_holds : Rows.FnBehindListOffsetsRequestUptoCardSaid :=
  Claim7.holds_tied_plain_at .later [] [.sentinel] true (true, "544f600f44352b395bebee5b6e6fddcfa705bf5f980908fbd89542c657c23d94") false ME.holds_ (fun _ h => by cases h) (by kernel_rfl) (fun _ h => by cases h) fnBehindListOffsetsRequestUpto_row_tie rfl ⟨rfl, rfl⟩ (by kernel_rfl) rfl
    (fun f fn hf hfn => by
      obtain rfl : f = 5 := Option.some.inj ((show Tryz.prog.funcNamed "pub-mailsack/laws.FnBehindListOffsetsRequest" = some 5 by kernel_rfl).symm.trans hf) |>.symm
      obtain rfl : fn = Tryz.f5 := (Option.some.inj (Tryz.func5.symm.trans hfn)).symm
      exact ⟨by kernel_rfl, fun j t ht => by
        rw [Tryz.params5] at ht
        have hm : t ∈ [5, 22, 26] := by simpa using Array.mem_of_getElem? ht
        have hall : ([5, 22, 26].all fun u => !Tryz.prog.wantsStandIn u) = true := by kernel_rfl
        exact (show Tryz.prog.wantsStandIn t = false by simpa using List.all_eq_true.1 hall t hm)⟩)
    (by kernel_rfl)
end Go.Proofs.YtnhgfbgdoelfoaaGreatDoor
