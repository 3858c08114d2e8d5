/- FnBehindAlterReplicaLogDirsRequest: the statement: of every version, every slice of octets and every tree of the bulk that the statement speaks of the law returns true, and leaves its arguments as they are; and the card. Own work. -/
import Derived.Test.YtnhgfbgdoelfoaaGreatDoorWaP4
import Derived.Test.YtnhgfbgdoelfoaaGreatDoorTie
import Derived.Test.YtnhgfbgdoelfoaaGreatDoorCards
import Derived.LaidMore
import Derived.SevenTiedAt
/- Printed by tools/mk.py. Own work. -/
namespace Go.Proofs.YtnhgfbgdoelfoaaGreatDoor.ME
open Go
open Go.RowKit
set_option linter.unusedVariables false
set_option linter.unusedSimpArgs false
set_option maxRecDepth 20000

def tEAlterReplicaLogDirsRequestDirTopic (v : Int) (T : Tree) : Bs := (if (decide (v ≥ 2)) = true then (uv ((T.at_ 0).S.length + 1) ++ (T.at_ 0).S) else (be 2 (T.at_ 0).S.length ++ (T.at_ 0).S)) ++ (((if (decide (v ≥ 2)) = true then (uv ((lst (T.at_ 1)).length + 1)) else (be 4 (lst (T.at_ 1)).length)) ++ ((lst (T.at_ 1)).flatMap (fun E => be 4 (IntKind.i32.wrap E.N)))) ++ (if (decide (v ≥ 2)) = true then (uv T.U.length) ++ (tagsR T.U) else []))
theorem posAlterReplicaLogDirsRequestDirTopic (v : Int) (T : Tree) : 0 < (tEAlterReplicaLogDirsRequestDirTopic v T).length := pos_l (pos_if (pos_l (uv_ne _)) (pos_l (pos_be (by decide))))
def tEAlterReplicaLogDirsRequestDir (v : Int) (T : Tree) : Bs := (if (decide (v ≥ 2)) = true then (uv ((T.at_ 0).S.length + 1) ++ (T.at_ 0).S) else (be 2 (T.at_ 0).S.length ++ (T.at_ 0).S)) ++ (((if (decide (v ≥ 2)) = true then (uv ((lst (T.at_ 1)).length + 1)) else (be 4 (lst (T.at_ 1)).length)) ++ ((lst (T.at_ 1)).flatMap (tEAlterReplicaLogDirsRequestDirTopic v))) ++ (if (decide (v ≥ 2)) = true then (uv T.U.length) ++ (tagsR T.U) else []))
theorem posAlterReplicaLogDirsRequestDir (v : Int) (T : Tree) : 0 < (tEAlterReplicaLogDirsRequestDir v T).length := pos_l (pos_if (pos_l (uv_ne _)) (pos_l (pos_be (by decide))))
def tEAlterReplicaLogDirsRequest_ (v : Int) (T : Tree) : Bs := ((if (decide (v ≥ 2)) = true then (uv ((lst (T.at_ 0)).length + 1)) else (be 4 (lst (T.at_ 0)).length)) ++ ((lst (T.at_ 0)).flatMap (tEAlterReplicaLogDirsRequestDir v))) ++ ((if (decide (v ≥ 2)) = true then (uv T.U.length) ++ (tagsR T.U) else []) ++ (([] : Bs)))
theorem teAlterReplicaLogDirsRequest (v : Int) (T : Tree) : tAlterReplicaLogDirsRequest v T = tEAlterReplicaLogDirsRequest_ v T := rfl
def clAlterReplicaLogDirsRequestDirTopic (d : DV) : List Value := [.string ((d.f 0).s), .slice ((d.f 1).A) ((d.f 1).l) ((d.f 1).c), .map d.m]
theorem mvAlterReplicaLogDirsRequestDirTopic : Moves okAlterReplicaLogDirsRequestDirTopic := by
  intro w w' F F' M d hs hM hF h
  unfold okAlterReplicaLogDirsRequestDirTopic at h ⊢
  obtain ⟨g0, ⟨g1, g1l, g1e⟩, t1, t2, t3, _⟩ := h
  exact ⟨g0, ⟨g1.move hs hM hF, g1l, g1e⟩, t1.move hs hM hF, t2, t3, trivial⟩

def clAlterReplicaLogDirsRequestDir (d : DV) : List Value := [.string ((d.f 0).s), .slice ((d.f 1).A) ((d.f 1).l) ((d.f 1).c), .map d.m]
theorem mvAlterReplicaLogDirsRequestDir : Moves okAlterReplicaLogDirsRequestDir := by
  intro w w' F F' M d hs hM hF h
  unfold okAlterReplicaLogDirsRequestDir at h ⊢
  obtain ⟨g0, ⟨g1, g1l, g1e⟩, t1, t2, t3, _⟩ := h
  exact ⟨g0, ⟨g1.move hs hM hF, g1l, fun i hi => mvAlterReplicaLogDirsRequestDirTopic _ hs hM hF (g1e i hi)⟩, t1.move hs hM hF, t2, t3, trivial⟩

def rvAlterReplicaLogDirsRequestDirTopic (v : Int) (D : DV) (T : Tree) : Prop := ((D.f 0).s = bs (T.at_ 0).S) ∧ (((D.f 1).l = (lst (T.at_ 1)).length ∧ ∀ i, i < (D.f 1).l → ((D.f 1).f i).n = IntKind.i32.wrap ((lst (T.at_ 1)).getD i .zero).N)) ∧ (((decide (v ≥ 2)) = true → D.u = T.U) ∧ ((decide (v ≥ 2)) = false → D.u = [])) ∧ True
def rvAlterReplicaLogDirsRequestDir (v : Int) (D : DV) (T : Tree) : Prop := ((D.f 0).s = bs (T.at_ 0).S) ∧ (((D.f 1).l = (lst (T.at_ 1)).length ∧ ∀ i, i < (D.f 1).l → rvAlterReplicaLogDirsRequestDirTopic v ((D.f 1).f i) ((lst (T.at_ 1)).getD i .zero))) ∧ (((decide (v ≥ 2)) = true → D.u = T.U) ∧ ((decide (v ≥ 2)) = false → D.u = [])) ∧ True
def rvAlterReplicaLogDirsRequest (v : Int) (D : DV) (T : Tree) : Prop := (((D.f 0).l = (lst (T.at_ 0)).length ∧ ∀ i, i < (D.f 0).l → rvAlterReplicaLogDirsRequestDir v ((D.f 0).f i) ((lst (T.at_ 0)).getD i .zero))) ∧ (((decide (v ≥ 2)) = true → D.u = T.U) ∧ ((decide (v ≥ 2)) = false → D.u = [])) ∧ True
theorem nop147 (b o : Nat) (w : World) : Calls Tryz.prog 147 #[.pointer (some ⟨b, o, none⟩)] w (fun e w' => e = .returned (.tuple #[]) ∧ w' = w) := by
  refine enter (n := 2) (vs := [.pointer (some ⟨b, o, none⟩)]) Tryz.func147 rfl Tryz.ntmps147 (by kernel_rfl) fun a hE => ?_
  refine wp_skip ?_
  exact leave_end hE (WOk.start w Nil).cells (v := .tuple #[]) (by kernel_rfl) ⟨rfl, rfl⟩

theorem nop152 (b o : Nat) (w : World) : Calls Tryz.prog 152 #[.pointer (some ⟨b, o, none⟩)] w (fun e w' => e = .returned (.tuple #[]) ∧ w' = w) := by
  refine enter (n := 2) (vs := [.pointer (some ⟨b, o, none⟩)]) Tryz.func152 rfl Tryz.ntmps152 (by kernel_rfl) fun a hE => ?_
  refine wp_skip ?_
  exact leave_end hE (WOk.start w Nil).cells (v := .tuple #[]) (by kernel_rfl) ⟨rfl, rfl⟩

set_option maxHeartbeats 4000000 in
theorem rdAlterReplicaLogDirsRequest (v : Int) (T : Tree) {bv : Nat} {A : Option Addr} {c : Nat} {w : World} {F : Nat → Nat → Prop} (hst : Str w bv [.int .i16 v, .slice none 0 0, .map none]) (ho : Octs w F A c (tAlterReplicaLogDirsRequest v T)) (hFd : ∀ b o, F b o → ¬ (b = bv ∧ o < 3)) (hc : canAlterReplicaLogDirsRequest T) (hR : T.ranged) :
    Calls Tryz.prog 95 #[.pointer (some ⟨bv, 0, none⟩), .slice A (tAlterReplicaLogDirsRequest v T).length c, .bool false] w (fun e w' => ∃ D : DV, e = .returned .nilIface ∧ Str w' bv [.int .i16 v, .slice ((D.f 0).A) ((D.f 0).l) ((D.f 0).c), .map D.m] ∧ okAlterReplicaLogDirsRequest w' (Fp F w) D ∧ rvAlterReplicaLogDirsRequest v D T ∧ Step w w' (fun b o => b = bv ∧ o < 3)) := by
  refine enter (n := 182) Tryz.func95 rfl Tryz.ntmps95 (by kernel_rfl) fun a hE => ?_
  have hW := WOk.startStr hst
  have hE1 := (hE.grow ⟨bv, 0, [.int .i16 v, .slice none 0 0, .map none], true⟩).recast 0 (.v (.pointer (some ⟨bv, 0, none⟩))) (.p 0 0) rfl rfl (Nat.le_of_ble_eq_true (n := 1) rfl)
  refine go_sp [(0, .p 0 0), (1, .v (.slice A ((tAlterReplicaLogDirsRequest v T).length) c)), (2, .v (.bool false))] hW hE1 fun a1 hE2 => ?_
  clear hE1
  refine go_seq_region [0, 1] (by kernel_rfl) ?_
  refine go_rn [0] [1] [(0, .p 0 0), (1, .v (.slice A ((tAlterReplicaLogDirsRequest v T).length) c)), (2, .v (.bool false)), (30, .p 0 0)] hW hE2 fun a3 hE4 => ?_
  clear hE2
  refine of_op (wpOp_inline hE4 (f := 90) (vs := [.pointer (some ⟨bv, 0, none⟩)]) (d := 31) (n' := 2) (by kernel_rfl) Tryz.call90 Tryz.func90 rfl Tryz.ntmps90 (by kernel_rfl) fun a5 hE6 => ?_)
  have hE7 := hE6.recast 0 (.v (.pointer (some ⟨bv, 0, none⟩))) (.p 0 0) rfl rfl (Nat.le_of_ble_eq_true (n := 1) rfl)
  refine wp_skip ?_
  refine leave_end hE7 hW.cells (v := .tuple #[]) (by kernel_rfl) ?_
  refine ⟨_, rfl, fun a8 hE9 => ?_⟩
  have hE10 : EnvOk 182 [⟨bv, 0, [.int .i16 v, .slice none 0 0, .map none], true⟩] [(31, .v (.tuple #[])), (0, .p 0 0), (1, .v (.slice A ((tAlterReplicaLogDirsRequest v T).length) c)), (2, .v (.bool false)), (30, .p 0 0)] _ := hE9.places (⟨rfl, rfl, trivial⟩)
  refine wpOps_nil ?_
  refine then_normal ?_
  refine go_seq_region [0, 1, 2, 3] (by kernel_rfl) ?_
  refine go_rn [0, 1] [2, 3] [(0, .p 0 0), (2, .v (.bool false)), (33, .v (.agg #[.slice A ((tAlterReplicaLogDirsRequest v T).length) c, .bool false]))] hW hE10 fun a11 hE12 => ?_
  clear hE10
  refine of_op (wpOp_alloc hW hE12 (d := 7) (cs := [.slice none 0 0, .bool false]) (by kernel_rfl) fun b13 a14 w15 hb16 hz17 hF18 hW19 hE20 => ?_)
  clear hE12 hW
  refine of_op (wpOp_store hW19 hE20 (oi := 1) (cs := [.slice A ((tAlterReplicaLogDirsRequest v T).length) c, .bool false]) (by kernel_rfl) fun w21 hF22 hW23 hE24 => ?_)
  clear hE20 hW19
  refine wpOps_nil ?_
  refine then_normal ?_
  have hS25 := RS.start (F := F) (s := tAlterReplicaLogDirsRequest v T) hW23 hE24 (ho.move hW23.step (fun b_ o_ h_ _ => hFd b_ o_ h_) (hW23.immM hFd)) [(0, .p 1 0), (2, .v (.bool false)), (7, .p 0 0)]
  have e26 := hc
  have e26r := hR
  unfold canAlterReplicaLogDirsRequest at e26
  obtain ⟨⟨e26_0, e26_0e⟩, e26_U, _⟩ := e26
  obtain ⟨R27, hR28⟩ : ∃ R, R = (if (decide (v ≥ 2)) = true then (uv T.U.length) ++ (tagsR T.U) else []) ++ ([] : Bs) := ⟨_, rfl⟩
  obtain ⟨R29, hR30⟩ : ∃ R, R = ((if (decide (v ≥ 2)) = true then (uv ((lst (T.at_ 0)).length + 1)) else (be 4 (lst (T.at_ 0)).length)) ++ ((lst (T.at_ 0)).flatMap (tEAlterReplicaLogDirsRequestDir v))) ++ R27 := ⟨_, rfl⟩
  have hS31 := hS25.cast (t := R29) (by rw [teAlterReplicaLogDirsRequest, hR30, hR28]; unfold tEAlterReplicaLogDirsRequest_; simp only [List.append_assoc])
  clear hS25
  refine wp_seq ?_
  refine rs_sr [(0, .p 1 0), (2, .v (.bool false)), (7, .p 0 0), (8, .v (.int .i16 v))] hS31 fun _ hS32 => ?_
  clear hS31
  refine then_normal ?_
  refine wp_seq ?_
  refine rs_sr [(0, .p 1 0), (2, .v (.bool false)), (7, .p 0 0), (8, .v (.int .i16 v))] hS32 fun _ hS33 => ?_
  clear hS32
  refine then_normal ?_
  refine wp_seq ?_
  refine rs_sr [(0, .p 1 0), (2, .v (.bool false)), (7, .p 0 0), (9, .v (.bool (decide (v ≥ 2))))] hS33 fun _ hS34 => ?_
  clear hS33
  refine then_normal ?_
  refine wp_seq ?_
  refine rs_sr [(0, .p 1 0), (2, .v (.bool false)), (7, .p 0 0), (9, .v (.bool (decide (v ≥ 2))))] hS34 fun _ hS35 => ?_
  clear hS34
  refine then_normal ?_
  refine wp_seq ?_
  refine rs_sr [(2, .v (.bool false)), (7, .p 0 0), (9, .v (.bool (decide (v ≥ 2)))), (10, .p 1 0)] hS35 fun _ hS36 => ?_
  clear hS35
  refine then_normal ?_
  refine wp_seq ?_
  refine wp_seq ?_
  refine rs_sr [(2, .v (.bool false)), (7, .p 0 0), (9, .v (.bool (decide (v ≥ 2)))), (10, .p 1 0), (11, .v (.slice none 0 0))] hS36 fun _ hS37 => ?_
  clear hS36
  refine then_normal ?_
  refine wp_seq ?_
  refine rs_sr [(2, .v (.bool false)), (7, .p 0 0), (9, .v (.bool (decide (v ≥ 2)))), (10, .p 1 0), (12, .v (.slice none 0 0))] hS37 fun _ hS38 => ?_
  clear hS37
  refine then_normal ?_
  refine wp_seq ?_
  refine rs_sr [(2, .v (.bool false)), (7, .p 0 0), (9, .v (.bool (decide (v ≥ 2)))), (10, .p 1 0), (12, .v (.slice none 0 0))] hS38 fun _ hS39 => ?_
  clear hS38
  refine then_normal ?_
  refine wp_seq ?_
  have hS40 := hS39.cast hR30
  clear hS39
  have hS41 := hS40.cast (t := (if (decide (v ≥ 2)) = true then (uv ((lst (T.at_ 0)).length + 1)) else (be 4 (lst (T.at_ 0)).length)) ++ (((lst (T.at_ 0)).flatMap (tEAlterReplicaLogDirsRequestDir v)) ++ R27)) (by rw [List.append_assoc])
  clear hS40
  refine rs_alt0 (d1 := 49) (d2 := 50) [(2, .v (.bool false)), (7, .p 0 0), (9, .v (.bool (decide (v ≥ 2)))), (10, .p 1 0), (12, .v (.slice none 0 0)), (48, .v (.bool (decide (v ≥ 2))))] [(2, .v (.bool false)), (7, .p 0 0), (9, .v (.bool (decide (v ≥ 2)))), (10, .p 1 0), (12, .v (.slice none 0 0)), (13, .v (.int .i32 (((lst (T.at_ 0)).length : Nat) : Int)))] hS41 (pCompactArrayLen ((lst (T.at_ 0)).length) e26_0 _ (flat_ge' (posAlterReplicaLogDirsRequestDir v) _)) Tryz.call143 (pArrayLen ((lst (T.at_ 0)).length) e26_0 _ (flat_ge' (posAlterReplicaLogDirsRequestDir v) _)) Tryz.call144 fun _ _ hS43 => ?_
  clear hS41
  refine then_normal ?_
  refine wp_seq ?_
  refine wp_seq ?_
  refine rs_ok (d := 51) [(2, .v (.bool false)), (7, .p 0 0), (9, .v (.bool (decide (v ≥ 2)))), (10, .p 1 0), (12, .v (.slice none 0 0)), (13, .v (.int .i32 (((lst (T.at_ 0)).length : Nat) : Int))), (52, .v (.bool false))] hS43 (pOk _) Tryz.call145 fun _ _ hS45 => ?_
  clear hS43
  refine then_normal ?_
  refine cond_false hS45.env_ (b := false) (by kernel_rfl) (rfl) ?_
  refine wp_skip ?_
  refine then_normal ?_
  refine wp_seq ?_
  refine rs_cut0 (t := 86) (e := 101) (size := 3) (bytes := 48) (d := 55) (A0 := none) (m := 0) (cp := 0) [(2, .v (.bool false)), (7, .p 0 0), (9, .v (.bool (decide (v ≥ 2)))), (10, .p 1 0), (13, .v (.int .i32 (((lst (T.at_ 0)).length : Nat) : Int))), (54, .v (.slice none 0 0))] [(2, .v (.bool false)), (7, .p 0 0), (9, .v (.bool (decide (v ≥ 2)))), (10, .p 1 0), (12, .v (.slice none 0 0)), (13, .v (.int .i32 (((lst (T.at_ 0)).length : Nat) : Int)))] 1 hS45 fun _ hS46 => ?_
  clear hS45
  refine then_normal ?_
  refine wp_join2 (Mid := fun a_ w_ => ∃ (D47 : DV) (P' : FactW), (∀ w F, P' w F → noF w F ∧ (Slots w F 3 D47.A D47.c D47.l (fun i => [.string (((D47.f i).f 0).s), .slice (((D47.f i).f 1).A) (((D47.f i).f 1).l) (((D47.f i).f 1).c), .map ((D47.f i).m)]) ∧ D47.l ≤ 1000000 ∧ ∀ i, i < D47.l → okAlterReplicaLogDirsRequestDir w F (D47.f i)) ∧ (D47.l = (lst (T.at_ 0)).length ∧ ∀ i, i < D47.l → rvAlterReplicaLogDirsRequestDir v (D47.f i) ((lst (T.at_ 0)).getD i .zero))) ∧ RS w (fun b o => b = bv ∧ o < 3) F 182 b13 [⟨bv, 0, [.int .i16 v, .slice none 0 0, .map none], true⟩] [(7, .p 0 0), (9, .v (.bool (decide (v ≥ 2)))), (10, .p 1 0), (12, .v (.slice D47.A D47.l D47.c))] P' R27 a_ w_) ?_ ?_
  ·
    refine wp_seq ?_
    refine rs_sr [(2, .v (.bool false)), (7, .p 0 0), (9, .v (.bool (decide (v ≥ 2)))), (10, .p 1 0), (12, .v (.slice none 0 0)), (13, .v (.int .i32 (((lst (T.at_ 0)).length : Nat) : Int))), (57, .v (.bool (decide ((((lst (T.at_ 0)).length : Nat) : Int) > 0))))] hS46 fun _ hS51 => then_normal ?_
    clear hS46
    refine cond_of hS51.env_ (b := decide ((((lst (T.at_ 0)).length : Nat) : Int) > 0)) (by kernel_rfl) (fun hc52 => ?_) (fun hc52 => ?_)
    ·
      have hn_g53 : 0 < (lst (T.at_ 0)).length := by have h_ := of_decide_eq_true hc52; omega
      refine go_region [0, 1, 2, 3] (by kernel_rfl) ?_
      refine rs_rn [0, 1] [2, 3] [(2, .v (.bool false)), (7, .p 0 0), (9, .v (.bool (decide (v ≥ 2)))), (10, .p 1 0), (13, .v (.int .i32 (((lst (T.at_ 0)).length : Nat) : Int))), (58, .v (.slice none 0 0)), (59, .v (.int .i32 (((lst (T.at_ 0)).length : Nat) : Int)))] hS51 fun _ hS55 => ?_
      clear hS51
      refine of_op (rs_appendZ (d := 60) (t := 86) (tn := 21) (e := 101) (size := 3) (bytes := 48) (k := .i32) (kn := .i32) (q := (((lst (T.at_ 0)).length : Nat) : Int)) (j := (lst (T.at_ 0)).length) (.agg #[.string ByteArray.empty, .slice none 0 0, .map none]) hS55 (fun g53 c54 _ _ hg_g53 hcap_g53 hS56 => ?_) rfl hn_g53 (by have := e26_0; omega))
      clear hS55
      refine rs_rn [3] [] [(2, .v (.bool false)), (7, .p 0 0), (9, .v (.bool (decide (v ≥ 2)))), (10, .p 1 0), (12, .v (.slice (some ⟨g53, 0, none⟩) ((lst (T.at_ 0)).length) c54)), (13, .v (.int .i32 (((lst (T.at_ 0)).length : Nat) : Int)))] hS56 fun _ hS57 => wpOps_nil ?_
      clear hS56
      refine then_normal ?_
      refine wp_seq ?_
      refine rs_sr [(2, .v (.bool false)), (7, .p 0 0), (9, .v (.bool (decide (v ≥ 2)))), (10, .p 1 0), (12, .v (.slice (some ⟨g53, 0, none⟩) ((lst (T.at_ 0)).length) c54)), (13, .v (.int .i32 (((lst (T.at_ 0)).length : Nat) : Int))), (14, .v (.int .i32 0))] hS57 fun _ hS58 => ?_
      clear hS57
      refine then_normal ?_
      refine wp_block ?_
      have hmP64 := hS58.mv
      have hS65 := (hS58.cast (t := (lst (T.at_ 0)).flatMap (tEAlterReplicaLogDirsRequestDir v) ++ R27) rfl).pk (env' := [(2, .v (.bool false)), (7, .p 0 0), (9, .v (.bool (decide (v ≥ 2)))), (10, .p 1 0), (12, .v (.slice (some ⟨g53, 0, none⟩) ((lst (T.at_ 0)).length) c54)), (13, .v (.int .i32 (((lst (T.at_ 0)).length : Nat) : Int))), (14, .v (.int .i32 ((0 : Nat) : Int)))])
      clear hS58
      refine rs_loop (tb := [⟨bv, 0, [.int .i16 v, .slice none 0 0, .map none], true⟩]) (z := .agg #[.string ByteArray.empty, .slice none 0 0, .map none]) (cl := clAlterReplicaLogDirsRequestDir) (ok := okAlterReplicaLogDirsRequestDir) (rel := (rvAlterReplicaLogDirsRequestDir v)) (L := lst (T.at_ 0)) (size := 3) (tEAlterReplicaLogDirsRequestDir v) R27 (fun k => [(2, .v (.bool false)), (7, .p 0 0), (9, .v (.bool (decide (v ≥ 2)))), (10, .p 1 0), (12, .v (.slice (some ⟨g53, 0, none⟩) ((lst (T.at_ 0)).length) c54)), (13, .v (.int .i32 (((lst (T.at_ 0)).length : Nat) : Int))), (14, .v (.int .i32 ((k : Nat) : Int)))]) hS65 mvAlterReplicaLogDirsRequestDir (fun k59 t60 _ _ ht61 hk62 hS63 => ?_) (fun _ _ hS66 => ?_)
      ·
        obtain ⟨P67, hP68, hS69⟩ : ∃ P', (∀ w F, P' w F → (noF w F ∧ doneF g53 3 clAlterReplicaLogDirsRequestDir okAlterReplicaLogDirsRequestDir (rvAlterReplicaLogDirsRequestDir v) (lst (T.at_ 0)) k59 w F)) ∧ RS w (fun b o => b = bv ∧ o < 3) F 182 b13 [⟨bv, 0, [.int .i16 v, .slice none 0 0, .map none], true⟩, restO g53 3 (.agg #[.string ByteArray.empty, .slice none 0 0, .map none]) ((lst (T.at_ 0)).length) k59] [(2, .v (.bool false)), (7, .p 0 0), (9, .v (.bool (decide (v ≥ 2)))), (10, .p 1 0), (12, .v (.slice (some ⟨g53, 0, none⟩) ((lst (T.at_ 0)).length) c54)), (13, .v (.int .i32 (((lst (T.at_ 0)).length : Nat) : Int))), (14, .v (.int .i32 ((k59 : Nat) : Int)))] P' ((tEAlterReplicaLogDirsRequestDir v) t60 ++ (((lst (T.at_ 0)).drop (k59 + 1)).flatMap (tEAlterReplicaLogDirsRequestDir v) ++ R27)) _ _ := ⟨_, fun _ _ h => h, hS63⟩
        clear hS63
        obtain ⟨R70, hR71⟩ : ∃ R, R = ((lst (T.at_ 0)).drop (k59 + 1)).flatMap (tEAlterReplicaLogDirsRequestDir v) ++ R27 := ⟨_, rfl⟩
        have e72 := (e26_0e t60 (List.mem_of_getElem? ht61))
        have e72r := (ranged_lst (ranged_at e26r 0) t60 (List.mem_of_getElem? ht61))
        unfold canAlterReplicaLogDirsRequestDir at e72
        obtain ⟨e72_0, ⟨e72_1, e72_1e⟩, e72_U, _⟩ := e72
        obtain ⟨R73, hR74⟩ : ∃ R, R = (if (decide (v ≥ 2)) = true then (uv t60.U.length) ++ (tagsR t60.U) else []) ++ R70 := ⟨_, rfl⟩
        obtain ⟨R75, hR76⟩ : ∃ R, R = ((if (decide (v ≥ 2)) = true then (uv ((lst (t60.at_ 1)).length + 1)) else (be 4 (lst (t60.at_ 1)).length)) ++ ((lst (t60.at_ 1)).flatMap (tEAlterReplicaLogDirsRequestDirTopic v))) ++ R73 := ⟨_, rfl⟩
        obtain ⟨R77, hR78⟩ : ∃ R, R = (if (decide (v ≥ 2)) = true then (uv ((t60.at_ 0).S.length + 1) ++ (t60.at_ 0).S) else (be 2 (t60.at_ 0).S.length ++ (t60.at_ 0).S)) ++ R75 := ⟨_, rfl⟩
        have hS79 := hS69.cast (t := R77) (by rw [hR78, hR76, hR74, ← hR71]; unfold tEAlterReplicaLogDirsRequestDir; simp only [List.append_assoc])
        clear hS69
        refine wp_seq ?_
        refine wp_seq ?_
        refine rs_sr [(2, .v (.bool false)), (7, .p 0 0), (9, .v (.bool (decide (v ≥ 2)))), (10, .p 1 0), (12, .v (.slice (some ⟨g53, 0, none⟩) ((lst (T.at_ 0)).length) c54)), (13, .v (.int .i32 (((lst (T.at_ 0)).length : Nat) : Int))), (14, .v (.int .i32 ((k59 : Nat) : Int))), (63, .v (.bool (decide (((k59 : Nat) : Int) < (((lst (T.at_ 0)).length : Nat) : Int)))))] hS79 fun _ hS80 => then_normal ?_
        clear hS79
        refine cond_true hS80.env_ (b := decide (((k59 : Nat) : Int) < (((lst (T.at_ 0)).length : Nat) : Int))) (by kernel_rfl) (decide_eq_true (by omega)) ?_
        refine wp_skip ?_
        refine then_normal ?_
        refine wp_seq ?_
        refine wp_block ?_
        refine wp_seq ?_
        refine rs_elem (t := 86) (e := 101) (size := 3) (bytes := 48) (d := 68) (tb := [⟨bv, 0, [.int .i16 v, .slice none 0 0, .map none], true⟩]) (z := .agg #[.string ByteArray.empty, .slice none 0 0, .map none]) [(2, .v (.bool false)), (7, .p 0 0), (9, .v (.bool (decide (v ≥ 2)))), (10, .p 1 0), (12, .v (.slice (some ⟨g53, 0, none⟩) ((lst (T.at_ 0)).length) c54)), (13, .v (.int .i32 (((lst (T.at_ 0)).length : Nat) : Int))), (14, .v (.int .i32 ((k59 : Nat) : Int))), (66, .v (.slice (some ⟨g53, 0, none⟩) ((lst (T.at_ 0)).length) c54)), (67, .v (.int .i32 ((k59 : Nat) : Int)))] [(2, .v (.bool false)), (7, .p 0 0), (9, .v (.bool (decide (v ≥ 2)))), (10, .p 1 0), (12, .v (.slice (some ⟨g53, 0, none⟩) ((lst (T.at_ 0)).length) c54)), (13, .v (.int .i32 (((lst (T.at_ 0)).length : Nat) : Int))), (14, .v (.int .i32 ((k59 : Nat) : Int))), (15, .p 3 0)] 2 hS80 hk62 rfl (by kernel_rfl) fun _ hS81 => ?_
        clear hS80
        have hS82 := hS81.tbEq (tb' := [⟨bv, 0, [.int .i16 v, .slice none 0 0, .map none], true⟩, restO g53 3 (.agg #[.string ByteArray.empty, .slice none 0 0, .map none]) ((lst (T.at_ 0)).length) (k59 + 1), ⟨g53, k59 * 3, [.string ByteArray.empty, .slice none 0 0, .map none], true⟩]) rfl
        clear hS81
        refine then_normal ?_
        refine wp_seq ?_
        refine go_region [0, 1] (by kernel_rfl) ?_
        refine rs_rn [0] [1] [(2, .v (.bool false)), (7, .p 0 0), (9, .v (.bool (decide (v ≥ 2)))), (10, .p 1 0), (12, .v (.slice (some ⟨g53, 0, none⟩) ((lst (T.at_ 0)).length) c54)), (13, .v (.int .i32 (((lst (T.at_ 0)).length : Nat) : Int))), (14, .v (.int .i32 ((k59 : Nat) : Int))), (15, .p 3 0), (69, .p 3 0)] hS82 fun _ hS83 => ?_
        clear hS82
        refine of_op (rs_nop (d := 70) (vs := [.pointer (some ⟨g53, k59 * 3, none⟩)]) hS83 (fun _ => nop147 _ _ _) Tryz.call147 fun _ hS84 => ?_)
        clear hS83
        refine wpOps_nil ?_
        have hS85 := hS84.pk (env' := [(2, .v (.bool false)), (7, .p 0 0), (9, .v (.bool (decide (v ≥ 2)))), (10, .p 1 0), (12, .v (.slice (some ⟨g53, 0, none⟩) ((lst (T.at_ 0)).length) c54)), (13, .v (.int .i32 (((lst (T.at_ 0)).length : Nat) : Int))), (14, .v (.int .i32 ((k59 : Nat) : Int))), (15, .p 3 0)])
        clear hS84
        refine then_normal ?_
        refine wp_seq ?_
        refine rs_sr [(2, .v (.bool false)), (7, .p 0 0), (9, .v (.bool (decide (v ≥ 2)))), (10, .p 1 0), (12, .v (.slice (some ⟨g53, 0, none⟩) ((lst (T.at_ 0)).length) c54)), (13, .v (.int .i32 (((lst (T.at_ 0)).length : Nat) : Int))), (14, .v (.int .i32 ((k59 : Nat) : Int))), (16, .p 3 0)] hS85 fun _ hS86 => ?_
        clear hS85
        refine then_normal ?_
        refine wp_seq ?_
        refine wp_seq ?_
        refine rs_sr [(2, .v (.bool false)), (7, .p 0 0), (9, .v (.bool (decide (v ≥ 2)))), (10, .p 1 0), (12, .v (.slice (some ⟨g53, 0, none⟩) ((lst (T.at_ 0)).length) c54)), (13, .v (.int .i32 (((lst (T.at_ 0)).length : Nat) : Int))), (14, .v (.int .i32 ((k59 : Nat) : Int))), (16, .p 3 0)] hS86 fun _ hS87 => ?_
        clear hS86
        refine then_normal ?_
        refine wp_seq ?_
        refine wp_seq ?_
        refine rs_sr [(2, .v (.bool false)), (7, .p 0 0), (9, .v (.bool (decide (v ≥ 2)))), (10, .p 1 0), (12, .v (.slice (some ⟨g53, 0, none⟩) ((lst (T.at_ 0)).length) c54)), (13, .v (.int .i32 (((lst (T.at_ 0)).length : Nat) : Int))), (14, .v (.int .i32 ((k59 : Nat) : Int))), (16, .p 3 0), (72, .v (.bool false))] hS87 fun _ hS88 => then_normal ?_
        clear hS87
        refine cond_false hS88.env_ (b := false) (by kernel_rfl) (rfl) ?_
        have hS89 := hS88.cast hR78
        clear hS88
        refine rs_alt0 (d1 := 77) (d2 := 78) [(2, .v (.bool false)), (7, .p 0 0), (9, .v (.bool (decide (v ≥ 2)))), (10, .p 1 0), (12, .v (.slice (some ⟨g53, 0, none⟩) ((lst (T.at_ 0)).length) c54)), (13, .v (.int .i32 (((lst (T.at_ 0)).length : Nat) : Int))), (14, .v (.int .i32 ((k59 : Nat) : Int))), (16, .p 3 0), (76, .v (.bool (decide (v ≥ 2))))] [(2, .v (.bool false)), (7, .p 0 0), (9, .v (.bool (decide (v ≥ 2)))), (10, .p 1 0), (12, .v (.slice (some ⟨g53, 0, none⟩) ((lst (T.at_ 0)).length) c54)), (13, .v (.int .i32 (((lst (T.at_ 0)).length : Nat) : Int))), (14, .v (.int .i32 ((k59 : Nat) : Int))), (16, .p 3 0), (17, .v (.string (bs (t60.at_ 0).S)))] hS89 (pCompactString (t60.at_ 0).S e72_0 _) Tryz.call150 (pString (t60.at_ 0).S e72_0 _) Tryz.call151 fun _ _ hS91 => ?_
        clear hS89
        refine then_normal ?_
        refine rs_sto [⟨bv, 0, [.int .i16 v, .slice none 0 0, .map none], true⟩, restO g53 3 (.agg #[.string ByteArray.empty, .slice none 0 0, .map none]) ((lst (T.at_ 0)).length) (k59 + 1), ⟨g53, k59 * 3, [.string (bs (t60.at_ 0).S), .slice none 0 0, .map none], true⟩] 2 [(2, .v (.bool false)), (7, .p 0 0), (9, .v (.bool (decide (v ≥ 2)))), (10, .p 1 0), (12, .v (.slice (some ⟨g53, 0, none⟩) ((lst (T.at_ 0)).length) c54)), (13, .v (.int .i32 (((lst (T.at_ 0)).length : Nat) : Int))), (14, .v (.int .i32 ((k59 : Nat) : Int))), (16, .p 3 0)] hS91 fun _ _ hS92 => ?_
        clear hS91
        refine then_normal ?_
        refine wp_seq ?_
        refine wp_seq ?_
        refine rs_sr [(2, .v (.bool false)), (7, .p 0 0), (9, .v (.bool (decide (v ≥ 2)))), (10, .p 1 0), (12, .v (.slice (some ⟨g53, 0, none⟩) ((lst (T.at_ 0)).length) c54)), (13, .v (.int .i32 (((lst (T.at_ 0)).length : Nat) : Int))), (14, .v (.int .i32 ((k59 : Nat) : Int))), (16, .p 3 0), (18, .v (.slice none 0 0))] hS92 fun _ hS93 => ?_
        clear hS92
        refine then_normal ?_
        refine wp_seq ?_
        refine rs_sr [(2, .v (.bool false)), (7, .p 0 0), (9, .v (.bool (decide (v ≥ 2)))), (10, .p 1 0), (12, .v (.slice (some ⟨g53, 0, none⟩) ((lst (T.at_ 0)).length) c54)), (13, .v (.int .i32 (((lst (T.at_ 0)).length : Nat) : Int))), (14, .v (.int .i32 ((k59 : Nat) : Int))), (16, .p 3 0), (19, .v (.slice none 0 0))] hS93 fun _ hS94 => ?_
        clear hS93
        refine then_normal ?_
        refine wp_seq ?_
        refine rs_sr [(2, .v (.bool false)), (7, .p 0 0), (9, .v (.bool (decide (v ≥ 2)))), (10, .p 1 0), (12, .v (.slice (some ⟨g53, 0, none⟩) ((lst (T.at_ 0)).length) c54)), (13, .v (.int .i32 (((lst (T.at_ 0)).length : Nat) : Int))), (14, .v (.int .i32 ((k59 : Nat) : Int))), (16, .p 3 0), (19, .v (.slice none 0 0))] hS94 fun _ hS95 => ?_
        clear hS94
        refine then_normal ?_
        refine wp_seq ?_
        have hS96 := hS95.cast hR76
        clear hS95
        have hS97 := hS96.cast (t := (if (decide (v ≥ 2)) = true then (uv ((lst (t60.at_ 1)).length + 1)) else (be 4 (lst (t60.at_ 1)).length)) ++ (((lst (t60.at_ 1)).flatMap (tEAlterReplicaLogDirsRequestDirTopic v)) ++ R73)) (by rw [List.append_assoc])
        clear hS96
        refine rs_alt0 (d1 := 89) (d2 := 90) [(2, .v (.bool false)), (7, .p 0 0), (9, .v (.bool (decide (v ≥ 2)))), (10, .p 1 0), (12, .v (.slice (some ⟨g53, 0, none⟩) ((lst (T.at_ 0)).length) c54)), (13, .v (.int .i32 (((lst (T.at_ 0)).length : Nat) : Int))), (14, .v (.int .i32 ((k59 : Nat) : Int))), (16, .p 3 0), (19, .v (.slice none 0 0)), (88, .v (.bool (decide (v ≥ 2))))] [(2, .v (.bool false)), (7, .p 0 0), (9, .v (.bool (decide (v ≥ 2)))), (10, .p 1 0), (12, .v (.slice (some ⟨g53, 0, none⟩) ((lst (T.at_ 0)).length) c54)), (13, .v (.int .i32 (((lst (T.at_ 0)).length : Nat) : Int))), (14, .v (.int .i32 ((k59 : Nat) : Int))), (16, .p 3 0), (19, .v (.slice none 0 0)), (20, .v (.int .i32 (((lst (t60.at_ 1)).length : Nat) : Int)))] hS97 (pCompactArrayLen ((lst (t60.at_ 1)).length) e72_1 _ (flat_ge' (posAlterReplicaLogDirsRequestDirTopic v) _)) Tryz.call143 (pArrayLen ((lst (t60.at_ 1)).length) e72_1 _ (flat_ge' (posAlterReplicaLogDirsRequestDirTopic v) _)) Tryz.call144 fun _ _ hS99 => ?_
        clear hS97
        refine then_normal ?_
        refine wp_seq ?_
        refine wp_seq ?_
        refine rs_ok (d := 91) [(2, .v (.bool false)), (7, .p 0 0), (9, .v (.bool (decide (v ≥ 2)))), (10, .p 1 0), (12, .v (.slice (some ⟨g53, 0, none⟩) ((lst (T.at_ 0)).length) c54)), (13, .v (.int .i32 (((lst (T.at_ 0)).length : Nat) : Int))), (14, .v (.int .i32 ((k59 : Nat) : Int))), (16, .p 3 0), (19, .v (.slice none 0 0)), (20, .v (.int .i32 (((lst (t60.at_ 1)).length : Nat) : Int))), (92, .v (.bool false))] hS99 (pOk _) Tryz.call145 fun _ _ hS101 => ?_
        clear hS99
        refine then_normal ?_
        refine cond_false hS101.env_ (b := false) (by kernel_rfl) (rfl) ?_
        refine wp_skip ?_
        refine then_normal ?_
        refine wp_seq ?_
        refine rs_cut0 (t := 99) (e := 106) (size := 3) (bytes := 48) (d := 95) (A0 := none) (m := 0) (cp := 0) [(2, .v (.bool false)), (7, .p 0 0), (9, .v (.bool (decide (v ≥ 2)))), (10, .p 1 0), (12, .v (.slice (some ⟨g53, 0, none⟩) ((lst (T.at_ 0)).length) c54)), (13, .v (.int .i32 (((lst (T.at_ 0)).length : Nat) : Int))), (14, .v (.int .i32 ((k59 : Nat) : Int))), (16, .p 3 0), (20, .v (.int .i32 (((lst (t60.at_ 1)).length : Nat) : Int))), (94, .v (.slice none 0 0))] [(2, .v (.bool false)), (7, .p 0 0), (9, .v (.bool (decide (v ≥ 2)))), (10, .p 1 0), (12, .v (.slice (some ⟨g53, 0, none⟩) ((lst (T.at_ 0)).length) c54)), (13, .v (.int .i32 (((lst (T.at_ 0)).length : Nat) : Int))), (14, .v (.int .i32 ((k59 : Nat) : Int))), (16, .p 3 0), (19, .v (.slice none 0 0)), (20, .v (.int .i32 (((lst (t60.at_ 1)).length : Nat) : Int)))] 1 hS101 fun _ hS102 => ?_
        clear hS101
        refine then_normal ?_
        refine wp_join2 (Mid := fun a_ w_ => ∃ (D103 : DV) (P' : FactW), (∀ w F, P' w F → P67 w F ∧ (Slots w F 3 D103.A D103.c D103.l (fun i => [.string (((D103.f i).f 0).s), .slice (((D103.f i).f 1).A) (((D103.f i).f 1).l) (((D103.f i).f 1).c), .map ((D103.f i).m)]) ∧ D103.l ≤ 1000000 ∧ ∀ i, i < D103.l → okAlterReplicaLogDirsRequestDirTopic w F (D103.f i)) ∧ (D103.l = (lst (t60.at_ 1)).length ∧ ∀ i, i < D103.l → rvAlterReplicaLogDirsRequestDirTopic v (D103.f i) ((lst (t60.at_ 1)).getD i .zero))) ∧ RS w (fun b o => b = bv ∧ o < 3) F 182 b13 [⟨bv, 0, [.int .i16 v, .slice none 0 0, .map none], true⟩, restO g53 3 (.agg #[.string ByteArray.empty, .slice none 0 0, .map none]) ((lst (T.at_ 0)).length) (k59 + 1), ⟨g53, k59 * 3, [.string (bs (t60.at_ 0).S), .slice none 0 0, .map none], true⟩] [(2, .v (.bool false)), (7, .p 0 0), (9, .v (.bool (decide (v ≥ 2)))), (10, .p 1 0), (12, .v (.slice (some ⟨g53, 0, none⟩) ((lst (T.at_ 0)).length) c54)), (13, .v (.int .i32 (((lst (T.at_ 0)).length : Nat) : Int))), (14, .v (.int .i32 ((k59 : Nat) : Int))), (16, .p 3 0), (19, .v (.slice D103.A D103.l D103.c))] P' R73 a_ w_) ?_ ?_
        ·
          refine wp_seq ?_
          refine rs_sr [(2, .v (.bool false)), (7, .p 0 0), (9, .v (.bool (decide (v ≥ 2)))), (10, .p 1 0), (12, .v (.slice (some ⟨g53, 0, none⟩) ((lst (T.at_ 0)).length) c54)), (13, .v (.int .i32 (((lst (T.at_ 0)).length : Nat) : Int))), (14, .v (.int .i32 ((k59 : Nat) : Int))), (16, .p 3 0), (19, .v (.slice none 0 0)), (20, .v (.int .i32 (((lst (t60.at_ 1)).length : Nat) : Int))), (97, .v (.bool (decide ((((lst (t60.at_ 1)).length : Nat) : Int) > 0))))] hS102 fun _ hS107 => then_normal ?_
          clear hS102
          refine cond_of hS107.env_ (b := decide ((((lst (t60.at_ 1)).length : Nat) : Int) > 0)) (by kernel_rfl) (fun hc108 => ?_) (fun hc108 => ?_)
          ·
            have hn_g109 : 0 < (lst (t60.at_ 1)).length := by have h_ := of_decide_eq_true hc108; omega
            refine go_region [0, 1, 2, 3] (by kernel_rfl) ?_
            refine rs_rn [0, 1] [2, 3] [(2, .v (.bool false)), (7, .p 0 0), (9, .v (.bool (decide (v ≥ 2)))), (10, .p 1 0), (12, .v (.slice (some ⟨g53, 0, none⟩) ((lst (T.at_ 0)).length) c54)), (13, .v (.int .i32 (((lst (T.at_ 0)).length : Nat) : Int))), (14, .v (.int .i32 ((k59 : Nat) : Int))), (16, .p 3 0), (20, .v (.int .i32 (((lst (t60.at_ 1)).length : Nat) : Int))), (98, .v (.slice none 0 0)), (99, .v (.int .i32 (((lst (t60.at_ 1)).length : Nat) : Int)))] hS107 fun _ hS111 => ?_
            clear hS107
            refine of_op (rs_appendZ (d := 100) (t := 99) (tn := 21) (e := 106) (size := 3) (bytes := 48) (k := .i32) (kn := .i32) (q := (((lst (t60.at_ 1)).length : Nat) : Int)) (j := (lst (t60.at_ 1)).length) (.agg #[.string ByteArray.empty, .slice none 0 0, .map none]) hS111 (fun g109 c110 _ _ hg_g109 hcap_g109 hS112 => ?_) rfl hn_g109 (by have := e72_1; omega))
            clear hS111
            refine rs_rn [3] [] [(2, .v (.bool false)), (7, .p 0 0), (9, .v (.bool (decide (v ≥ 2)))), (10, .p 1 0), (12, .v (.slice (some ⟨g53, 0, none⟩) ((lst (T.at_ 0)).length) c54)), (13, .v (.int .i32 (((lst (T.at_ 0)).length : Nat) : Int))), (14, .v (.int .i32 ((k59 : Nat) : Int))), (16, .p 3 0), (19, .v (.slice (some ⟨g109, 0, none⟩) ((lst (t60.at_ 1)).length) c110)), (20, .v (.int .i32 (((lst (t60.at_ 1)).length : Nat) : Int)))] hS112 fun _ hS113 => wpOps_nil ?_
            clear hS112
            refine then_normal ?_
            refine wp_seq ?_
            refine rs_sr [(2, .v (.bool false)), (7, .p 0 0), (9, .v (.bool (decide (v ≥ 2)))), (10, .p 1 0), (12, .v (.slice (some ⟨g53, 0, none⟩) ((lst (T.at_ 0)).length) c54)), (13, .v (.int .i32 (((lst (T.at_ 0)).length : Nat) : Int))), (14, .v (.int .i32 ((k59 : Nat) : Int))), (16, .p 3 0), (19, .v (.slice (some ⟨g109, 0, none⟩) ((lst (t60.at_ 1)).length) c110)), (20, .v (.int .i32 (((lst (t60.at_ 1)).length : Nat) : Int))), (21, .v (.int .i32 0))] hS113 fun _ hS114 => ?_
            clear hS113
            refine then_normal ?_
            refine wp_block ?_
            have hmP120 := hS114.mv
            have hS121 := (hS114.cast (t := (lst (t60.at_ 1)).flatMap (tEAlterReplicaLogDirsRequestDirTopic v) ++ R73) rfl).pk (env' := [(2, .v (.bool false)), (7, .p 0 0), (9, .v (.bool (decide (v ≥ 2)))), (10, .p 1 0), (12, .v (.slice (some ⟨g53, 0, none⟩) ((lst (T.at_ 0)).length) c54)), (13, .v (.int .i32 (((lst (T.at_ 0)).length : Nat) : Int))), (14, .v (.int .i32 ((k59 : Nat) : Int))), (16, .p 3 0), (19, .v (.slice (some ⟨g109, 0, none⟩) ((lst (t60.at_ 1)).length) c110)), (20, .v (.int .i32 (((lst (t60.at_ 1)).length : Nat) : Int))), (21, .v (.int .i32 ((0 : Nat) : Int)))])
            clear hS114
            refine rs_loop (tb := [⟨bv, 0, [.int .i16 v, .slice none 0 0, .map none], true⟩, restO g53 3 (.agg #[.string ByteArray.empty, .slice none 0 0, .map none]) ((lst (T.at_ 0)).length) (k59 + 1), ⟨g53, k59 * 3, [.string (bs (t60.at_ 0).S), .slice none 0 0, .map none], true⟩]) (z := .agg #[.string ByteArray.empty, .slice none 0 0, .map none]) (cl := clAlterReplicaLogDirsRequestDirTopic) (ok := okAlterReplicaLogDirsRequestDirTopic) (rel := (rvAlterReplicaLogDirsRequestDirTopic v)) (L := lst (t60.at_ 1)) (size := 3) (tEAlterReplicaLogDirsRequestDirTopic v) R73 (fun k => [(2, .v (.bool false)), (7, .p 0 0), (9, .v (.bool (decide (v ≥ 2)))), (10, .p 1 0), (12, .v (.slice (some ⟨g53, 0, none⟩) ((lst (T.at_ 0)).length) c54)), (13, .v (.int .i32 (((lst (T.at_ 0)).length : Nat) : Int))), (14, .v (.int .i32 ((k59 : Nat) : Int))), (16, .p 3 0), (19, .v (.slice (some ⟨g109, 0, none⟩) ((lst (t60.at_ 1)).length) c110)), (20, .v (.int .i32 (((lst (t60.at_ 1)).length : Nat) : Int))), (21, .v (.int .i32 ((k : Nat) : Int)))]) hS121 mvAlterReplicaLogDirsRequestDirTopic (fun k115 t116 _ _ ht117 hk118 hS119 => ?_) (fun _ _ hS122 => ?_)
            ·
              obtain ⟨P123, hP124, hS125⟩ : ∃ P', (∀ w F, P' w F → (P67 w F ∧ doneF g109 3 clAlterReplicaLogDirsRequestDirTopic okAlterReplicaLogDirsRequestDirTopic (rvAlterReplicaLogDirsRequestDirTopic v) (lst (t60.at_ 1)) k115 w F)) ∧ RS w (fun b o => b = bv ∧ o < 3) F 182 b13 [⟨bv, 0, [.int .i16 v, .slice none 0 0, .map none], true⟩, restO g53 3 (.agg #[.string ByteArray.empty, .slice none 0 0, .map none]) ((lst (T.at_ 0)).length) (k59 + 1), ⟨g53, k59 * 3, [.string (bs (t60.at_ 0).S), .slice none 0 0, .map none], true⟩, restO g109 3 (.agg #[.string ByteArray.empty, .slice none 0 0, .map none]) ((lst (t60.at_ 1)).length) k115] [(2, .v (.bool false)), (7, .p 0 0), (9, .v (.bool (decide (v ≥ 2)))), (10, .p 1 0), (12, .v (.slice (some ⟨g53, 0, none⟩) ((lst (T.at_ 0)).length) c54)), (13, .v (.int .i32 (((lst (T.at_ 0)).length : Nat) : Int))), (14, .v (.int .i32 ((k59 : Nat) : Int))), (16, .p 3 0), (19, .v (.slice (some ⟨g109, 0, none⟩) ((lst (t60.at_ 1)).length) c110)), (20, .v (.int .i32 (((lst (t60.at_ 1)).length : Nat) : Int))), (21, .v (.int .i32 ((k115 : Nat) : Int)))] P' ((tEAlterReplicaLogDirsRequestDirTopic v) t116 ++ (((lst (t60.at_ 1)).drop (k115 + 1)).flatMap (tEAlterReplicaLogDirsRequestDirTopic v) ++ R73)) _ _ := ⟨_, fun _ _ h => h, hS119⟩
              clear hS119
              obtain ⟨R126, hR127⟩ : ∃ R, R = ((lst (t60.at_ 1)).drop (k115 + 1)).flatMap (tEAlterReplicaLogDirsRequestDirTopic v) ++ R73 := ⟨_, rfl⟩
              have e128 := (e72_1e t116 (List.mem_of_getElem? ht117))
              have e128r := (ranged_lst (ranged_at e72r 1) t116 (List.mem_of_getElem? ht117))
              unfold canAlterReplicaLogDirsRequestDirTopic at e128
              obtain ⟨e128_0, e128_1, e128_U, _⟩ := e128
              obtain ⟨R129, hR130⟩ : ∃ R, R = (if (decide (v ≥ 2)) = true then (uv t116.U.length) ++ (tagsR t116.U) else []) ++ R126 := ⟨_, rfl⟩
              obtain ⟨R131, hR132⟩ : ∃ R, R = ((if (decide (v ≥ 2)) = true then (uv ((lst (t116.at_ 1)).length + 1)) else (be 4 (lst (t116.at_ 1)).length)) ++ ((lst (t116.at_ 1)).flatMap (fun E => be 4 (IntKind.i32.wrap E.N)))) ++ R129 := ⟨_, rfl⟩
              obtain ⟨R133, hR134⟩ : ∃ R, R = (if (decide (v ≥ 2)) = true then (uv ((t116.at_ 0).S.length + 1) ++ (t116.at_ 0).S) else (be 2 (t116.at_ 0).S.length ++ (t116.at_ 0).S)) ++ R131 := ⟨_, rfl⟩
              have hS135 := hS125.cast (t := R133) (by rw [hR134, hR132, hR130, ← hR127]; unfold tEAlterReplicaLogDirsRequestDirTopic; simp only [List.append_assoc])
              clear hS125
              refine wp_seq ?_
              refine wp_seq ?_
              refine rs_sr [(2, .v (.bool false)), (7, .p 0 0), (9, .v (.bool (decide (v ≥ 2)))), (10, .p 1 0), (12, .v (.slice (some ⟨g53, 0, none⟩) ((lst (T.at_ 0)).length) c54)), (13, .v (.int .i32 (((lst (T.at_ 0)).length : Nat) : Int))), (14, .v (.int .i32 ((k59 : Nat) : Int))), (16, .p 3 0), (19, .v (.slice (some ⟨g109, 0, none⟩) ((lst (t60.at_ 1)).length) c110)), (20, .v (.int .i32 (((lst (t60.at_ 1)).length : Nat) : Int))), (21, .v (.int .i32 ((k115 : Nat) : Int))), (103, .v (.bool (decide (((k115 : Nat) : Int) < (((lst (t60.at_ 1)).length : Nat) : Int)))))] hS135 fun _ hS136 => then_normal ?_
              clear hS135
              refine cond_true hS136.env_ (b := decide (((k115 : Nat) : Int) < (((lst (t60.at_ 1)).length : Nat) : Int))) (by kernel_rfl) (decide_eq_true (by omega)) ?_
              refine wp_skip ?_
              refine then_normal ?_
              refine wp_seq ?_
              refine wp_block ?_
              refine wp_seq ?_
              refine rs_elem (t := 99) (e := 106) (size := 3) (bytes := 48) (d := 108) (tb := [⟨bv, 0, [.int .i16 v, .slice none 0 0, .map none], true⟩, restO g53 3 (.agg #[.string ByteArray.empty, .slice none 0 0, .map none]) ((lst (T.at_ 0)).length) (k59 + 1), ⟨g53, k59 * 3, [.string (bs (t60.at_ 0).S), .slice none 0 0, .map none], true⟩]) (z := .agg #[.string ByteArray.empty, .slice none 0 0, .map none]) [(2, .v (.bool false)), (7, .p 0 0), (9, .v (.bool (decide (v ≥ 2)))), (10, .p 1 0), (12, .v (.slice (some ⟨g53, 0, none⟩) ((lst (T.at_ 0)).length) c54)), (13, .v (.int .i32 (((lst (T.at_ 0)).length : Nat) : Int))), (14, .v (.int .i32 ((k59 : Nat) : Int))), (16, .p 3 0), (19, .v (.slice (some ⟨g109, 0, none⟩) ((lst (t60.at_ 1)).length) c110)), (20, .v (.int .i32 (((lst (t60.at_ 1)).length : Nat) : Int))), (21, .v (.int .i32 ((k115 : Nat) : Int))), (106, .v (.slice (some ⟨g109, 0, none⟩) ((lst (t60.at_ 1)).length) c110)), (107, .v (.int .i32 ((k115 : Nat) : Int)))] [(2, .v (.bool false)), (7, .p 0 0), (9, .v (.bool (decide (v ≥ 2)))), (10, .p 1 0), (12, .v (.slice (some ⟨g53, 0, none⟩) ((lst (T.at_ 0)).length) c54)), (13, .v (.int .i32 (((lst (T.at_ 0)).length : Nat) : Int))), (14, .v (.int .i32 ((k59 : Nat) : Int))), (16, .p 3 0), (19, .v (.slice (some ⟨g109, 0, none⟩) ((lst (t60.at_ 1)).length) c110)), (20, .v (.int .i32 (((lst (t60.at_ 1)).length : Nat) : Int))), (21, .v (.int .i32 ((k115 : Nat) : Int))), (22, .p 5 0)] 2 hS136 hk118 rfl (by kernel_rfl) fun _ hS137 => ?_
              clear hS136
              have hS138 := hS137.tbEq (tb' := [⟨bv, 0, [.int .i16 v, .slice none 0 0, .map none], true⟩, restO g53 3 (.agg #[.string ByteArray.empty, .slice none 0 0, .map none]) ((lst (T.at_ 0)).length) (k59 + 1), ⟨g53, k59 * 3, [.string (bs (t60.at_ 0).S), .slice none 0 0, .map none], true⟩, restO g109 3 (.agg #[.string ByteArray.empty, .slice none 0 0, .map none]) ((lst (t60.at_ 1)).length) (k115 + 1), ⟨g109, k115 * 3, [.string ByteArray.empty, .slice none 0 0, .map none], true⟩]) rfl
              clear hS137
              refine then_normal ?_
              refine wp_seq ?_
              refine go_region [0, 1] (by kernel_rfl) ?_
              refine rs_rn [0] [1] [(2, .v (.bool false)), (7, .p 0 0), (9, .v (.bool (decide (v ≥ 2)))), (10, .p 1 0), (12, .v (.slice (some ⟨g53, 0, none⟩) ((lst (T.at_ 0)).length) c54)), (13, .v (.int .i32 (((lst (T.at_ 0)).length : Nat) : Int))), (14, .v (.int .i32 ((k59 : Nat) : Int))), (16, .p 3 0), (19, .v (.slice (some ⟨g109, 0, none⟩) ((lst (t60.at_ 1)).length) c110)), (20, .v (.int .i32 (((lst (t60.at_ 1)).length : Nat) : Int))), (21, .v (.int .i32 ((k115 : Nat) : Int))), (22, .p 5 0), (109, .p 5 0)] hS138 fun _ hS139 => ?_
              clear hS138
              refine of_op (rs_nop (d := 110) (vs := [.pointer (some ⟨g109, k115 * 3, none⟩)]) hS139 (fun _ => nop152 _ _ _) Tryz.call152 fun _ hS140 => ?_)
              clear hS139
              refine wpOps_nil ?_
              have hS141 := hS140.pk (env' := [(2, .v (.bool false)), (7, .p 0 0), (9, .v (.bool (decide (v ≥ 2)))), (10, .p 1 0), (12, .v (.slice (some ⟨g53, 0, none⟩) ((lst (T.at_ 0)).length) c54)), (13, .v (.int .i32 (((lst (T.at_ 0)).length : Nat) : Int))), (14, .v (.int .i32 ((k59 : Nat) : Int))), (16, .p 3 0), (19, .v (.slice (some ⟨g109, 0, none⟩) ((lst (t60.at_ 1)).length) c110)), (20, .v (.int .i32 (((lst (t60.at_ 1)).length : Nat) : Int))), (21, .v (.int .i32 ((k115 : Nat) : Int))), (22, .p 5 0)])
              clear hS140
              refine then_normal ?_
              refine wp_seq ?_
              refine rs_sr [(2, .v (.bool false)), (7, .p 0 0), (9, .v (.bool (decide (v ≥ 2)))), (10, .p 1 0), (12, .v (.slice (some ⟨g53, 0, none⟩) ((lst (T.at_ 0)).length) c54)), (13, .v (.int .i32 (((lst (T.at_ 0)).length : Nat) : Int))), (14, .v (.int .i32 ((k59 : Nat) : Int))), (16, .p 3 0), (19, .v (.slice (some ⟨g109, 0, none⟩) ((lst (t60.at_ 1)).length) c110)), (20, .v (.int .i32 (((lst (t60.at_ 1)).length : Nat) : Int))), (21, .v (.int .i32 ((k115 : Nat) : Int))), (23, .p 5 0)] hS141 fun _ hS142 => ?_
              clear hS141
              refine then_normal ?_
              refine wp_seq ?_
              refine wp_seq ?_
              refine rs_sr [(2, .v (.bool false)), (7, .p 0 0), (9, .v (.bool (decide (v ≥ 2)))), (10, .p 1 0), (12, .v (.slice (some ⟨g53, 0, none⟩) ((lst (T.at_ 0)).length) c54)), (13, .v (.int .i32 (((lst (T.at_ 0)).length : Nat) : Int))), (14, .v (.int .i32 ((k59 : Nat) : Int))), (16, .p 3 0), (19, .v (.slice (some ⟨g109, 0, none⟩) ((lst (t60.at_ 1)).length) c110)), (20, .v (.int .i32 (((lst (t60.at_ 1)).length : Nat) : Int))), (21, .v (.int .i32 ((k115 : Nat) : Int))), (23, .p 5 0)] hS142 fun _ hS143 => ?_
              clear hS142
              refine then_normal ?_
              refine wp_seq ?_
              refine wp_seq ?_
              refine rs_sr [(2, .v (.bool false)), (7, .p 0 0), (9, .v (.bool (decide (v ≥ 2)))), (10, .p 1 0), (12, .v (.slice (some ⟨g53, 0, none⟩) ((lst (T.at_ 0)).length) c54)), (13, .v (.int .i32 (((lst (T.at_ 0)).length : Nat) : Int))), (14, .v (.int .i32 ((k59 : Nat) : Int))), (16, .p 3 0), (19, .v (.slice (some ⟨g109, 0, none⟩) ((lst (t60.at_ 1)).length) c110)), (20, .v (.int .i32 (((lst (t60.at_ 1)).length : Nat) : Int))), (21, .v (.int .i32 ((k115 : Nat) : Int))), (23, .p 5 0), (112, .v (.bool false))] hS143 fun _ hS144 => then_normal ?_
              clear hS143
              refine cond_false hS144.env_ (b := false) (by kernel_rfl) (rfl) ?_
              have hS145 := hS144.cast hR134
              clear hS144
              refine rs_alt0 (d1 := 117) (d2 := 118) [(2, .v (.bool false)), (7, .p 0 0), (9, .v (.bool (decide (v ≥ 2)))), (10, .p 1 0), (12, .v (.slice (some ⟨g53, 0, none⟩) ((lst (T.at_ 0)).length) c54)), (13, .v (.int .i32 (((lst (T.at_ 0)).length : Nat) : Int))), (14, .v (.int .i32 ((k59 : Nat) : Int))), (16, .p 3 0), (19, .v (.slice (some ⟨g109, 0, none⟩) ((lst (t60.at_ 1)).length) c110)), (20, .v (.int .i32 (((lst (t60.at_ 1)).length : Nat) : Int))), (21, .v (.int .i32 ((k115 : Nat) : Int))), (23, .p 5 0), (116, .v (.bool (decide (v ≥ 2))))] [(2, .v (.bool false)), (7, .p 0 0), (9, .v (.bool (decide (v ≥ 2)))), (10, .p 1 0), (12, .v (.slice (some ⟨g53, 0, none⟩) ((lst (T.at_ 0)).length) c54)), (13, .v (.int .i32 (((lst (T.at_ 0)).length : Nat) : Int))), (14, .v (.int .i32 ((k59 : Nat) : Int))), (16, .p 3 0), (19, .v (.slice (some ⟨g109, 0, none⟩) ((lst (t60.at_ 1)).length) c110)), (20, .v (.int .i32 (((lst (t60.at_ 1)).length : Nat) : Int))), (21, .v (.int .i32 ((k115 : Nat) : Int))), (23, .p 5 0), (24, .v (.string (bs (t116.at_ 0).S)))] hS145 (pCompactString (t116.at_ 0).S e128_0 _) Tryz.call150 (pString (t116.at_ 0).S e128_0 _) Tryz.call151 fun _ _ hS147 => ?_
              clear hS145
              refine then_normal ?_
              refine rs_sto [⟨bv, 0, [.int .i16 v, .slice none 0 0, .map none], true⟩, restO g53 3 (.agg #[.string ByteArray.empty, .slice none 0 0, .map none]) ((lst (T.at_ 0)).length) (k59 + 1), ⟨g53, k59 * 3, [.string (bs (t60.at_ 0).S), .slice none 0 0, .map none], true⟩, restO g109 3 (.agg #[.string ByteArray.empty, .slice none 0 0, .map none]) ((lst (t60.at_ 1)).length) (k115 + 1), ⟨g109, k115 * 3, [.string (bs (t116.at_ 0).S), .slice none 0 0, .map none], true⟩] 4 [(2, .v (.bool false)), (7, .p 0 0), (9, .v (.bool (decide (v ≥ 2)))), (10, .p 1 0), (12, .v (.slice (some ⟨g53, 0, none⟩) ((lst (T.at_ 0)).length) c54)), (13, .v (.int .i32 (((lst (T.at_ 0)).length : Nat) : Int))), (14, .v (.int .i32 ((k59 : Nat) : Int))), (16, .p 3 0), (19, .v (.slice (some ⟨g109, 0, none⟩) ((lst (t60.at_ 1)).length) c110)), (20, .v (.int .i32 (((lst (t60.at_ 1)).length : Nat) : Int))), (21, .v (.int .i32 ((k115 : Nat) : Int))), (23, .p 5 0)] hS147 fun _ _ hS148 => ?_
              clear hS147
              refine then_normal ?_
              refine wp_seq ?_
              refine wp_seq ?_
              refine rs_sr [(2, .v (.bool false)), (7, .p 0 0), (9, .v (.bool (decide (v ≥ 2)))), (10, .p 1 0), (12, .v (.slice (some ⟨g53, 0, none⟩) ((lst (T.at_ 0)).length) c54)), (13, .v (.int .i32 (((lst (T.at_ 0)).length : Nat) : Int))), (14, .v (.int .i32 ((k59 : Nat) : Int))), (16, .p 3 0), (19, .v (.slice (some ⟨g109, 0, none⟩) ((lst (t60.at_ 1)).length) c110)), (20, .v (.int .i32 (((lst (t60.at_ 1)).length : Nat) : Int))), (21, .v (.int .i32 ((k115 : Nat) : Int))), (23, .p 5 0), (25, .v (.slice none 0 0))] hS148 fun _ hS149 => ?_
              clear hS148
              refine then_normal ?_
              refine wp_seq ?_
              refine rs_sr [(2, .v (.bool false)), (7, .p 0 0), (9, .v (.bool (decide (v ≥ 2)))), (10, .p 1 0), (12, .v (.slice (some ⟨g53, 0, none⟩) ((lst (T.at_ 0)).length) c54)), (13, .v (.int .i32 (((lst (T.at_ 0)).length : Nat) : Int))), (14, .v (.int .i32 ((k59 : Nat) : Int))), (16, .p 3 0), (19, .v (.slice (some ⟨g109, 0, none⟩) ((lst (t60.at_ 1)).length) c110)), (20, .v (.int .i32 (((lst (t60.at_ 1)).length : Nat) : Int))), (21, .v (.int .i32 ((k115 : Nat) : Int))), (23, .p 5 0), (26, .v (.slice none 0 0))] hS149 fun _ hS150 => ?_
              clear hS149
              refine then_normal ?_
              refine wp_seq ?_
              refine rs_sr [(2, .v (.bool false)), (7, .p 0 0), (9, .v (.bool (decide (v ≥ 2)))), (10, .p 1 0), (12, .v (.slice (some ⟨g53, 0, none⟩) ((lst (T.at_ 0)).length) c54)), (13, .v (.int .i32 (((lst (T.at_ 0)).length : Nat) : Int))), (14, .v (.int .i32 ((k59 : Nat) : Int))), (16, .p 3 0), (19, .v (.slice (some ⟨g109, 0, none⟩) ((lst (t60.at_ 1)).length) c110)), (20, .v (.int .i32 (((lst (t60.at_ 1)).length : Nat) : Int))), (21, .v (.int .i32 ((k115 : Nat) : Int))), (23, .p 5 0), (26, .v (.slice none 0 0))] hS150 fun _ hS151 => ?_
              clear hS150
              refine then_normal ?_
              refine wp_seq ?_
              have hS152 := hS151.cast hR132
              clear hS151
              have hS153 := hS152.cast (t := (if (decide (v ≥ 2)) = true then (uv ((lst (t116.at_ 1)).length + 1)) else (be 4 (lst (t116.at_ 1)).length)) ++ (((lst (t116.at_ 1)).flatMap (fun E => be 4 (IntKind.i32.wrap E.N))) ++ R129)) (by rw [List.append_assoc])
              clear hS152
              refine rs_alt0 (d1 := 129) (d2 := 130) [(2, .v (.bool false)), (7, .p 0 0), (9, .v (.bool (decide (v ≥ 2)))), (10, .p 1 0), (12, .v (.slice (some ⟨g53, 0, none⟩) ((lst (T.at_ 0)).length) c54)), (13, .v (.int .i32 (((lst (T.at_ 0)).length : Nat) : Int))), (14, .v (.int .i32 ((k59 : Nat) : Int))), (16, .p 3 0), (19, .v (.slice (some ⟨g109, 0, none⟩) ((lst (t60.at_ 1)).length) c110)), (20, .v (.int .i32 (((lst (t60.at_ 1)).length : Nat) : Int))), (21, .v (.int .i32 ((k115 : Nat) : Int))), (23, .p 5 0), (26, .v (.slice none 0 0)), (128, .v (.bool (decide (v ≥ 2))))] [(2, .v (.bool false)), (7, .p 0 0), (9, .v (.bool (decide (v ≥ 2)))), (10, .p 1 0), (12, .v (.slice (some ⟨g53, 0, none⟩) ((lst (T.at_ 0)).length) c54)), (13, .v (.int .i32 (((lst (T.at_ 0)).length : Nat) : Int))), (14, .v (.int .i32 ((k59 : Nat) : Int))), (16, .p 3 0), (19, .v (.slice (some ⟨g109, 0, none⟩) ((lst (t60.at_ 1)).length) c110)), (20, .v (.int .i32 (((lst (t60.at_ 1)).length : Nat) : Int))), (21, .v (.int .i32 ((k115 : Nat) : Int))), (23, .p 5 0), (26, .v (.slice none 0 0)), (27, .v (.int .i32 (((lst (t116.at_ 1)).length : Nat) : Int)))] hS153 (pCompactArrayLen ((lst (t116.at_ 1)).length) e128_1 _ (flat_ge' (fun E => pos_be (by decide)) _)) Tryz.call143 (pArrayLen ((lst (t116.at_ 1)).length) e128_1 _ (flat_ge' (fun E => pos_be (by decide)) _)) Tryz.call144 fun _ _ hS155 => ?_
              clear hS153
              refine then_normal ?_
              refine wp_seq ?_
              refine wp_seq ?_
              refine rs_ok (d := 131) [(2, .v (.bool false)), (7, .p 0 0), (9, .v (.bool (decide (v ≥ 2)))), (10, .p 1 0), (12, .v (.slice (some ⟨g53, 0, none⟩) ((lst (T.at_ 0)).length) c54)), (13, .v (.int .i32 (((lst (T.at_ 0)).length : Nat) : Int))), (14, .v (.int .i32 ((k59 : Nat) : Int))), (16, .p 3 0), (19, .v (.slice (some ⟨g109, 0, none⟩) ((lst (t60.at_ 1)).length) c110)), (20, .v (.int .i32 (((lst (t60.at_ 1)).length : Nat) : Int))), (21, .v (.int .i32 ((k115 : Nat) : Int))), (23, .p 5 0), (26, .v (.slice none 0 0)), (27, .v (.int .i32 (((lst (t116.at_ 1)).length : Nat) : Int))), (132, .v (.bool false))] hS155 (pOk _) Tryz.call145 fun _ _ hS157 => ?_
              clear hS155
              refine then_normal ?_
              refine cond_false hS157.env_ (b := false) (by kernel_rfl) (rfl) ?_
              refine wp_skip ?_
              refine then_normal ?_
              refine wp_seq ?_
              refine rs_cut0 (t := 104) (e := 21) (size := 1) (bytes := 4) (d := 135) (A0 := none) (m := 0) (cp := 0) [(2, .v (.bool false)), (7, .p 0 0), (9, .v (.bool (decide (v ≥ 2)))), (10, .p 1 0), (12, .v (.slice (some ⟨g53, 0, none⟩) ((lst (T.at_ 0)).length) c54)), (13, .v (.int .i32 (((lst (T.at_ 0)).length : Nat) : Int))), (14, .v (.int .i32 ((k59 : Nat) : Int))), (16, .p 3 0), (19, .v (.slice (some ⟨g109, 0, none⟩) ((lst (t60.at_ 1)).length) c110)), (20, .v (.int .i32 (((lst (t60.at_ 1)).length : Nat) : Int))), (21, .v (.int .i32 ((k115 : Nat) : Int))), (23, .p 5 0), (27, .v (.int .i32 (((lst (t116.at_ 1)).length : Nat) : Int))), (134, .v (.slice none 0 0))] [(2, .v (.bool false)), (7, .p 0 0), (9, .v (.bool (decide (v ≥ 2)))), (10, .p 1 0), (12, .v (.slice (some ⟨g53, 0, none⟩) ((lst (T.at_ 0)).length) c54)), (13, .v (.int .i32 (((lst (T.at_ 0)).length : Nat) : Int))), (14, .v (.int .i32 ((k59 : Nat) : Int))), (16, .p 3 0), (19, .v (.slice (some ⟨g109, 0, none⟩) ((lst (t60.at_ 1)).length) c110)), (20, .v (.int .i32 (((lst (t60.at_ 1)).length : Nat) : Int))), (21, .v (.int .i32 ((k115 : Nat) : Int))), (23, .p 5 0), (26, .v (.slice none 0 0)), (27, .v (.int .i32 (((lst (t116.at_ 1)).length : Nat) : Int)))] 1 hS157 fun _ hS158 => ?_
              clear hS157
              refine then_normal ?_
              refine wp_join2 (Mid := fun a_ w_ => ∃ (D159 : DV) (P' : FactW), (∀ w F, P' w F → P123 w F ∧ (Slots w F 1 D159.A D159.c D159.l (fun i => [.int .i32 ((D159.f i).n)]) ∧ D159.l ≤ 1000000 ∧ ∀ i, i < D159.l → True) ∧ (D159.l = (lst (t116.at_ 1)).length ∧ ∀ i, i < D159.l → (D159.f i).n = IntKind.i32.wrap ((lst (t116.at_ 1)).getD i .zero).N)) ∧ RS w (fun b o => b = bv ∧ o < 3) F 182 b13 [⟨bv, 0, [.int .i16 v, .slice none 0 0, .map none], true⟩, restO g53 3 (.agg #[.string ByteArray.empty, .slice none 0 0, .map none]) ((lst (T.at_ 0)).length) (k59 + 1), ⟨g53, k59 * 3, [.string (bs (t60.at_ 0).S), .slice none 0 0, .map none], true⟩, restO g109 3 (.agg #[.string ByteArray.empty, .slice none 0 0, .map none]) ((lst (t60.at_ 1)).length) (k115 + 1), ⟨g109, k115 * 3, [.string (bs (t116.at_ 0).S), .slice none 0 0, .map none], true⟩] [(2, .v (.bool false)), (7, .p 0 0), (9, .v (.bool (decide (v ≥ 2)))), (10, .p 1 0), (12, .v (.slice (some ⟨g53, 0, none⟩) ((lst (T.at_ 0)).length) c54)), (13, .v (.int .i32 (((lst (T.at_ 0)).length : Nat) : Int))), (14, .v (.int .i32 ((k59 : Nat) : Int))), (16, .p 3 0), (19, .v (.slice (some ⟨g109, 0, none⟩) ((lst (t60.at_ 1)).length) c110)), (20, .v (.int .i32 (((lst (t60.at_ 1)).length : Nat) : Int))), (21, .v (.int .i32 ((k115 : Nat) : Int))), (23, .p 5 0), (26, .v (.slice D159.A D159.l D159.c))] P' R129 a_ w_) ?_ ?_
              ·
                refine wp_seq ?_
                refine rs_sr [(2, .v (.bool false)), (7, .p 0 0), (9, .v (.bool (decide (v ≥ 2)))), (10, .p 1 0), (12, .v (.slice (some ⟨g53, 0, none⟩) ((lst (T.at_ 0)).length) c54)), (13, .v (.int .i32 (((lst (T.at_ 0)).length : Nat) : Int))), (14, .v (.int .i32 ((k59 : Nat) : Int))), (16, .p 3 0), (19, .v (.slice (some ⟨g109, 0, none⟩) ((lst (t60.at_ 1)).length) c110)), (20, .v (.int .i32 (((lst (t60.at_ 1)).length : Nat) : Int))), (21, .v (.int .i32 ((k115 : Nat) : Int))), (23, .p 5 0), (26, .v (.slice none 0 0)), (27, .v (.int .i32 (((lst (t116.at_ 1)).length : Nat) : Int))), (137, .v (.bool (decide ((((lst (t116.at_ 1)).length : Nat) : Int) > 0))))] hS158 fun _ hS163 => then_normal ?_
                clear hS158
                refine cond_of hS163.env_ (b := decide ((((lst (t116.at_ 1)).length : Nat) : Int) > 0)) (by kernel_rfl) (fun hc164 => ?_) (fun hc164 => ?_)
                ·
                  have hn_g165 : 0 < (lst (t116.at_ 1)).length := by have h_ := of_decide_eq_true hc164; omega
                  refine go_region [0, 1, 2, 3] (by kernel_rfl) ?_
                  refine rs_rn [0, 1] [2, 3] [(2, .v (.bool false)), (7, .p 0 0), (9, .v (.bool (decide (v ≥ 2)))), (10, .p 1 0), (12, .v (.slice (some ⟨g53, 0, none⟩) ((lst (T.at_ 0)).length) c54)), (13, .v (.int .i32 (((lst (T.at_ 0)).length : Nat) : Int))), (14, .v (.int .i32 ((k59 : Nat) : Int))), (16, .p 3 0), (19, .v (.slice (some ⟨g109, 0, none⟩) ((lst (t60.at_ 1)).length) c110)), (20, .v (.int .i32 (((lst (t60.at_ 1)).length : Nat) : Int))), (21, .v (.int .i32 ((k115 : Nat) : Int))), (23, .p 5 0), (27, .v (.int .i32 (((lst (t116.at_ 1)).length : Nat) : Int))), (138, .v (.slice none 0 0)), (139, .v (.int .i32 (((lst (t116.at_ 1)).length : Nat) : Int)))] hS163 fun _ hS167 => ?_
                  clear hS163
                  refine of_op (rs_appendZ (d := 140) (t := 104) (tn := 21) (e := 21) (size := 1) (bytes := 4) (k := .i32) (kn := .i32) (q := (((lst (t116.at_ 1)).length : Nat) : Int)) (j := (lst (t116.at_ 1)).length) (.int .i32 0) hS167 (fun g165 c166 _ _ hg_g165 hcap_g165 hS168 => ?_) rfl hn_g165 (by have := e128_1; omega))
                  clear hS167
                  refine rs_rn [3] [] [(2, .v (.bool false)), (7, .p 0 0), (9, .v (.bool (decide (v ≥ 2)))), (10, .p 1 0), (12, .v (.slice (some ⟨g53, 0, none⟩) ((lst (T.at_ 0)).length) c54)), (13, .v (.int .i32 (((lst (T.at_ 0)).length : Nat) : Int))), (14, .v (.int .i32 ((k59 : Nat) : Int))), (16, .p 3 0), (19, .v (.slice (some ⟨g109, 0, none⟩) ((lst (t60.at_ 1)).length) c110)), (20, .v (.int .i32 (((lst (t60.at_ 1)).length : Nat) : Int))), (21, .v (.int .i32 ((k115 : Nat) : Int))), (23, .p 5 0), (26, .v (.slice (some ⟨g165, 0, none⟩) ((lst (t116.at_ 1)).length) c166)), (27, .v (.int .i32 (((lst (t116.at_ 1)).length : Nat) : Int)))] hS168 fun _ hS169 => wpOps_nil ?_
                  clear hS168
                  refine then_normal ?_
                  refine wp_seq ?_
                  refine rs_sr [(2, .v (.bool false)), (7, .p 0 0), (9, .v (.bool (decide (v ≥ 2)))), (10, .p 1 0), (12, .v (.slice (some ⟨g53, 0, none⟩) ((lst (T.at_ 0)).length) c54)), (13, .v (.int .i32 (((lst (T.at_ 0)).length : Nat) : Int))), (14, .v (.int .i32 ((k59 : Nat) : Int))), (16, .p 3 0), (19, .v (.slice (some ⟨g109, 0, none⟩) ((lst (t60.at_ 1)).length) c110)), (20, .v (.int .i32 (((lst (t60.at_ 1)).length : Nat) : Int))), (21, .v (.int .i32 ((k115 : Nat) : Int))), (23, .p 5 0), (26, .v (.slice (some ⟨g165, 0, none⟩) ((lst (t116.at_ 1)).length) c166)), (27, .v (.int .i32 (((lst (t116.at_ 1)).length : Nat) : Int))), (28, .v (.int .i32 0))] hS169 fun _ hS170 => ?_
                  clear hS169
                  refine then_normal ?_
                  refine wp_block ?_
                  have hmP176 := hS170.mv
                  have hS177 := (hS170.cast (t := (lst (t116.at_ 1)).flatMap (fun E => be 4 (IntKind.i32.wrap E.N)) ++ R129) rfl).pk (env' := [(2, .v (.bool false)), (7, .p 0 0), (9, .v (.bool (decide (v ≥ 2)))), (10, .p 1 0), (12, .v (.slice (some ⟨g53, 0, none⟩) ((lst (T.at_ 0)).length) c54)), (13, .v (.int .i32 (((lst (T.at_ 0)).length : Nat) : Int))), (14, .v (.int .i32 ((k59 : Nat) : Int))), (16, .p 3 0), (19, .v (.slice (some ⟨g109, 0, none⟩) ((lst (t60.at_ 1)).length) c110)), (20, .v (.int .i32 (((lst (t60.at_ 1)).length : Nat) : Int))), (21, .v (.int .i32 ((k115 : Nat) : Int))), (23, .p 5 0), (26, .v (.slice (some ⟨g165, 0, none⟩) ((lst (t116.at_ 1)).length) c166)), (27, .v (.int .i32 (((lst (t116.at_ 1)).length : Nat) : Int))), (28, .v (.int .i32 ((0 : Nat) : Int)))])
                  clear hS170
                  refine rs_loop (tb := [⟨bv, 0, [.int .i16 v, .slice none 0 0, .map none], true⟩, restO g53 3 (.agg #[.string ByteArray.empty, .slice none 0 0, .map none]) ((lst (T.at_ 0)).length) (k59 + 1), ⟨g53, k59 * 3, [.string (bs (t60.at_ 0).S), .slice none 0 0, .map none], true⟩, restO g109 3 (.agg #[.string ByteArray.empty, .slice none 0 0, .map none]) ((lst (t60.at_ 1)).length) (k115 + 1), ⟨g109, k115 * 3, [.string (bs (t116.at_ 0).S), .slice none 0 0, .map none], true⟩]) (z := .int .i32 0) (cl := (fun d => [.int .i32 d.n])) (ok := okNone) (rel := (fun d t => d.n = IntKind.i32.wrap t.N)) (L := lst (t116.at_ 1)) (size := 1) (fun E => be 4 (IntKind.i32.wrap E.N)) R129 (fun k => [(2, .v (.bool false)), (7, .p 0 0), (9, .v (.bool (decide (v ≥ 2)))), (10, .p 1 0), (12, .v (.slice (some ⟨g53, 0, none⟩) ((lst (T.at_ 0)).length) c54)), (13, .v (.int .i32 (((lst (T.at_ 0)).length : Nat) : Int))), (14, .v (.int .i32 ((k59 : Nat) : Int))), (16, .p 3 0), (19, .v (.slice (some ⟨g109, 0, none⟩) ((lst (t60.at_ 1)).length) c110)), (20, .v (.int .i32 (((lst (t60.at_ 1)).length : Nat) : Int))), (21, .v (.int .i32 ((k115 : Nat) : Int))), (23, .p 5 0), (26, .v (.slice (some ⟨g165, 0, none⟩) ((lst (t116.at_ 1)).length) c166)), (27, .v (.int .i32 (((lst (t116.at_ 1)).length : Nat) : Int))), (28, .v (.int .i32 ((k : Nat) : Int)))]) hS177 mvNone (fun k171 t172 _ _ ht173 hk174 hS175 => ?_) (fun _ _ hS178 => ?_)
                  ·
                    obtain ⟨P179, hP180, hS181⟩ : ∃ P', (∀ w F, P' w F → (P123 w F ∧ doneF g165 1 (fun d => [.int .i32 d.n]) okNone (fun d t => d.n = IntKind.i32.wrap t.N) (lst (t116.at_ 1)) k171 w F)) ∧ RS w (fun b o => b = bv ∧ o < 3) F 182 b13 [⟨bv, 0, [.int .i16 v, .slice none 0 0, .map none], true⟩, restO g53 3 (.agg #[.string ByteArray.empty, .slice none 0 0, .map none]) ((lst (T.at_ 0)).length) (k59 + 1), ⟨g53, k59 * 3, [.string (bs (t60.at_ 0).S), .slice none 0 0, .map none], true⟩, restO g109 3 (.agg #[.string ByteArray.empty, .slice none 0 0, .map none]) ((lst (t60.at_ 1)).length) (k115 + 1), ⟨g109, k115 * 3, [.string (bs (t116.at_ 0).S), .slice none 0 0, .map none], true⟩, restO g165 1 (.int .i32 0) ((lst (t116.at_ 1)).length) k171] [(2, .v (.bool false)), (7, .p 0 0), (9, .v (.bool (decide (v ≥ 2)))), (10, .p 1 0), (12, .v (.slice (some ⟨g53, 0, none⟩) ((lst (T.at_ 0)).length) c54)), (13, .v (.int .i32 (((lst (T.at_ 0)).length : Nat) : Int))), (14, .v (.int .i32 ((k59 : Nat) : Int))), (16, .p 3 0), (19, .v (.slice (some ⟨g109, 0, none⟩) ((lst (t60.at_ 1)).length) c110)), (20, .v (.int .i32 (((lst (t60.at_ 1)).length : Nat) : Int))), (21, .v (.int .i32 ((k115 : Nat) : Int))), (23, .p 5 0), (26, .v (.slice (some ⟨g165, 0, none⟩) ((lst (t116.at_ 1)).length) c166)), (27, .v (.int .i32 (((lst (t116.at_ 1)).length : Nat) : Int))), (28, .v (.int .i32 ((k171 : Nat) : Int)))] P' ((fun E => be 4 (IntKind.i32.wrap E.N)) t172 ++ (((lst (t116.at_ 1)).drop (k171 + 1)).flatMap (fun E => be 4 (IntKind.i32.wrap E.N)) ++ R129)) _ _ := ⟨_, fun _ _ h => h, hS175⟩
                    clear hS175
                    obtain ⟨R182, hR183⟩ : ∃ R, R = ((lst (t116.at_ 1)).drop (k171 + 1)).flatMap (fun E => be 4 (IntKind.i32.wrap E.N)) ++ R129 := ⟨_, rfl⟩
                    have hS184 := hS181.cast (t := (fun E => be 4 (IntKind.i32.wrap E.N)) t172 ++ R182) (by rw [hR183])
                    clear hS181
                    have hS185 := hS184.cast (t := (be 4 (IntKind.i32.wrap t172.N)) ++ R182) rfl
                    clear hS184
                    refine wp_seq ?_
                    refine wp_seq ?_
                    refine rs_sr [(2, .v (.bool false)), (7, .p 0 0), (9, .v (.bool (decide (v ≥ 2)))), (10, .p 1 0), (12, .v (.slice (some ⟨g53, 0, none⟩) ((lst (T.at_ 0)).length) c54)), (13, .v (.int .i32 (((lst (T.at_ 0)).length : Nat) : Int))), (14, .v (.int .i32 ((k59 : Nat) : Int))), (16, .p 3 0), (19, .v (.slice (some ⟨g109, 0, none⟩) ((lst (t60.at_ 1)).length) c110)), (20, .v (.int .i32 (((lst (t60.at_ 1)).length : Nat) : Int))), (21, .v (.int .i32 ((k115 : Nat) : Int))), (23, .p 5 0), (26, .v (.slice (some ⟨g165, 0, none⟩) ((lst (t116.at_ 1)).length) c166)), (27, .v (.int .i32 (((lst (t116.at_ 1)).length : Nat) : Int))), (28, .v (.int .i32 ((k171 : Nat) : Int))), (143, .v (.bool (decide (((k171 : Nat) : Int) < (((lst (t116.at_ 1)).length : Nat) : Int)))))] hS185 fun _ hS186 => then_normal ?_
                    clear hS185
                    refine cond_true hS186.env_ (b := decide (((k171 : Nat) : Int) < (((lst (t116.at_ 1)).length : Nat) : Int))) (by kernel_rfl) (decide_eq_true (by omega)) ?_
                    refine wp_skip ?_
                    refine then_normal ?_
                    refine wp_seq ?_
                    refine wp_block ?_
                    refine wp_seq ?_
                    refine rs_ca0 (d := 146) [(2, .v (.bool false)), (7, .p 0 0), (9, .v (.bool (decide (v ≥ 2)))), (10, .p 1 0), (12, .v (.slice (some ⟨g53, 0, none⟩) ((lst (T.at_ 0)).length) c54)), (13, .v (.int .i32 (((lst (T.at_ 0)).length : Nat) : Int))), (14, .v (.int .i32 ((k59 : Nat) : Int))), (16, .p 3 0), (19, .v (.slice (some ⟨g109, 0, none⟩) ((lst (t60.at_ 1)).length) c110)), (20, .v (.int .i32 (((lst (t60.at_ 1)).length : Nat) : Int))), (21, .v (.int .i32 ((k115 : Nat) : Int))), (23, .p 5 0), (26, .v (.slice (some ⟨g165, 0, none⟩) ((lst (t116.at_ 1)).length) c166)), (27, .v (.int .i32 (((lst (t116.at_ 1)).length : Nat) : Int))), (28, .v (.int .i32 ((k171 : Nat) : Int))), (29, .v (.int .i32 (IntKind.i32.wrap t172.N)))] hS186 (pInt32 _ _) Tryz.call153 fun _ _ hS188 => ?_
                    clear hS186
                    refine then_normal ?_
                    refine go_region [0, 1, 2, 3, 4] (by kernel_rfl) ?_
                    refine rs_rn [0, 1, 2] [3, 4] [(2, .v (.bool false)), (7, .p 0 0), (9, .v (.bool (decide (v ≥ 2)))), (10, .p 1 0), (12, .v (.slice (some ⟨g53, 0, none⟩) ((lst (T.at_ 0)).length) c54)), (13, .v (.int .i32 (((lst (T.at_ 0)).length : Nat) : Int))), (14, .v (.int .i32 ((k59 : Nat) : Int))), (16, .p 3 0), (19, .v (.slice (some ⟨g109, 0, none⟩) ((lst (t60.at_ 1)).length) c110)), (20, .v (.int .i32 (((lst (t60.at_ 1)).length : Nat) : Int))), (21, .v (.int .i32 ((k115 : Nat) : Int))), (23, .p 5 0), (26, .v (.slice (some ⟨g165, 0, none⟩) ((lst (t116.at_ 1)).length) c166)), (27, .v (.int .i32 (((lst (t116.at_ 1)).length : Nat) : Int))), (28, .v (.int .i32 ((k171 : Nat) : Int))), (147, .v (.slice (some ⟨g165, 0, none⟩) ((lst (t116.at_ 1)).length) c166)), (148, .v (.int .i32 ((k171 : Nat) : Int))), (149, .v (.int .i32 (IntKind.i32.wrap t172.N)))] hS188 fun _ hS189 => ?_
                    clear hS188
                    refine of_op (rs_index (t := 104) (e := 21) (size := 1) (bytes := 4) (d := 150) (tb := [⟨bv, 0, [.int .i16 v, .slice none 0 0, .map none], true⟩, restO g53 3 (.agg #[.string ByteArray.empty, .slice none 0 0, .map none]) ((lst (T.at_ 0)).length) (k59 + 1), ⟨g53, k59 * 3, [.string (bs (t60.at_ 0).S), .slice none 0 0, .map none], true⟩, restO g109 3 (.agg #[.string ByteArray.empty, .slice none 0 0, .map none]) ((lst (t60.at_ 1)).length) (k115 + 1), ⟨g109, k115 * 3, [.string (bs (t116.at_ 0).S), .slice none 0 0, .map none], true⟩]) (z := .int .i32 0) hS189 hk174 rfl (by kernel_rfl) fun _ hS190 => ?_)
                    clear hS189
                    refine of_op (rs_store [⟨bv, 0, [.int .i16 v, .slice none 0 0, .map none], true⟩, restO g53 3 (.agg #[.string ByteArray.empty, .slice none 0 0, .map none]) ((lst (T.at_ 0)).length) (k59 + 1), ⟨g53, k59 * 3, [.string (bs (t60.at_ 0).S), .slice none 0 0, .map none], true⟩, restO g109 3 (.agg #[.string ByteArray.empty, .slice none 0 0, .map none]) ((lst (t60.at_ 1)).length) (k115 + 1), ⟨g109, k115 * 3, [.string (bs (t116.at_ 0).S), .slice none 0 0, .map none], true⟩, restO g165 1 (.int .i32 0) ((lst (t116.at_ 1)).length) (k171 + 1), ⟨g165, k171 * 1, [.int .i32 (IntKind.i32.wrap t172.N)], true⟩] 6 hS190 fun _ hS191 => wpOps_nil ?_)
                    clear hS190
                    have hS192 := hS191.pk (env' := [(2, .v (.bool false)), (7, .p 0 0), (9, .v (.bool (decide (v ≥ 2)))), (10, .p 1 0), (12, .v (.slice (some ⟨g53, 0, none⟩) ((lst (T.at_ 0)).length) c54)), (13, .v (.int .i32 (((lst (T.at_ 0)).length : Nat) : Int))), (14, .v (.int .i32 ((k59 : Nat) : Int))), (16, .p 3 0), (19, .v (.slice (some ⟨g109, 0, none⟩) ((lst (t60.at_ 1)).length) c110)), (20, .v (.int .i32 (((lst (t60.at_ 1)).length : Nat) : Int))), (21, .v (.int .i32 ((k115 : Nat) : Int))), (23, .p 5 0), (26, .v (.slice (some ⟨g165, 0, none⟩) ((lst (t116.at_ 1)).length) c166)), (27, .v (.int .i32 (((lst (t116.at_ 1)).length : Nat) : Int))), (28, .v (.int .i32 ((k171 : Nat) : Int)))])
                    clear hS191
                    refine block_normal ?_
                    refine then_normal ?_
                    refine rs_sr [(2, .v (.bool false)), (7, .p 0 0), (9, .v (.bool (decide (v ≥ 2)))), (10, .p 1 0), (12, .v (.slice (some ⟨g53, 0, none⟩) ((lst (T.at_ 0)).length) c54)), (13, .v (.int .i32 (((lst (T.at_ 0)).length : Nat) : Int))), (14, .v (.int .i32 ((k59 : Nat) : Int))), (16, .p 3 0), (19, .v (.slice (some ⟨g109, 0, none⟩) ((lst (t60.at_ 1)).length) c110)), (20, .v (.int .i32 (((lst (t60.at_ 1)).length : Nat) : Int))), (21, .v (.int .i32 ((k115 : Nat) : Int))), (23, .p 5 0), (26, .v (.slice (some ⟨g165, 0, none⟩) ((lst (t116.at_ 1)).length) c166)), (27, .v (.int .i32 (((lst (t116.at_ 1)).length : Nat) : Int))), (28, .v (.int .i32 (IntKind.i32.wrap (((k171 : Nat) : Int) + 1))))] hS192 fun _ hS193 => ?_
                    clear hS192
                    refine then_normal ?_
                    have hS194 := (hS193.envEq (env' := [(2, .v (.bool false)), (7, .p 0 0), (9, .v (.bool (decide (v ≥ 2)))), (10, .p 1 0), (12, .v (.slice (some ⟨g53, 0, none⟩) ((lst (T.at_ 0)).length) c54)), (13, .v (.int .i32 (((lst (T.at_ 0)).length : Nat) : Int))), (14, .v (.int .i32 ((k59 : Nat) : Int))), (16, .p 3 0), (19, .v (.slice (some ⟨g109, 0, none⟩) ((lst (t60.at_ 1)).length) c110)), (20, .v (.int .i32 (((lst (t60.at_ 1)).length : Nat) : Int))), (21, .v (.int .i32 ((k115 : Nat) : Int))), (23, .p 5 0), (26, .v (.slice (some ⟨g165, 0, none⟩) ((lst (t116.at_ 1)).length) c166)), (27, .v (.int .i32 (((lst (t116.at_ 1)).length : Nat) : Int))), (28, .v (.int .i32 ((k171 + 1 : Nat) : Int)))]) (by rw [i32_succ (by have := e128_1; omega)])).pk (env' := [(2, .v (.bool false)), (7, .p 0 0), (9, .v (.bool (decide (v ≥ 2)))), (10, .p 1 0), (12, .v (.slice (some ⟨g53, 0, none⟩) ((lst (T.at_ 0)).length) c54)), (13, .v (.int .i32 (((lst (T.at_ 0)).length : Nat) : Int))), (14, .v (.int .i32 ((k59 : Nat) : Int))), (16, .p 3 0), (19, .v (.slice (some ⟨g109, 0, none⟩) ((lst (t60.at_ 1)).length) c110)), (20, .v (.int .i32 (((lst (t60.at_ 1)).length : Nat) : Int))), (21, .v (.int .i32 ((k115 : Nat) : Int))), (23, .p 5 0), (26, .v (.slice (some ⟨g165, 0, none⟩) ((lst (t116.at_ 1)).length) c166)), (27, .v (.int .i32 (((lst (t116.at_ 1)).length : Nat) : Int))), (28, .v (.int .i32 ((k171 + 1 : Nat) : Int)))])
                    clear hS193
                    exact (RS.thing (tb := [⟨bv, 0, [.int .i16 v, .slice none 0 0, .map none], true⟩, restO g53 3 (.agg #[.string ByteArray.empty, .slice none 0 0, .map none]) ((lst (T.at_ 0)).length) (k59 + 1), ⟨g53, k59 * 3, [.string (bs (t60.at_ 0).S), .slice none 0 0, .map none], true⟩, restO g109 3 (.agg #[.string ByteArray.empty, .slice none 0 0, .map none]) ((lst (t60.at_ 1)).length) (k115 + 1), ⟨g109, k115 * 3, [.string (bs (t116.at_ 0).S), .slice none 0 0, .map none], true⟩]) (z := .int .i32 0) (D := dvN (IntKind.i32.wrap t172.N)) (hS194.cast hR183) hg_g165 ht173 mvNone hmP176 rfl (fun w F h_ => ⟨(hP180 _ _ h_).1, (hP180 _ _ h_).2, trivial, rfl⟩) (by kernel_rfl))
                  ·
                    refine wp_seq ?_
                    refine wp_seq ?_
                    refine rs_sr [(2, .v (.bool false)), (7, .p 0 0), (9, .v (.bool (decide (v ≥ 2)))), (10, .p 1 0), (12, .v (.slice (some ⟨g53, 0, none⟩) ((lst (T.at_ 0)).length) c54)), (13, .v (.int .i32 (((lst (T.at_ 0)).length : Nat) : Int))), (14, .v (.int .i32 ((k59 : Nat) : Int))), (16, .p 3 0), (19, .v (.slice (some ⟨g109, 0, none⟩) ((lst (t60.at_ 1)).length) c110)), (20, .v (.int .i32 (((lst (t60.at_ 1)).length : Nat) : Int))), (21, .v (.int .i32 ((k115 : Nat) : Int))), (23, .p 5 0), (26, .v (.slice (some ⟨g165, 0, none⟩) ((lst (t116.at_ 1)).length) c166)), (27, .v (.int .i32 (((lst (t116.at_ 1)).length : Nat) : Int))), (28, .v (.int .i32 (((lst (t116.at_ 1)).length : Nat) : Int))), (143, .v (.bool (decide ((((lst (t116.at_ 1)).length : Nat) : Int) < (((lst (t116.at_ 1)).length : Nat) : Int)))))] hS178 fun _ hS195 => then_normal ?_
                    clear hS178
                    refine cond_false hS195.env_ (b := decide ((((lst (t116.at_ 1)).length : Nat) : Int) < (((lst (t116.at_ 1)).length : Nat) : Int))) (by kernel_rfl) (decide_eq_false (by omega)) ?_
                    refine wp_exit ?_
                    refine then_exit ?_
                    refine then_exit ?_
                    refine block_exit ?_
                    refine then_normal ?_
                    obtain ⟨f196, hS197⟩ := RS.listEnd (tb := [⟨bv, 0, [.int .i16 v, .slice none 0 0, .map none], true⟩, restO g53 3 (.agg #[.string ByteArray.empty, .slice none 0 0, .map none]) ((lst (T.at_ 0)).length) (k59 + 1), ⟨g53, k59 * 3, [.string (bs (t60.at_ 0).S), .slice none 0 0, .map none], true⟩, restO g109 3 (.agg #[.string ByteArray.empty, .slice none 0 0, .map none]) ((lst (t60.at_ 1)).length) (k115 + 1), ⟨g109, k115 * 3, [.string (bs (t116.at_ 0).S), .slice none 0 0, .map none], true⟩]) (c := c166) (hS195.pk (env' := [(2, .v (.bool false)), (7, .p 0 0), (9, .v (.bool (decide (v ≥ 2)))), (10, .p 1 0), (12, .v (.slice (some ⟨g53, 0, none⟩) ((lst (T.at_ 0)).length) c54)), (13, .v (.int .i32 (((lst (T.at_ 0)).length : Nat) : Int))), (14, .v (.int .i32 ((k59 : Nat) : Int))), (16, .p 3 0), (19, .v (.slice (some ⟨g109, 0, none⟩) ((lst (t60.at_ 1)).length) c110)), (20, .v (.int .i32 (((lst (t60.at_ 1)).length : Nat) : Int))), (21, .v (.int .i32 ((k115 : Nat) : Int))), (23, .p 5 0), (26, .v (.slice (some ⟨g165, 0, none⟩) ((lst (t116.at_ 1)).length) c166))])) hg_g165 mvNone hmP176 hcap_g165 (by have := e128_1; omega) hn_g165 (by kernel_rfl)
                    exact ⟨dvL (some ⟨g165, 0, none⟩) (lst (t116.at_ 1)).length c166 f196, _, fun w F h_ => ⟨h_.1, ⟨h_.2.1, Nat.le_trans e128_1 (by decide), h_.2.2.1⟩, ⟨rfl, h_.2.2.2⟩⟩, hS197⟩
                ·
                  refine wp_skip ?_
                  refine then_normal ?_
                  refine wp_seq ?_
                  refine rs_sr [(2, .v (.bool false)), (7, .p 0 0), (9, .v (.bool (decide (v ≥ 2)))), (10, .p 1 0), (12, .v (.slice (some ⟨g53, 0, none⟩) ((lst (T.at_ 0)).length) c54)), (13, .v (.int .i32 (((lst (T.at_ 0)).length : Nat) : Int))), (14, .v (.int .i32 ((k59 : Nat) : Int))), (16, .p 3 0), (19, .v (.slice (some ⟨g109, 0, none⟩) ((lst (t60.at_ 1)).length) c110)), (20, .v (.int .i32 (((lst (t60.at_ 1)).length : Nat) : Int))), (21, .v (.int .i32 ((k115 : Nat) : Int))), (23, .p 5 0), (26, .v (.slice none 0 0)), (27, .v (.int .i32 (((lst (t116.at_ 1)).length : Nat) : Int))), (28, .v (.int .i32 0))] hS163 fun _ hS198 => ?_
                  clear hS163
                  refine then_normal ?_
                  refine wp_block ?_
                  refine loop_out ?_
                  refine wp_seq ?_
                  refine wp_seq ?_
                  refine rs_sr [(2, .v (.bool false)), (7, .p 0 0), (9, .v (.bool (decide (v ≥ 2)))), (10, .p 1 0), (12, .v (.slice (some ⟨g53, 0, none⟩) ((lst (T.at_ 0)).length) c54)), (13, .v (.int .i32 (((lst (T.at_ 0)).length : Nat) : Int))), (14, .v (.int .i32 ((k59 : Nat) : Int))), (16, .p 3 0), (19, .v (.slice (some ⟨g109, 0, none⟩) ((lst (t60.at_ 1)).length) c110)), (20, .v (.int .i32 (((lst (t60.at_ 1)).length : Nat) : Int))), (21, .v (.int .i32 ((k115 : Nat) : Int))), (23, .p 5 0), (26, .v (.slice none 0 0)), (27, .v (.int .i32 (((lst (t116.at_ 1)).length : Nat) : Int))), (28, .v (.int .i32 0)), (143, .v (.bool (decide (0 < (((lst (t116.at_ 1)).length : Nat) : Int)))))] hS198 fun _ hS199 => then_normal ?_
                  clear hS198
                  refine cond_false hS199.env_ (b := decide (0 < (((lst (t116.at_ 1)).length : Nat) : Int))) (by kernel_rfl) (decide_eq_false (by have h_ := of_decide_eq_false hc164; omega)) ?_
                  refine wp_exit ?_
                  refine then_exit ?_
                  refine then_exit ?_
                  refine block_exit ?_
                  refine then_normal ?_
                  have hz_ : (lst (t116.at_ 1)).length = 0 := by have h_ := of_decide_eq_false hc164; omega
                  exact ⟨dvL none 0 0 (fun _ => dv0), _, fun w F h_ => ⟨h_, ⟨Slots.nil _ _ _ _, Nat.zero_le _, fun _ h => absurd h (Nat.not_lt_zero _)⟩, ⟨hz_.symm, fun _ h => absurd h (Nat.not_lt_zero _)⟩⟩, (hS199.cast (t := R129) (by rw [List.eq_nil_of_length_eq_zero hz_]; rfl)).pk (env' := [(2, .v (.bool false)), (7, .p 0 0), (9, .v (.bool (decide (v ≥ 2)))), (10, .p 1 0), (12, .v (.slice (some ⟨g53, 0, none⟩) ((lst (T.at_ 0)).length) c54)), (13, .v (.int .i32 (((lst (T.at_ 0)).length : Nat) : Int))), (14, .v (.int .i32 ((k59 : Nat) : Int))), (16, .p 3 0), (19, .v (.slice (some ⟨g109, 0, none⟩) ((lst (t60.at_ 1)).length) c110)), (20, .v (.int .i32 (((lst (t60.at_ 1)).length : Nat) : Int))), (21, .v (.int .i32 ((k115 : Nat) : Int))), (23, .p 5 0), (26, .v (.slice none 0 0))])⟩
              rintro _ _ ⟨D159, P160, hP161, hS162⟩
              refine wp_seq ?_
              refine rs_sr [(2, .v (.bool false)), (7, .p 0 0), (9, .v (.bool (decide (v ≥ 2)))), (10, .p 1 0), (12, .v (.slice (some ⟨g53, 0, none⟩) ((lst (T.at_ 0)).length) c54)), (13, .v (.int .i32 (((lst (T.at_ 0)).length : Nat) : Int))), (14, .v (.int .i32 ((k59 : Nat) : Int))), (16, .p 3 0), (19, .v (.slice (some ⟨g109, 0, none⟩) ((lst (t60.at_ 1)).length) c110)), (20, .v (.int .i32 (((lst (t60.at_ 1)).length : Nat) : Int))), (21, .v (.int .i32 ((k115 : Nat) : Int))), (23, .p 5 0), (25, .v (.slice D159.A D159.l D159.c))] hS162 fun _ hS200 => ?_
              clear hS162
              refine then_normal ?_
              refine rs_sto [⟨bv, 0, [.int .i16 v, .slice none 0 0, .map none], true⟩, restO g53 3 (.agg #[.string ByteArray.empty, .slice none 0 0, .map none]) ((lst (T.at_ 0)).length) (k59 + 1), ⟨g53, k59 * 3, [.string (bs (t60.at_ 0).S), .slice none 0 0, .map none], true⟩, restO g109 3 (.agg #[.string ByteArray.empty, .slice none 0 0, .map none]) ((lst (t60.at_ 1)).length) (k115 + 1), ⟨g109, k115 * 3, [.string (bs (t116.at_ 0).S), .slice D159.A D159.l D159.c, .map none], true⟩] 4 [(2, .v (.bool false)), (7, .p 0 0), (9, .v (.bool (decide (v ≥ 2)))), (10, .p 1 0), (12, .v (.slice (some ⟨g53, 0, none⟩) ((lst (T.at_ 0)).length) c54)), (13, .v (.int .i32 (((lst (T.at_ 0)).length : Nat) : Int))), (14, .v (.int .i32 ((k59 : Nat) : Int))), (16, .p 3 0), (19, .v (.slice (some ⟨g109, 0, none⟩) ((lst (t60.at_ 1)).length) c110)), (20, .v (.int .i32 (((lst (t60.at_ 1)).length : Nat) : Int))), (21, .v (.int .i32 ((k115 : Nat) : Int))), (23, .p 5 0)] hS200 fun _ _ hS201 => ?_
              clear hS200
              refine then_normal ?_
              have hS202 := hS201.cast hR130
              clear hS201
              refine wp_joinN (Mid := fun a_ w_ => ∃ (m204 : Option Nat) (u205 : List (Int × Bs)) (P' : FactW), (∀ w F, P' w F → P160 w F ∧ (MapR w F m204 u205 ∧ u205.length ≤ 1000000 ∧ ∀ x ∈ u205, x.2.length < 4294967296) ∧ ((decide (v ≥ 2)) = true → u205 = t116.U) ∧ ((decide (v ≥ 2)) = false → u205 = [])) ∧ RS w (fun b o => b = bv ∧ o < 3) F 182 b13 [⟨bv, 0, [.int .i16 v, .slice none 0 0, .map none], true⟩, restO g53 3 (.agg #[.string ByteArray.empty, .slice none 0 0, .map none]) ((lst (T.at_ 0)).length) (k59 + 1), ⟨g53, k59 * 3, [.string (bs (t60.at_ 0).S), .slice none 0 0, .map none], true⟩, restO g109 3 (.agg #[.string ByteArray.empty, .slice none 0 0, .map none]) ((lst (t60.at_ 1)).length) (k115 + 1), ⟨g109, k115 * 3, [.string (bs (t116.at_ 0).S), .slice D159.A D159.l D159.c, .map m204], true⟩] [(2, .v (.bool false)), (7, .p 0 0), (9, .v (.bool (decide (v ≥ 2)))), (10, .p 1 0), (12, .v (.slice (some ⟨g53, 0, none⟩) ((lst (T.at_ 0)).length) c54)), (13, .v (.int .i32 (((lst (T.at_ 0)).length : Nat) : Int))), (14, .v (.int .i32 ((k59 : Nat) : Int))), (16, .p 3 0), (19, .v (.slice (some ⟨g109, 0, none⟩) ((lst (t60.at_ 1)).length) c110)), (20, .v (.int .i32 (((lst (t60.at_ 1)).length : Nat) : Int))), (21, .v (.int .i32 ((k115 : Nat) : Int)))] P' R126 a_ w_) ?_ ?_
              ·
                refine wp_seq ?_
                refine rs_sr [(2, .v (.bool false)), (7, .p 0 0), (9, .v (.bool (decide (v ≥ 2)))), (10, .p 1 0), (12, .v (.slice (some ⟨g53, 0, none⟩) ((lst (T.at_ 0)).length) c54)), (13, .v (.int .i32 (((lst (T.at_ 0)).length : Nat) : Int))), (14, .v (.int .i32 ((k59 : Nat) : Int))), (16, .p 3 0), (19, .v (.slice (some ⟨g109, 0, none⟩) ((lst (t60.at_ 1)).length) c110)), (20, .v (.int .i32 (((lst (t60.at_ 1)).length : Nat) : Int))), (21, .v (.int .i32 ((k115 : Nat) : Int))), (23, .p 5 0), (156, .v (.bool (decide (v ≥ 2))))] hS202 fun _ hS209 => then_normal ?_
                clear hS202
                refine cond_of hS209.env_ (b := decide (v ≥ 2)) (by kernel_rfl) (fun hc210 => ?_) (fun hc210 => ?_)
                ·
                  have hS211 := hS209.cast (t := ((uv t116.U.length) ++ (tagsR t116.U)) ++ R126) (by rw [if_pos hc210])
                  clear hS209
                  refine go_region [0, 1, 2, 3, 4] (by kernel_rfl) ?_
                  refine rs_rn [0] [1, 2, 3, 4] [(2, .v (.bool false)), (7, .p 0 0), (9, .v (.bool (decide (v ≥ 2)))), (10, .p 1 0), (12, .v (.slice (some ⟨g53, 0, none⟩) ((lst (T.at_ 0)).length) c54)), (13, .v (.int .i32 (((lst (T.at_ 0)).length : Nat) : Int))), (14, .v (.int .i32 ((k59 : Nat) : Int))), (16, .p 3 0), (19, .v (.slice (some ⟨g109, 0, none⟩) ((lst (t60.at_ 1)).length) c110)), (20, .v (.int .i32 (((lst (t60.at_ 1)).length : Nat) : Int))), (21, .v (.int .i32 ((k115 : Nat) : Int))), (157, .p 5 0)] hS211 fun _ hS212 => ?_
                  clear hS211
                  refine of_op (rs_call (d := 158) hS212 (pTags t116.U e128_U (ranged_U e128r) _) (fun _ => MvF.tags _ _) Tryz.call154 fun m213 P214 _ _ hP215 hS216 => ?_)
                  clear hS212
                  refine rs_rn [2, 3] [4] [(2, .v (.bool false)), (7, .p 0 0), (9, .v (.bool (decide (v ≥ 2)))), (10, .p 1 0), (12, .v (.slice (some ⟨g53, 0, none⟩) ((lst (T.at_ 0)).length) c54)), (13, .v (.int .i32 (((lst (T.at_ 0)).length : Nat) : Int))), (14, .v (.int .i32 ((k59 : Nat) : Int))), (16, .p 3 0), (19, .v (.slice (some ⟨g109, 0, none⟩) ((lst (t60.at_ 1)).length) c110)), (20, .v (.int .i32 (((lst (t60.at_ 1)).length : Nat) : Int))), (21, .v (.int .i32 ((k115 : Nat) : Int))), (158, .v (.agg #[.map m213])), (160, .p 5 2)] hS216 fun _ hS217 => ?_
                  clear hS216
                  refine of_op (rs_store [⟨bv, 0, [.int .i16 v, .slice none 0 0, .map none], true⟩, restO g53 3 (.agg #[.string ByteArray.empty, .slice none 0 0, .map none]) ((lst (T.at_ 0)).length) (k59 + 1), ⟨g53, k59 * 3, [.string (bs (t60.at_ 0).S), .slice none 0 0, .map none], true⟩, restO g109 3 (.agg #[.string ByteArray.empty, .slice none 0 0, .map none]) ((lst (t60.at_ 1)).length) (k115 + 1), ⟨g109, k115 * 3, [.string (bs (t116.at_ 0).S), .slice D159.A D159.l D159.c, .map m213], true⟩] 4 hS217 fun _ hS218 => ?_)
                  clear hS217
                  refine wpOps_nil ?_
                  have hS219 := hS218.pk (env' := [(2, .v (.bool false)), (7, .p 0 0), (9, .v (.bool (decide (v ≥ 2)))), (10, .p 1 0), (12, .v (.slice (some ⟨g53, 0, none⟩) ((lst (T.at_ 0)).length) c54)), (13, .v (.int .i32 (((lst (T.at_ 0)).length : Nat) : Int))), (14, .v (.int .i32 ((k59 : Nat) : Int))), (16, .p 3 0), (19, .v (.slice (some ⟨g109, 0, none⟩) ((lst (t60.at_ 1)).length) c110)), (20, .v (.int .i32 (((lst (t60.at_ 1)).length : Nat) : Int))), (21, .v (.int .i32 ((k115 : Nat) : Int)))])
                  clear hS218
                  refine then_normal ?_
                  exact ⟨m213, t116.U, _, fun w F h_ => ⟨(hP215 _ _ h_).1, ⟨(hP215 _ _ h_).2, e128_U.2.1, e128_U.2.2⟩, ⟨fun _ => rfl, (fun e_ => by rw [hc210] at e_; cases e_)⟩⟩, hS219.pk (env' := [(2, .v (.bool false)), (7, .p 0 0), (9, .v (.bool (decide (v ≥ 2)))), (10, .p 1 0), (12, .v (.slice (some ⟨g53, 0, none⟩) ((lst (T.at_ 0)).length) c54)), (13, .v (.int .i32 (((lst (T.at_ 0)).length : Nat) : Int))), (14, .v (.int .i32 ((k59 : Nat) : Int))), (16, .p 3 0), (19, .v (.slice (some ⟨g109, 0, none⟩) ((lst (t60.at_ 1)).length) c110)), (20, .v (.int .i32 (((lst (t60.at_ 1)).length : Nat) : Int))), (21, .v (.int .i32 ((k115 : Nat) : Int)))])⟩
                ·
                  have hS220 := hS209.cast (t := [] ++ R126) (by rw [if_neg (by rw [hc210]; decide)])
                  clear hS209
                  have hS221 := hS220.cast (t := R126) rfl
                  clear hS220
                  refine wp_skip (then_normal ?_)
                  exact ⟨none, [], _, fun w F h_ => ⟨h_, ⟨MapR.nil _ _, Nat.zero_le _, fun _ h => by cases h⟩, ⟨(fun e_ => by rw [hc210] at e_; cases e_), fun _ => rfl⟩⟩, hS221.pk (env' := [(2, .v (.bool false)), (7, .p 0 0), (9, .v (.bool (decide (v ≥ 2)))), (10, .p 1 0), (12, .v (.slice (some ⟨g53, 0, none⟩) ((lst (T.at_ 0)).length) c54)), (13, .v (.int .i32 (((lst (T.at_ 0)).length : Nat) : Int))), (14, .v (.int .i32 ((k59 : Nat) : Int))), (16, .p 3 0), (19, .v (.slice (some ⟨g109, 0, none⟩) ((lst (t60.at_ 1)).length) c110)), (20, .v (.int .i32 (((lst (t60.at_ 1)).length : Nat) : Int))), (21, .v (.int .i32 ((k115 : Nat) : Int)))])⟩
              rintro _ _ ⟨m204, u205, P206, hP207, hS208⟩
              refine block_normal ?_
              refine then_normal ?_
              refine rs_sr [(2, .v (.bool false)), (7, .p 0 0), (9, .v (.bool (decide (v ≥ 2)))), (10, .p 1 0), (12, .v (.slice (some ⟨g53, 0, none⟩) ((lst (T.at_ 0)).length) c54)), (13, .v (.int .i32 (((lst (T.at_ 0)).length : Nat) : Int))), (14, .v (.int .i32 ((k59 : Nat) : Int))), (16, .p 3 0), (19, .v (.slice (some ⟨g109, 0, none⟩) ((lst (t60.at_ 1)).length) c110)), (20, .v (.int .i32 (((lst (t60.at_ 1)).length : Nat) : Int))), (21, .v (.int .i32 (IntKind.i32.wrap (((k115 : Nat) : Int) + 1))))] hS208 fun _ hS222 => ?_
              clear hS208
              refine then_normal ?_
              have hS223 := (hS222.envEq (env' := [(2, .v (.bool false)), (7, .p 0 0), (9, .v (.bool (decide (v ≥ 2)))), (10, .p 1 0), (12, .v (.slice (some ⟨g53, 0, none⟩) ((lst (T.at_ 0)).length) c54)), (13, .v (.int .i32 (((lst (T.at_ 0)).length : Nat) : Int))), (14, .v (.int .i32 ((k59 : Nat) : Int))), (16, .p 3 0), (19, .v (.slice (some ⟨g109, 0, none⟩) ((lst (t60.at_ 1)).length) c110)), (20, .v (.int .i32 (((lst (t60.at_ 1)).length : Nat) : Int))), (21, .v (.int .i32 ((k115 + 1 : Nat) : Int)))]) (by rw [i32_succ (by have := e72_1; omega)])).pk (env' := [(2, .v (.bool false)), (7, .p 0 0), (9, .v (.bool (decide (v ≥ 2)))), (10, .p 1 0), (12, .v (.slice (some ⟨g53, 0, none⟩) ((lst (T.at_ 0)).length) c54)), (13, .v (.int .i32 (((lst (T.at_ 0)).length : Nat) : Int))), (14, .v (.int .i32 ((k59 : Nat) : Int))), (16, .p 3 0), (19, .v (.slice (some ⟨g109, 0, none⟩) ((lst (t60.at_ 1)).length) c110)), (20, .v (.int .i32 (((lst (t60.at_ 1)).length : Nat) : Int))), (21, .v (.int .i32 ((k115 + 1 : Nat) : Int)))])
              clear hS222
              exact (RS.thing (tb := [⟨bv, 0, [.int .i16 v, .slice none 0 0, .map none], true⟩, restO g53 3 (.agg #[.string ByteArray.empty, .slice none 0 0, .map none]) ((lst (T.at_ 0)).length) (k59 + 1), ⟨g53, k59 * 3, [.string (bs (t60.at_ 0).S), .slice none 0 0, .map none], true⟩]) (z := .agg #[.string ByteArray.empty, .slice none 0 0, .map none]) (D := (dvP m204 u205 [dvS (bs (t116.at_ 0).S), D159])) (hS223.cast hR127) hg_g109 ht117 mvAlterReplicaLogDirsRequestDirTopic hmP120 rfl (fun w F h_ => ⟨(hP124 _ _ (hP161 _ _ (hP207 _ _ h_).1).1).1, (hP124 _ _ (hP161 _ _ (hP207 _ _ h_).1).1).2, ⟨(by show ByteArray.size (bs _) ≤ 1000000; rw [bs_size]; exact Nat.le_trans e128_0 (by decide)), ((hP161 _ _ (hP207 _ _ h_).1).2.1), (hP207 _ _ h_).2.1.1, (hP207 _ _ h_).2.1.2.1, (hP207 _ _ h_).2.1.2.2, trivial⟩, ⟨(rfl), ((hP161 _ _ (hP207 _ _ h_).1).2.2), (hP207 _ _ h_).2.2, trivial⟩⟩) (by kernel_rfl))
            ·
              refine wp_seq ?_
              refine wp_seq ?_
              refine rs_sr [(2, .v (.bool false)), (7, .p 0 0), (9, .v (.bool (decide (v ≥ 2)))), (10, .p 1 0), (12, .v (.slice (some ⟨g53, 0, none⟩) ((lst (T.at_ 0)).length) c54)), (13, .v (.int .i32 (((lst (T.at_ 0)).length : Nat) : Int))), (14, .v (.int .i32 ((k59 : Nat) : Int))), (16, .p 3 0), (19, .v (.slice (some ⟨g109, 0, none⟩) ((lst (t60.at_ 1)).length) c110)), (20, .v (.int .i32 (((lst (t60.at_ 1)).length : Nat) : Int))), (21, .v (.int .i32 (((lst (t60.at_ 1)).length : Nat) : Int))), (103, .v (.bool (decide ((((lst (t60.at_ 1)).length : Nat) : Int) < (((lst (t60.at_ 1)).length : Nat) : Int)))))] hS122 fun _ hS224 => then_normal ?_
              clear hS122
              refine cond_false hS224.env_ (b := decide ((((lst (t60.at_ 1)).length : Nat) : Int) < (((lst (t60.at_ 1)).length : Nat) : Int))) (by kernel_rfl) (decide_eq_false (by omega)) ?_
              refine wp_exit ?_
              refine then_exit ?_
              refine then_exit ?_
              refine block_exit ?_
              refine then_normal ?_
              obtain ⟨f225, hS226⟩ := RS.listEnd (tb := [⟨bv, 0, [.int .i16 v, .slice none 0 0, .map none], true⟩, restO g53 3 (.agg #[.string ByteArray.empty, .slice none 0 0, .map none]) ((lst (T.at_ 0)).length) (k59 + 1), ⟨g53, k59 * 3, [.string (bs (t60.at_ 0).S), .slice none 0 0, .map none], true⟩]) (c := c110) (hS224.pk (env' := [(2, .v (.bool false)), (7, .p 0 0), (9, .v (.bool (decide (v ≥ 2)))), (10, .p 1 0), (12, .v (.slice (some ⟨g53, 0, none⟩) ((lst (T.at_ 0)).length) c54)), (13, .v (.int .i32 (((lst (T.at_ 0)).length : Nat) : Int))), (14, .v (.int .i32 ((k59 : Nat) : Int))), (16, .p 3 0), (19, .v (.slice (some ⟨g109, 0, none⟩) ((lst (t60.at_ 1)).length) c110))])) hg_g109 mvAlterReplicaLogDirsRequestDirTopic hmP120 hcap_g109 (by have := e72_1; omega) hn_g109 (by kernel_rfl)
              exact ⟨dvL (some ⟨g109, 0, none⟩) (lst (t60.at_ 1)).length c110 f225, _, fun w F h_ => ⟨h_.1, ⟨h_.2.1, Nat.le_trans e72_1 (by decide), h_.2.2.1⟩, ⟨rfl, h_.2.2.2⟩⟩, hS226⟩
          ·
            refine wp_skip ?_
            refine then_normal ?_
            refine wp_seq ?_
            refine rs_sr [(2, .v (.bool false)), (7, .p 0 0), (9, .v (.bool (decide (v ≥ 2)))), (10, .p 1 0), (12, .v (.slice (some ⟨g53, 0, none⟩) ((lst (T.at_ 0)).length) c54)), (13, .v (.int .i32 (((lst (T.at_ 0)).length : Nat) : Int))), (14, .v (.int .i32 ((k59 : Nat) : Int))), (16, .p 3 0), (19, .v (.slice none 0 0)), (20, .v (.int .i32 (((lst (t60.at_ 1)).length : Nat) : Int))), (21, .v (.int .i32 0))] hS107 fun _ hS227 => ?_
            clear hS107
            refine then_normal ?_
            refine wp_block ?_
            refine loop_out ?_
            refine wp_seq ?_
            refine wp_seq ?_
            refine rs_sr [(2, .v (.bool false)), (7, .p 0 0), (9, .v (.bool (decide (v ≥ 2)))), (10, .p 1 0), (12, .v (.slice (some ⟨g53, 0, none⟩) ((lst (T.at_ 0)).length) c54)), (13, .v (.int .i32 (((lst (T.at_ 0)).length : Nat) : Int))), (14, .v (.int .i32 ((k59 : Nat) : Int))), (16, .p 3 0), (19, .v (.slice none 0 0)), (20, .v (.int .i32 (((lst (t60.at_ 1)).length : Nat) : Int))), (21, .v (.int .i32 0)), (103, .v (.bool (decide (0 < (((lst (t60.at_ 1)).length : Nat) : Int)))))] hS227 fun _ hS228 => then_normal ?_
            clear hS227
            refine cond_false hS228.env_ (b := decide (0 < (((lst (t60.at_ 1)).length : Nat) : Int))) (by kernel_rfl) (decide_eq_false (by have h_ := of_decide_eq_false hc108; omega)) ?_
            refine wp_exit ?_
            refine then_exit ?_
            refine then_exit ?_
            refine block_exit ?_
            refine then_normal ?_
            have hz_ : (lst (t60.at_ 1)).length = 0 := by have h_ := of_decide_eq_false hc108; omega
            exact ⟨dvL none 0 0 (fun _ => dv0), _, fun w F h_ => ⟨h_, ⟨Slots.nil _ _ _ _, Nat.zero_le _, fun _ h => absurd h (Nat.not_lt_zero _)⟩, ⟨hz_.symm, fun _ h => absurd h (Nat.not_lt_zero _)⟩⟩, (hS228.cast (t := R73) (by rw [List.eq_nil_of_length_eq_zero hz_]; rfl)).pk (env' := [(2, .v (.bool false)), (7, .p 0 0), (9, .v (.bool (decide (v ≥ 2)))), (10, .p 1 0), (12, .v (.slice (some ⟨g53, 0, none⟩) ((lst (T.at_ 0)).length) c54)), (13, .v (.int .i32 (((lst (T.at_ 0)).length : Nat) : Int))), (14, .v (.int .i32 ((k59 : Nat) : Int))), (16, .p 3 0), (19, .v (.slice none 0 0))])⟩
        rintro _ _ ⟨D103, P104, hP105, hS106⟩
        refine wp_seq ?_
        refine rs_sr [(2, .v (.bool false)), (7, .p 0 0), (9, .v (.bool (decide (v ≥ 2)))), (10, .p 1 0), (12, .v (.slice (some ⟨g53, 0, none⟩) ((lst (T.at_ 0)).length) c54)), (13, .v (.int .i32 (((lst (T.at_ 0)).length : Nat) : Int))), (14, .v (.int .i32 ((k59 : Nat) : Int))), (16, .p 3 0), (18, .v (.slice D103.A D103.l D103.c))] hS106 fun _ hS229 => ?_
        clear hS106
        refine then_normal ?_
        refine rs_sto [⟨bv, 0, [.int .i16 v, .slice none 0 0, .map none], true⟩, restO g53 3 (.agg #[.string ByteArray.empty, .slice none 0 0, .map none]) ((lst (T.at_ 0)).length) (k59 + 1), ⟨g53, k59 * 3, [.string (bs (t60.at_ 0).S), .slice D103.A D103.l D103.c, .map none], true⟩] 2 [(2, .v (.bool false)), (7, .p 0 0), (9, .v (.bool (decide (v ≥ 2)))), (10, .p 1 0), (12, .v (.slice (some ⟨g53, 0, none⟩) ((lst (T.at_ 0)).length) c54)), (13, .v (.int .i32 (((lst (T.at_ 0)).length : Nat) : Int))), (14, .v (.int .i32 ((k59 : Nat) : Int))), (16, .p 3 0)] hS229 fun _ _ hS230 => ?_
        clear hS229
        refine then_normal ?_
        have hS231 := hS230.cast hR74
        clear hS230
        refine wp_joinN (Mid := fun a_ w_ => ∃ (m233 : Option Nat) (u234 : List (Int × Bs)) (P' : FactW), (∀ w F, P' w F → P104 w F ∧ (MapR w F m233 u234 ∧ u234.length ≤ 1000000 ∧ ∀ x ∈ u234, x.2.length < 4294967296) ∧ ((decide (v ≥ 2)) = true → u234 = t60.U) ∧ ((decide (v ≥ 2)) = false → u234 = [])) ∧ RS w (fun b o => b = bv ∧ o < 3) F 182 b13 [⟨bv, 0, [.int .i16 v, .slice none 0 0, .map none], true⟩, restO g53 3 (.agg #[.string ByteArray.empty, .slice none 0 0, .map none]) ((lst (T.at_ 0)).length) (k59 + 1), ⟨g53, k59 * 3, [.string (bs (t60.at_ 0).S), .slice D103.A D103.l D103.c, .map m233], true⟩] [(2, .v (.bool false)), (7, .p 0 0), (9, .v (.bool (decide (v ≥ 2)))), (10, .p 1 0), (12, .v (.slice (some ⟨g53, 0, none⟩) ((lst (T.at_ 0)).length) c54)), (13, .v (.int .i32 (((lst (T.at_ 0)).length : Nat) : Int))), (14, .v (.int .i32 ((k59 : Nat) : Int)))] P' R70 a_ w_) ?_ ?_
        ·
          refine wp_seq ?_
          refine rs_sr [(2, .v (.bool false)), (7, .p 0 0), (9, .v (.bool (decide (v ≥ 2)))), (10, .p 1 0), (12, .v (.slice (some ⟨g53, 0, none⟩) ((lst (T.at_ 0)).length) c54)), (13, .v (.int .i32 (((lst (T.at_ 0)).length : Nat) : Int))), (14, .v (.int .i32 ((k59 : Nat) : Int))), (16, .p 3 0), (166, .v (.bool (decide (v ≥ 2))))] hS231 fun _ hS238 => then_normal ?_
          clear hS231
          refine cond_of hS238.env_ (b := decide (v ≥ 2)) (by kernel_rfl) (fun hc239 => ?_) (fun hc239 => ?_)
          ·
            have hS240 := hS238.cast (t := ((uv t60.U.length) ++ (tagsR t60.U)) ++ R70) (by rw [if_pos hc239])
            clear hS238
            refine go_region [0, 1, 2, 3, 4] (by kernel_rfl) ?_
            refine rs_rn [0] [1, 2, 3, 4] [(2, .v (.bool false)), (7, .p 0 0), (9, .v (.bool (decide (v ≥ 2)))), (10, .p 1 0), (12, .v (.slice (some ⟨g53, 0, none⟩) ((lst (T.at_ 0)).length) c54)), (13, .v (.int .i32 (((lst (T.at_ 0)).length : Nat) : Int))), (14, .v (.int .i32 ((k59 : Nat) : Int))), (167, .p 3 0)] hS240 fun _ hS241 => ?_
            clear hS240
            refine of_op (rs_call (d := 168) hS241 (pTags t60.U e72_U (ranged_U e72r) _) (fun _ => MvF.tags _ _) Tryz.call154 fun m242 P243 _ _ hP244 hS245 => ?_)
            clear hS241
            refine rs_rn [2, 3] [4] [(2, .v (.bool false)), (7, .p 0 0), (9, .v (.bool (decide (v ≥ 2)))), (10, .p 1 0), (12, .v (.slice (some ⟨g53, 0, none⟩) ((lst (T.at_ 0)).length) c54)), (13, .v (.int .i32 (((lst (T.at_ 0)).length : Nat) : Int))), (14, .v (.int .i32 ((k59 : Nat) : Int))), (168, .v (.agg #[.map m242])), (170, .p 3 2)] hS245 fun _ hS246 => ?_
            clear hS245
            refine of_op (rs_store [⟨bv, 0, [.int .i16 v, .slice none 0 0, .map none], true⟩, restO g53 3 (.agg #[.string ByteArray.empty, .slice none 0 0, .map none]) ((lst (T.at_ 0)).length) (k59 + 1), ⟨g53, k59 * 3, [.string (bs (t60.at_ 0).S), .slice D103.A D103.l D103.c, .map m242], true⟩] 2 hS246 fun _ hS247 => ?_)
            clear hS246
            refine wpOps_nil ?_
            have hS248 := hS247.pk (env' := [(2, .v (.bool false)), (7, .p 0 0), (9, .v (.bool (decide (v ≥ 2)))), (10, .p 1 0), (12, .v (.slice (some ⟨g53, 0, none⟩) ((lst (T.at_ 0)).length) c54)), (13, .v (.int .i32 (((lst (T.at_ 0)).length : Nat) : Int))), (14, .v (.int .i32 ((k59 : Nat) : Int)))])
            clear hS247
            refine then_normal ?_
            exact ⟨m242, t60.U, _, fun w F h_ => ⟨(hP244 _ _ h_).1, ⟨(hP244 _ _ h_).2, e72_U.2.1, e72_U.2.2⟩, ⟨fun _ => rfl, (fun e_ => by rw [hc239] at e_; cases e_)⟩⟩, hS248.pk (env' := [(2, .v (.bool false)), (7, .p 0 0), (9, .v (.bool (decide (v ≥ 2)))), (10, .p 1 0), (12, .v (.slice (some ⟨g53, 0, none⟩) ((lst (T.at_ 0)).length) c54)), (13, .v (.int .i32 (((lst (T.at_ 0)).length : Nat) : Int))), (14, .v (.int .i32 ((k59 : Nat) : Int)))])⟩
          ·
            have hS249 := hS238.cast (t := [] ++ R70) (by rw [if_neg (by rw [hc239]; decide)])
            clear hS238
            have hS250 := hS249.cast (t := R70) rfl
            clear hS249
            refine wp_skip (then_normal ?_)
            exact ⟨none, [], _, fun w F h_ => ⟨h_, ⟨MapR.nil _ _, Nat.zero_le _, fun _ h => by cases h⟩, ⟨(fun e_ => by rw [hc239] at e_; cases e_), fun _ => rfl⟩⟩, hS250.pk (env' := [(2, .v (.bool false)), (7, .p 0 0), (9, .v (.bool (decide (v ≥ 2)))), (10, .p 1 0), (12, .v (.slice (some ⟨g53, 0, none⟩) ((lst (T.at_ 0)).length) c54)), (13, .v (.int .i32 (((lst (T.at_ 0)).length : Nat) : Int))), (14, .v (.int .i32 ((k59 : Nat) : Int)))])⟩
        rintro _ _ ⟨m233, u234, P235, hP236, hS237⟩
        refine block_normal ?_
        refine then_normal ?_
        refine rs_sr [(2, .v (.bool false)), (7, .p 0 0), (9, .v (.bool (decide (v ≥ 2)))), (10, .p 1 0), (12, .v (.slice (some ⟨g53, 0, none⟩) ((lst (T.at_ 0)).length) c54)), (13, .v (.int .i32 (((lst (T.at_ 0)).length : Nat) : Int))), (14, .v (.int .i32 (IntKind.i32.wrap (((k59 : Nat) : Int) + 1))))] hS237 fun _ hS251 => ?_
        clear hS237
        refine then_normal ?_
        have hS252 := (hS251.envEq (env' := [(2, .v (.bool false)), (7, .p 0 0), (9, .v (.bool (decide (v ≥ 2)))), (10, .p 1 0), (12, .v (.slice (some ⟨g53, 0, none⟩) ((lst (T.at_ 0)).length) c54)), (13, .v (.int .i32 (((lst (T.at_ 0)).length : Nat) : Int))), (14, .v (.int .i32 ((k59 + 1 : Nat) : Int)))]) (by rw [i32_succ (by have := e26_0; omega)])).pk (env' := [(2, .v (.bool false)), (7, .p 0 0), (9, .v (.bool (decide (v ≥ 2)))), (10, .p 1 0), (12, .v (.slice (some ⟨g53, 0, none⟩) ((lst (T.at_ 0)).length) c54)), (13, .v (.int .i32 (((lst (T.at_ 0)).length : Nat) : Int))), (14, .v (.int .i32 ((k59 + 1 : Nat) : Int)))])
        clear hS251
        exact (RS.thing (tb := [⟨bv, 0, [.int .i16 v, .slice none 0 0, .map none], true⟩]) (z := .agg #[.string ByteArray.empty, .slice none 0 0, .map none]) (D := (dvP m233 u234 [dvS (bs (t60.at_ 0).S), D103])) (hS252.cast hR71) hg_g53 ht61 mvAlterReplicaLogDirsRequestDir hmP64 rfl (fun w F h_ => ⟨(hP68 _ _ (hP105 _ _ (hP236 _ _ h_).1).1).1, (hP68 _ _ (hP105 _ _ (hP236 _ _ h_).1).1).2, ⟨(by show ByteArray.size (bs _) ≤ 1000000; rw [bs_size]; exact Nat.le_trans e72_0 (by decide)), ((hP105 _ _ (hP236 _ _ h_).1).2.1), (hP236 _ _ h_).2.1.1, (hP236 _ _ h_).2.1.2.1, (hP236 _ _ h_).2.1.2.2, trivial⟩, ⟨(rfl), ((hP105 _ _ (hP236 _ _ h_).1).2.2), (hP236 _ _ h_).2.2, trivial⟩⟩) (by kernel_rfl))
      ·
        refine wp_seq ?_
        refine wp_seq ?_
        refine rs_sr [(2, .v (.bool false)), (7, .p 0 0), (9, .v (.bool (decide (v ≥ 2)))), (10, .p 1 0), (12, .v (.slice (some ⟨g53, 0, none⟩) ((lst (T.at_ 0)).length) c54)), (13, .v (.int .i32 (((lst (T.at_ 0)).length : Nat) : Int))), (14, .v (.int .i32 (((lst (T.at_ 0)).length : Nat) : Int))), (63, .v (.bool (decide ((((lst (T.at_ 0)).length : Nat) : Int) < (((lst (T.at_ 0)).length : Nat) : Int)))))] hS66 fun _ hS253 => then_normal ?_
        clear hS66
        refine cond_false hS253.env_ (b := decide ((((lst (T.at_ 0)).length : Nat) : Int) < (((lst (T.at_ 0)).length : Nat) : Int))) (by kernel_rfl) (decide_eq_false (by omega)) ?_
        refine wp_exit ?_
        refine then_exit ?_
        refine then_exit ?_
        refine block_exit ?_
        refine then_normal ?_
        obtain ⟨f254, hS255⟩ := RS.listEnd (tb := [⟨bv, 0, [.int .i16 v, .slice none 0 0, .map none], true⟩]) (c := c54) (hS253.pk (env' := [(7, .p 0 0), (9, .v (.bool (decide (v ≥ 2)))), (10, .p 1 0), (12, .v (.slice (some ⟨g53, 0, none⟩) ((lst (T.at_ 0)).length) c54))])) hg_g53 mvAlterReplicaLogDirsRequestDir hmP64 hcap_g53 (by have := e26_0; omega) hn_g53 (by kernel_rfl)
        exact ⟨dvL (some ⟨g53, 0, none⟩) (lst (T.at_ 0)).length c54 f254, _, fun w F h_ => ⟨h_.1, ⟨h_.2.1, Nat.le_trans e26_0 (by decide), h_.2.2.1⟩, ⟨rfl, h_.2.2.2⟩⟩, hS255⟩
    ·
      refine wp_skip ?_
      refine then_normal ?_
      refine wp_seq ?_
      refine rs_sr [(2, .v (.bool false)), (7, .p 0 0), (9, .v (.bool (decide (v ≥ 2)))), (10, .p 1 0), (12, .v (.slice none 0 0)), (13, .v (.int .i32 (((lst (T.at_ 0)).length : Nat) : Int))), (14, .v (.int .i32 0))] hS51 fun _ hS256 => ?_
      clear hS51
      refine then_normal ?_
      refine wp_block ?_
      refine loop_out ?_
      refine wp_seq ?_
      refine wp_seq ?_
      refine rs_sr [(2, .v (.bool false)), (7, .p 0 0), (9, .v (.bool (decide (v ≥ 2)))), (10, .p 1 0), (12, .v (.slice none 0 0)), (13, .v (.int .i32 (((lst (T.at_ 0)).length : Nat) : Int))), (14, .v (.int .i32 0)), (63, .v (.bool (decide (0 < (((lst (T.at_ 0)).length : Nat) : Int)))))] hS256 fun _ hS257 => then_normal ?_
      clear hS256
      refine cond_false hS257.env_ (b := decide (0 < (((lst (T.at_ 0)).length : Nat) : Int))) (by kernel_rfl) (decide_eq_false (by have h_ := of_decide_eq_false hc52; omega)) ?_
      refine wp_exit ?_
      refine then_exit ?_
      refine then_exit ?_
      refine block_exit ?_
      refine then_normal ?_
      have hz_ : (lst (T.at_ 0)).length = 0 := by have h_ := of_decide_eq_false hc52; omega
      exact ⟨dvL none 0 0 (fun _ => dv0), _, fun w F h_ => ⟨h_, ⟨Slots.nil _ _ _ _, Nat.zero_le _, fun _ h => absurd h (Nat.not_lt_zero _)⟩, ⟨hz_.symm, fun _ h => absurd h (Nat.not_lt_zero _)⟩⟩, (hS257.cast (t := R27) (by rw [List.eq_nil_of_length_eq_zero hz_]; rfl)).pk (env' := [(7, .p 0 0), (9, .v (.bool (decide (v ≥ 2)))), (10, .p 1 0), (12, .v (.slice none 0 0))])⟩
  rintro _ _ ⟨D47, P48, hP49, hS50⟩
  refine wp_seq ?_
  refine rs_sr [(7, .p 0 0), (9, .v (.bool (decide (v ≥ 2)))), (10, .p 1 0), (11, .v (.slice D47.A D47.l D47.c))] hS50 fun _ hS258 => ?_
  clear hS50
  refine then_normal ?_
  refine rs_sto [⟨bv, 0, [.int .i16 v, .slice D47.A D47.l D47.c, .map none], true⟩] 0 [(7, .p 0 0), (9, .v (.bool (decide (v ≥ 2)))), (10, .p 1 0)] hS258 fun _ _ hS259 => ?_
  clear hS258
  refine then_normal ?_
  refine wp_seq ?_
  have hS260 := hS259.cast hR28
  clear hS259
  refine wp_joinN (Mid := fun a_ w_ => ∃ (m262 : Option Nat) (u263 : List (Int × Bs)) (P' : FactW), (∀ w F, P' w F → P48 w F ∧ (MapR w F m262 u263 ∧ u263.length ≤ 1000000 ∧ ∀ x ∈ u263, x.2.length < 4294967296) ∧ ((decide (v ≥ 2)) = true → u263 = T.U) ∧ ((decide (v ≥ 2)) = false → u263 = [])) ∧ RS w (fun b o => b = bv ∧ o < 3) F 182 b13 [⟨bv, 0, [.int .i16 v, .slice D47.A D47.l D47.c, .map m262], true⟩] [(7, .p 0 0)] P' ([] : Bs) a_ w_) ?_ ?_
  ·
    refine wp_seq ?_
    refine rs_sr [(7, .p 0 0), (10, .p 1 0), (176, .v (.bool (decide (v ≥ 2))))] hS260 fun _ hS267 => then_normal ?_
    clear hS260
    refine cond_of hS267.env_ (b := decide (v ≥ 2)) (by kernel_rfl) (fun hc268 => ?_) (fun hc268 => ?_)
    ·
      have hS269 := hS267.cast (t := ((uv T.U.length) ++ (tagsR T.U)) ++ ([] : Bs)) (by rw [if_pos hc268])
      clear hS267
      refine go_region [0, 1, 2, 3, 4] (by kernel_rfl) ?_
      refine rs_rn [0] [1, 2, 3, 4] [(7, .p 0 0), (177, .p 1 0)] hS269 fun _ hS270 => ?_
      clear hS269
      refine of_op (rs_call (d := 178) hS270 (pTags T.U e26_U (ranged_U e26r) _) (fun _ => MvF.tags _ _) Tryz.call154 fun m271 P272 _ _ hP273 hS274 => ?_)
      clear hS270
      refine rs_rn [2, 3] [4] [(7, .p 0 0), (178, .v (.agg #[.map m271])), (180, .p 1 2)] hS274 fun _ hS275 => ?_
      clear hS274
      refine of_op (rs_store [⟨bv, 0, [.int .i16 v, .slice D47.A D47.l D47.c, .map m271], true⟩] 0 hS275 fun _ hS276 => ?_)
      clear hS275
      refine wpOps_nil ?_
      have hS277 := hS276.pk (env' := [(7, .p 0 0)])
      clear hS276
      refine then_normal ?_
      exact ⟨m271, T.U, _, fun w F h_ => ⟨(hP273 _ _ h_).1, ⟨(hP273 _ _ h_).2, e26_U.2.1, e26_U.2.2⟩, ⟨fun _ => rfl, (fun e_ => by rw [hc268] at e_; cases e_)⟩⟩, hS277.pk (env' := [(7, .p 0 0)])⟩
    ·
      have hS278 := hS267.cast (t := [] ++ ([] : Bs)) (by rw [if_neg (by rw [hc268]; decide)])
      clear hS267
      have hS279 := hS278.cast (t := ([] : Bs)) rfl
      clear hS278
      refine wp_skip (then_normal ?_)
      exact ⟨none, [], _, fun w F h_ => ⟨h_, ⟨MapR.nil _ _, Nat.zero_le _, fun _ h => by cases h⟩, ⟨(fun e_ => by rw [hc268] at e_; cases e_), fun _ => rfl⟩⟩, hS279.pk (env' := [(7, .p 0 0)])⟩
  rintro _ _ ⟨m262, u263, P264, hP265, hS266⟩
  refine then_normal ?_
  refine wp_seq ?_
  refine go_region [0, 1] (by kernel_rfl) (of_op (rs_complete (d := 181) hS266 rComplete Tryz.call146 fun _ hS280 => ?_))
  clear hS266
  refine rs_rn [1] [] [(6, .v (.nilIface))] hS280 fun _ hS281 => wpOps_nil ?_
  clear hS280
  refine then_normal ?_
  refine wp_ret ?_
  obtain ⟨A_, m_, c_, hW_, hr_, hE_, hP_⟩ := hS281.open_
  refine leave hE_ hW_.cells (v := .nilIface) (by kernel_rfl) ?_
  have h_ := hS281.mv.mono immOut hP_
  refine ⟨(dvP m262 u263 [D47]), rfl, Str.of hW_ 1 rfl, ?_, ?_, hW_.step⟩
  · unfold okAlterReplicaLogDirsRequest
    exact ⟨((hP49 _ _ (hP265 _ _ h_).1).2.1), (hP265 _ _ h_).2.1.1, (hP265 _ _ h_).2.1.2.1, (hP265 _ _ h_).2.1.2.2, trivial⟩
  · unfold rvAlterReplicaLogDirsRequest
    exact ⟨((hP49 _ _ (hP265 _ _ h_).1).2.2), (hP265 _ _ h_).2.2, trivial⟩

theorem mvAlterReplicaLogDirsRequest : Moves okAlterReplicaLogDirsRequest := by
  intro w w' F F' M d hs hM hF h
  unfold okAlterReplicaLogDirsRequest at h ⊢
  obtain ⟨⟨g0, g0l, g0e⟩, t1, t2, t3, _⟩ := h
  exact ⟨⟨g0.move hs hM hF, g0l, fun i hi => mvAlterReplicaLogDirsRequestDir _ hs hM hF (g0e i hi)⟩, t1.move hs hM hF, t2, t3, trivial⟩

theorem aeAlterReplicaLogDirsRequestDirTopic (v : Int) (D : DV) (T : Tree) (h : rvAlterReplicaLogDirsRequestDirTopic v D T) : (if (decide (v ≥ 2)) = true then (uv ((D.f 0).s.size + 1) ++ sb (D.f 0).s) else (be 2 (D.f 0).s.size ++ sb (D.f 0).s)) ++ (((if (decide (v ≥ 2)) = true then (uv ((D.f 1).l + 1)) else (be 4 (D.f 1).l)) ++ ((List.range (D.f 1).l).flatMap fun k13 => be 4 (((D.f 1).f k13).n))) ++ (if (decide (v ≥ 2)) = true then (uv D.u.length) ++ (tagsR D.u) else [])) = tEAlterReplicaLogDirsRequestDirTopic v T := by
  unfold rvAlterReplicaLogDirsRequestDirTopic at h
  obtain ⟨r0_, r1_, rU_, _⟩ := h
  unfold tEAlterReplicaLogDirsRequestDirTopic
  exact app_c (by simp only [r0_, sb_bs, bs_size]) (app_c (app_c (by simp only [r1_.1]) (flat_rel r1_.1 (fun i hi => by have h_ := r1_.2 i hi; simp only [h_, sb_bs, bs_size]))) ((if_c (fun hc_ => by rw [(rU_.1 hc_)]))))

theorem aeAlterReplicaLogDirsRequestDir (v : Int) (D : DV) (T : Tree) (h : rvAlterReplicaLogDirsRequestDir v D T) : (if (decide (v ≥ 2)) = true then (uv ((D.f 0).s.size + 1) ++ sb (D.f 0).s) else (be 2 (D.f 0).s.size ++ sb (D.f 0).s)) ++ (((if (decide (v ≥ 2)) = true then (uv ((D.f 1).l + 1)) else (be 4 (D.f 1).l)) ++ ((List.range (D.f 1).l).flatMap fun k8 => (if (decide (v ≥ 2)) = true then (uv ((((D.f 1).f k8).f 0).s.size + 1) ++ sb (((D.f 1).f k8).f 0).s) else (be 2 (((D.f 1).f k8).f 0).s.size ++ sb (((D.f 1).f k8).f 0).s)) ++ (((if (decide (v ≥ 2)) = true then (uv ((((D.f 1).f k8).f 1).l + 1)) else (be 4 (((D.f 1).f k8).f 1).l)) ++ ((List.range (((D.f 1).f k8).f 1).l).flatMap fun k13 => be 4 (((((D.f 1).f k8).f 1).f k13).n))) ++ (if (decide (v ≥ 2)) = true then (uv ((D.f 1).f k8).u.length) ++ (tagsR ((D.f 1).f k8).u) else [])))) ++ (if (decide (v ≥ 2)) = true then (uv D.u.length) ++ (tagsR D.u) else [])) = tEAlterReplicaLogDirsRequestDir v T := by
  unfold rvAlterReplicaLogDirsRequestDir at h
  obtain ⟨r0_, r1_, rU_, _⟩ := h
  unfold tEAlterReplicaLogDirsRequestDir
  exact app_c (by simp only [r0_, sb_bs, bs_size]) (app_c (app_c (by simp only [r1_.1]) (flat_rel r1_.1 (fun i hi => aeAlterReplicaLogDirsRequestDirTopic v _ _ (r1_.2 i hi)))) ((if_c (fun hc_ => by rw [(rU_.1 hc_)]))))

theorem avAlterReplicaLogDirsRequest (v : Int) (D : DV) (T : Tree) (h : rvAlterReplicaLogDirsRequest v D T) : aAlterReplicaLogDirsRequest v D = tAlterReplicaLogDirsRequest v T := by
  unfold rvAlterReplicaLogDirsRequest at h
  obtain ⟨r0_, rU_, _⟩ := h
  rw [teAlterReplicaLogDirsRequest]
  unfold aAlterReplicaLogDirsRequest tEAlterReplicaLogDirsRequest_
  exact app_c (app_c (by simp only [r0_.1]) (flat_rel r0_.1 (fun i hi => aeAlterReplicaLogDirsRequestDir v _ _ (r0_.2 i hi)))) (app_c (if_c (fun hc_ => by rw [(rU_.1 hc_)])) (rfl))

theorem bhAlterReplicaLogDirsRequest (v : Int) (T : Tree) (dst : Bs) {A1 A2 : Option Addr} {c1 c2 : Nat} {w : World} {F : Nat → Nat → Prop} (hd : Octs w F A1 c1 dst) (hs_ : Octs w F A2 c2 (tAlterReplicaLogDirsRequest (IntKind.i16.wrap v) T)) (hc : canAlterReplicaLogDirsRequest T) (hkey : T.ranged) (hroom : dst.length + (tAlterReplicaLogDirsRequest (IntKind.i16.wrap v) T).length + 16 ≤ 1099511627776) :
    Calls Tryz.prog 15 #[.int .i64 v, .slice A1 dst.length c1, .slice A2 (tAlterReplicaLogDirsRequest (IntKind.i16.wrap v) T).length c2] w (fun e w' => ∃ A c, e = .returned (.tuple #[.slice A (dst ++ (tAlterReplicaLogDirsRequest (IntKind.i16.wrap v) T)).length c, .bool true]) ∧ w'.ownsRow w.heap.size 5 1 (.slice A (dst ++ (tAlterReplicaLogDirsRequest (IntKind.i16.wrap v) T)).length c) (dst ++ (tAlterReplicaLogDirsRequest (IntKind.i16.wrap v) T)).length (bc (dst ++ (tAlterReplicaLogDirsRequest (IntKind.i16.wrap v) T))) ∧ Step w w' Nil) := by
  refine enter (n := 23) Tryz.func15 rfl Tryz.ntmps15 (by kernel_rfl) fun a hE => ?_
  have hW := WOk.start w Nil
  have hsm1 := Slots.small hd
  have hsm2 := Slots.small hs_
  refine go_sp [(0, .v (.int .i64 v)), (1, .v (.slice A1 dst.length c1)), (2, .v (.slice A2 ((tAlterReplicaLogDirsRequest (IntKind.i16.wrap v) T).length) c2))] hW hE fun a1 hE2 => ?_
  clear hE
  refine go_seq_region [0, 1] (by kernel_rfl) ?_
  refine of_op (wpOp_inline hE2 (f := 39) (vs := []) (d := 9) (n' := 3) (by kernel_rfl) Tryz.call39 Tryz.func39 rfl Tryz.ntmps39 (by kernel_rfl) fun a3 hE4 => ?_)
  refine go_sp [] hW hE4 fun a5 hE6 => ?_
  clear hE4
  refine go_seq_region [0] (by kernel_rfl) ?_
  refine of_op (wpOp_alloc hW hE6 (d := 1) (cs := [.int .i16 0, .slice none 0 0, .map none]) (by kernel_rfl) fun b7 a8 w9 hb10 hz11 hF12 hW13 hE14 => ?_)
  clear hE6 hW
  refine wpOps_nil ?_
  refine then_normal ?_
  refine go_seq_region [0] (by kernel_rfl) ?_
  refine of_op (wpOp_inline hE14 (f := 90) (vs := [.pointer (some ⟨b7, 0, none⟩)]) (d := 2) (n' := 2) (by kernel_rfl) Tryz.call90 Tryz.func90 rfl Tryz.ntmps90 (by kernel_rfl) fun a15 hE16 => ?_)
  have hE17 := hE16.recast 0 (.v (.pointer (some ⟨b7, 0, none⟩))) (.p 0 0) rfl rfl (Nat.le_of_ble_eq_true (n := 1) rfl)
  refine wp_skip ?_
  refine leave_end hE17 hW13.cells (v := .tuple #[]) (by kernel_rfl) ?_
  refine ⟨_, rfl, fun a18 hE19 => ?_⟩
  have hE20 : EnvOk 3 [⟨b7, 0, [.int .i16 0, .slice none 0 0, .map none], true⟩] [(2, .v (.tuple #[])), (1, .p 0 0)] _ := hE19.places (⟨rfl, rfl, trivial⟩)
  refine wpOps_nil ?_
  refine then_normal ?_
  refine go_sp [(0, .p 0 0)] hW13 hE20 fun a21 hE22 => ?_
  clear hE20
  refine wp_ret ?_
  refine leave hE22 hW13.cells (v := .pointer (some ⟨b7, 0, none⟩)) (by kernel_rfl) ?_
  refine ⟨_, rfl, fun a23 hE24 => ?_⟩
  have hE25 : EnvOk 23 [⟨b7, 0, [.int .i16 0, .slice none 0 0, .map none], true⟩] [(9, .v (.pointer (some ⟨b7, 0, none⟩))), (0, .v (.int .i64 v)), (1, .v (.slice A1 dst.length c1)), (2, .v (.slice A2 ((tAlterReplicaLogDirsRequest (IntKind.i16.wrap v) T).length) c2))] _ := hE24.places (trivial)
  have hE26 := hE25.recast 9 (.v (.pointer (some ⟨b7, 0, none⟩))) (.p 0 0) rfl rfl (Nat.le_of_ble_eq_true (n := 1) rfl)
  have hE27 := hE26.pick (ks := [0, 1, 2, 9]) (env' := [(0, .v (.int .i64 v)), (1, .v (.slice A1 dst.length c1)), (2, .v (.slice A2 ((tAlterReplicaLogDirsRequest (IntKind.i16.wrap v) T).length) c2)), (9, .p 0 0)]) (by kernel_rfl)
  clear hE25
  clear hE26
  refine go_rn [1] [] [(0, .v (.int .i64 v)), (1, .v (.slice A1 dst.length c1)), (2, .v (.slice A2 ((tAlterReplicaLogDirsRequest (IntKind.i16.wrap v) T).length) c2)), (8, .p 0 0)] hW13 hE27 fun a28 hE29 => ?_
  clear hE27
  refine wpOps_nil ?_
  refine then_normal ?_
  refine go_seq_region [0, 1, 2, 3] (by kernel_rfl) ?_
  refine go_rn [0, 1, 2] [3] [(1, .v (.slice A1 dst.length c1)), (2, .v (.slice A2 ((tAlterReplicaLogDirsRequest (IntKind.i16.wrap v) T).length) c2)), (8, .p 0 0), (10, .p 0 0), (12, .v (.int .i16 (IntKind.i16.wrap v)))] hW13 hE29 fun a30 hE31 => ?_
  clear hE29
  refine of_op (wpOp_inline hE31 (f := 43) (vs := [.pointer (some ⟨b7, 0, none⟩), .int .i16 (IntKind.i16.wrap v)]) (d := 13) (n' := 8) (by kernel_rfl) Tryz.call43 Tryz.func43 rfl Tryz.ntmps43 (by kernel_rfl) fun a32 hE33 => ?_)
  have hE34 := hE33.recast 0 (.v (.pointer (some ⟨b7, 0, none⟩))) (.p 0 0) rfl rfl (Nat.le_of_ble_eq_true (n := 1) rfl)
  refine go_region [0, 1, 2, 3, 4] (by kernel_rfl) ?_
  refine go_rn [0, 1, 2, 3] [4] [(5, .v (.int .i16 (IntKind.i16.wrap v))), (7, .p 0 0)] hW13 hE34 fun a35 hE36 => ?_
  clear hE34
  refine of_op (wpOp_store hW13 hE36 (oi := 0) (cs := [.int .i16 (IntKind.i16.wrap v), .slice none 0 0, .map none]) (by kernel_rfl) fun w37 hF38 hW39 hE40 => ?_)
  clear hE36 hW13
  refine wpOps_nil ?_
  refine leave_end hE40 hW39.cells (v := .tuple #[]) (by kernel_rfl) ?_
  refine ⟨_, rfl, fun a41 hE42 => ?_⟩
  have hE43 : EnvOk 23 [⟨b7, 0, [.int .i16 (IntKind.i16.wrap v), .slice none 0 0, .map none], true⟩] [(13, .v (.tuple #[])), (1, .v (.slice A1 dst.length c1)), (2, .v (.slice A2 ((tAlterReplicaLogDirsRequest (IntKind.i16.wrap v) T).length) c2)), (8, .p 0 0), (10, .p 0 0), (12, .v (.int .i16 (IntKind.i16.wrap v)))] _ := hE42.places (⟨rfl, rfl, trivial⟩)
  refine wpOps_nil ?_
  refine then_normal ?_
  refine wp_seq ?_
  refine go_seq_region [0, 1, 2, 3, 4] (by kernel_rfl) ?_
  refine go_rn [0, 1] [2, 3, 4] [(1, .v (.slice A1 dst.length c1)), (8, .p 0 0), (14, .p 0 0), (15, .v (.slice A2 ((tAlterReplicaLogDirsRequest (IntKind.i16.wrap v) T).length) c2))] hW39 hE43 fun a44 hE45 => ?_
  clear hE43
  have hW46 := hW39.addNil 5 1
  have hF47 := hW39.frNil 5 1
  clear hW39
  refine of_op (wpOp_append hW46 hE45 (k := 0) (d := 16) (t := 22) (e := 5) (size := 1) (bytes := 1) (A := none) (As := A2) (m0 := 0) (c := 0) (m := ((tAlterReplicaLogDirsRequest (IntKind.i16.wrap v) T).length)) (cs := c2) (xs := []) (news := bc (tAlterReplicaLogDirsRequest (IntKind.i16.wrap v) T)) (by kernel_rfl) (by kernel_rfl) rfl (hs_.move hW46.step nilM hW46.imm).src (hs_.move hW46.step nilM hW46.imm).cap (by first | omega | (simp only [List.length_nil]; omega) | (simp; omega)) fun A48 c49 a50 w51 hF52 hW53 hE54 => ?_)
  clear hE45 hW46
  have er55 : (⟨A48, c49, 5, 1, 0 + (tAlterReplicaLogDirsRequest (IntKind.i16.wrap v) T).length, [] ++ bc (tAlterReplicaLogDirsRequest (IntKind.i16.wrap v) T)⟩ : Rw) = brow A48 c49 5 (tAlterReplicaLogDirsRequest (IntKind.i16.wrap v) T) := by rw [List.nil_append, Nat.zero_add]
  obtain ⟨hW56, hF58⟩ := hW53.rowEq 0 [brow A48 c49 5 (tAlterReplicaLogDirsRequest (IntKind.i16.wrap v) T)] er55
  clear hW53
  have hE59 := EnvOk.pick hE54 (ks := [1, 8, 14, 15, 16]) (env' := [(1, .v (.slice A1 dst.length c1)), (8, .p 0 0), (14, .p 0 0), (15, .v (.slice A2 ((tAlterReplicaLogDirsRequest (IntKind.i16.wrap v) T).length) c2)), (16, .v (.slice A48 (0 + (tAlterReplicaLogDirsRequest (IntKind.i16.wrap v) T).length) c49))]) (by kernel_rfl)
  have hE57 := hE59.cast (env' := [(1, .v (.slice A1 dst.length c1)), (8, .p 0 0), (14, .p 0 0), (15, .v (.slice A2 ((tAlterReplicaLogDirsRequest (IntKind.i16.wrap v) T).length) c2)), (16, .v (.slice A48 ((tAlterReplicaLogDirsRequest (IntKind.i16.wrap v) T).length) c49))]) (by simp only [List.length_append, List.length_cons, List.length_nil, Nat.zero_add])
  clear hE54
  clear hE59
  refine of_op (wpOp_inline hE57 (f := 44) (vs := [.pointer (some ⟨b7, 0, none⟩), .slice A48 ((tAlterReplicaLogDirsRequest (IntKind.i16.wrap v) T).length) c49]) (d := 17) (n' := 8) (by kernel_rfl) Tryz.call44 Tryz.func44 rfl Tryz.ntmps44 (by kernel_rfl) fun a60 hE61 => ?_)
  have hE62 := hE61.recast 0 (.v (.pointer (some ⟨b7, 0, none⟩))) (.p 0 0) rfl rfl (Nat.le_of_ble_eq_true (n := 1) rfl)
  refine go_sp [(0, .p 0 0), (1, .v (.slice A48 ((tAlterReplicaLogDirsRequest (IntKind.i16.wrap v) T).length) c49))] hW56 hE62 fun a63 hE64 => ?_
  clear hE62
  refine go_seq_region [0, 1, 2, 3] (by kernel_rfl) ?_
  refine go_rn [0, 1] [2, 3] [(5, .p 0 0), (6, .v (.slice A48 ((tAlterReplicaLogDirsRequest (IntKind.i16.wrap v) T).length) c49))] hW56 hE64 fun a65 hE66 => ?_
  clear hE64
  have ho67 := hW56.giveUp (G := F) 0 [] (show _ = some (brow A48 c49 5 (tAlterReplicaLogDirsRequest (IntKind.i16.wrap v) T)) from rfl) (by omega)
  obtain ⟨hW68, hF69⟩ := hW56.cutR 0 []
  refine of_op (wpOp_call hE66 (f := 95) (vs := [.pointer (some ⟨b7, 0, none⟩), .slice A48 ((tAlterReplicaLogDirsRequest (IntKind.i16.wrap v) T).length) c49, .bool false]) (d := 7) (by kernel_rfl) Tryz.call95 (rdAlterReplicaLogDirsRequest (IntKind.i16.wrap v) T (Str.of hW68 0 rfl) ho67 (imm_n 0 rfl) hc hkey) ?_)
  rintro e_ w70 ⟨D71, rfl, hs72, hk73, hv74, hst75⟩
  replace hv74 := avAlterReplicaLogDirsRequest _ _ _ hv74
  obtain ⟨hW76, hF77, hl78⟩ := hW68.wrote 0 [⟨b7, 0, [.int .i16 (IntKind.i16.wrap v), .slice ((D71.f 0).A) ((D71.f 0).l) ((D71.f 0).c), .map D71.m], true⟩] rfl hst75 hs72
  have hk82 := mvAlterReplicaLogDirsRequest _ (Step.refl _ Nil) nilM hl78 hk73
  refine ⟨_, rfl, fun a79 hE80 => ?_⟩
  have hE81 : EnvOk 8 [⟨b7, 0, [.int .i16 (IntKind.i16.wrap v), .slice ((D71.f 0).A) ((D71.f 0).l) ((D71.f 0).c), .map D71.m], true⟩] [(7, .v (.nilIface)), (5, .p 0 0), (6, .v (.slice A48 ((tAlterReplicaLogDirsRequest (IntKind.i16.wrap v) T).length) c49))] _ := hE80.places (⟨rfl, rfl, trivial⟩)
  clear hE66
  refine go_rn [3] [] [(4, .v (.nilIface))] hW76 hE81 fun a83 hE84 => ?_
  clear hE81
  refine wpOps_nil ?_
  refine then_normal ?_
  refine wp_ret ?_
  refine leave hE84 hW76.cells (v := .nilIface) (by kernel_rfl) ?_
  refine ⟨_, rfl, fun a85 hE86 => ?_⟩
  have hE87 : EnvOk 23 [⟨b7, 0, [.int .i16 (IntKind.i16.wrap v), .slice ((D71.f 0).A) ((D71.f 0).l) ((D71.f 0).c), .map D71.m], true⟩] [(17, .v (.nilIface)), (1, .v (.slice A1 dst.length c1)), (8, .p 0 0), (14, .p 0 0), (15, .v (.slice A2 ((tAlterReplicaLogDirsRequest (IntKind.i16.wrap v) T).length) c2)), (16, .v (.slice A48 ((tAlterReplicaLogDirsRequest (IntKind.i16.wrap v) T).length) c49))] _ := hE86.places (⟨rfl, rfl, trivial⟩)
  refine go_rn [4] [] [(1, .v (.slice A1 dst.length c1)), (8, .p 0 0), (18, .v (.bool false))] hW76 hE87 fun a88 hE89 => ?_
  clear hE87
  refine wpOps_nil ?_
  refine then_normal ?_
  refine cond_false hE89 (b := false) (by kernel_rfl) rfl ?_
  refine wp_skip ?_
  refine then_normal ?_
  refine go_seq_region [0, 1, 2, 3, 4, 5] (by kernel_rfl) ?_
  refine go_rn [0, 1] [2, 3, 4, 5] [(19, .p 0 0), (20, .v (.slice A1 dst.length c1))] hW76 hE89 fun a90 hE91 => ?_
  clear hE89
  have hW92 := hW76.addNil 5 1
  have hF93 := hW76.frNil 5 1
  clear hW76
  refine of_op (wpOp_append hW92 hE91 (k := 0) (d := 21) (t := 22) (e := 5) (size := 1) (bytes := 1) (A := none) (As := A1) (m0 := 0) (c := 0) (m := dst.length) (cs := c1) (xs := []) (news := bc dst) (by kernel_rfl) (by kernel_rfl) rfl (hd.move hW92.step nilM hW92.imm).src (hd.move hW92.step nilM hW92.imm).cap (by first | omega | (simp only [List.length_nil]; omega) | (simp; omega)) fun A94 c95 a96 w97 hF98 hW99 hE100 => ?_)
  clear hE91 hW92
  have er101 : (⟨A94, c95, 5, 1, 0 + dst.length, [] ++ bc dst⟩ : Rw) = brow A94 c95 5 dst := by rw [List.nil_append, Nat.zero_add]
  obtain ⟨hW102, hF104⟩ := hW99.rowEq 0 [brow A94 c95 5 dst] er101
  clear hW99
  have hE105 := EnvOk.pick hE100 (ks := [19, 20, 21]) (env' := [(19, .p 0 0), (20, .v (.slice A1 dst.length c1)), (21, .v (.slice A94 (0 + dst.length) c95))]) (by kernel_rfl)
  have hE103 := hE105.cast (env' := [(19, .p 0 0), (20, .v (.slice A1 dst.length c1)), (21, .v (.slice A94 dst.length c95))]) (by simp only [List.length_append, List.length_cons, List.length_nil, Nat.zero_add])
  clear hE100
  clear hE105
  have hk106 := (mvAlterReplicaLogDirsRequest _ (Fr.trans (Fr.trans hF93 hF98) hF104).step immM (Fr.trans (Fr.trans hF93 hF98) hF104).to' hk82)
  have hat107 := hW102.strImm (G := F) 0 rfl
  have hk_ := mvAlterReplicaLogDirsRequest _ (Step.refl _ Nil) nilM (fun b o h_ _ => imm_cut h_) hk106
  rw [← hv74] at hroom ⊢
  refine of_op (wpOp_call hE103 (f := 45) (vs := [.pointer (some ⟨b7, 0, none⟩), .slice A94 dst.length c95]) (d := 22) (by kernel_rfl) Tryz.call45 (kAlterReplicaLogDirsRequest (IntKind.i16.wrap v) D71 b7 0 A94 c95 dst _ _ hat107 hk_ (imm_blk 0 rfl) (hW102.own 0 _ rfl) (by omega)) ?_)
  rintro e_ w110 ⟨A111, c112, rfl, ho113, hs114, hn115⟩
  refine ⟨_, rfl, fun a116 hE117 => ?_⟩
  have hW108 : WOk _ _ _ _ [brow A111 c112 5 (dst ++ aAlterReplicaLogDirsRequest (IntKind.i16.wrap v) D71)] := hW102.grow (k := 0) rfl hs114 ho113 hn115
  have hF109 := Fr.grow [⟨b7, 0, [.int .i16 (IntKind.i16.wrap v), .slice ((D71.f 0).A) ((D71.f 0).l) ((D71.f 0).c), .map D71.m], true⟩] (k := 0) (rs := [brow A94 c95 5 dst]) (r' := (brow A111 c112 5 (dst ++ aAlterReplicaLogDirsRequest (IntKind.i16.wrap v) D71))) rfl hs114 hn115
  clear hE103 hW102
  refine go_rn [4, 5] [] [(6, .v (.slice A111 ((dst ++ aAlterReplicaLogDirsRequest (IntKind.i16.wrap v) D71).length) c112)), (7, .v (.bool true))] hW108 hE117 fun a119 hE120 => ?_
  clear hE117
  refine wpOps_nil ?_
  refine then_normal ?_
  refine wp_ret ?_
  refine leave hE120 hW108.cells (v := .tuple #[.slice A111 ((dst ++ aAlterReplicaLogDirsRequest (IntKind.i16.wrap v) D71).length) c112, .bool true]) (by kernel_rfl) ?_
  exact ⟨A111, c112, rfl, own_fresh hW108 (k := 0) rfl rfl (hW108.own 0 _ rfl), hW108.step⟩

end Go.Proofs.YtnhgfbgdoelfoaaGreatDoor.ME

/- Printed by tools/mk.py. Own work. -/
namespace Go.Proofs.YtnhgfbgdoelfoaaGreatDoor.ME
open Go
open Go.RowKit
set_option linter.unusedVariables false
set_option linter.unusedSimpArgs false
set_option maxRecDepth 20000

theorem bhgAlterReplicaLogDirsRequest (v : Int) (T : Tree) (dst B : Bs) {A1 A2 : Option Addr} {c1 c2 : Nat} {w : World} {F : Nat → Nat → Prop} (hB : tAlterReplicaLogDirsRequest (IntKind.i16.wrap v) T = B) (hd : Octs w F A1 c1 dst) (hs_ : Octs w F A2 c2 B) (hc : canAlterReplicaLogDirsRequest T) (hkey : T.ranged) (hroom : dst.length + B.length + 16 ≤ 1099511627776) :
    Calls Tryz.prog 15 #[.int .i64 v, .slice A1 dst.length c1, .slice A2 B.length c2] w (fun e w' => ∃ A c, e = .returned (.tuple #[.slice A (dst ++ B).length c, .bool true]) ∧ w'.ownsRow w.heap.size 5 1 (.slice A (dst ++ B).length c) (dst ++ B).length (bc (dst ++ B)) ∧ Step w w' Nil) := by
  subst hB
  exact bhAlterReplicaLogDirsRequest v T dst hd hs_ hc hkey hroom

theorem xAlterReplicaLogDirsRequest (w : World) : Calls Tryz.prog 11 #[] w (Gives w (.int .i64 2)) := by
  refine enter (n := 4) Tryz.func11 rfl Tryz.ntmps11 (by kernel_rfl) fun a hE => ?_
  have hW := WOk.start w Nil
  refine go_sp [] hW hE fun a1 hE2 => ?_
  clear hE
  refine go_seq_region [0, 1, 2, 3] (by kernel_rfl) ?_
  refine of_op (wpOp_inline hE2 (f := 39) (vs := []) (d := 1) (n' := 3) (by kernel_rfl) Tryz.call39 Tryz.func39 rfl Tryz.ntmps39 (by kernel_rfl) fun a3 hE4 => ?_)
  refine go_sp [] hW hE4 fun a5 hE6 => ?_
  clear hE4
  refine go_seq_region [0] (by kernel_rfl) ?_
  refine of_op (wpOp_alloc hW hE6 (d := 1) (cs := [.int .i16 0, .slice none 0 0, .map none]) (by kernel_rfl) fun b7 a8 w9 hb10 hz11 hF12 hW13 hE14 => ?_)
  clear hE6 hW
  refine wpOps_nil ?_
  refine then_normal ?_
  refine go_seq_region [0] (by kernel_rfl) ?_
  refine of_op (wpOp_inline hE14 (f := 90) (vs := [.pointer (some ⟨b7, 0, none⟩)]) (d := 2) (n' := 2) (by kernel_rfl) Tryz.call90 Tryz.func90 rfl Tryz.ntmps90 (by kernel_rfl) fun a15 hE16 => ?_)
  have hE17 := hE16.recast 0 (.v (.pointer (some ⟨b7, 0, none⟩))) (.p 0 0) rfl rfl (Nat.le_of_ble_eq_true (n := 1) rfl)
  refine wp_skip ?_
  refine leave_end hE17 hW13.cells (v := .tuple #[]) (by kernel_rfl) ?_
  refine ⟨_, rfl, fun a18 hE19 => ?_⟩
  have hE20 : EnvOk 3 [⟨b7, 0, [.int .i16 0, .slice none 0 0, .map none], true⟩] [(2, .v (.tuple #[])), (1, .p 0 0)] _ := hE19.places (⟨rfl, rfl, trivial⟩)
  refine wpOps_nil ?_
  refine then_normal ?_
  refine go_sp [(0, .p 0 0)] hW13 hE20 fun a21 hE22 => ?_
  clear hE20
  refine wp_ret ?_
  refine leave hE22 hW13.cells (v := .pointer (some ⟨b7, 0, none⟩)) (by kernel_rfl) ?_
  refine ⟨_, rfl, fun a23 hE24 => ?_⟩
  have hE25 : EnvOk 4 [⟨b7, 0, [.int .i16 0, .slice none 0 0, .map none], true⟩] [(1, .v (.pointer (some ⟨b7, 0, none⟩)))] _ := hE24.places (trivial)
  have hE26 := hE25.recast 1 (.v (.pointer (some ⟨b7, 0, none⟩))) (.p 0 0) rfl rfl (Nat.le_of_ble_eq_true (n := 1) rfl)
  have hE27 := hE26.pick (ks := [1]) (env' := [(1, .p 0 0)]) (by kernel_rfl)
  clear hE25
  clear hE26
  refine of_op (wpOp_inline hE27 (f := 40) (vs := [.pointer (some ⟨b7, 0, none⟩)]) (d := 2) (n' := 3) (by kernel_rfl) Tryz.call40 Tryz.func40 rfl Tryz.ntmps40 (by kernel_rfl) fun a28 hE29 => ?_)
  have hE30 := hE29.recast 0 (.v (.pointer (some ⟨b7, 0, none⟩))) (.p 0 0) rfl rfl (Nat.le_of_ble_eq_true (n := 1) rfl)
  refine go_sp [] hW13 hE30 fun a31 hE32 => ?_
  clear hE30
  refine go_sp [(2, .v (.int .i16 2))] hW13 hE32 fun a33 hE34 => ?_
  clear hE32
  refine wp_ret ?_
  refine leave hE34 hW13.cells (v := .int .i16 2) (by kernel_rfl) ?_
  refine ⟨_, rfl, fun a35 hE36 => ?_⟩
  have hE37 : EnvOk 4 [⟨b7, 0, [.int .i16 0, .slice none 0 0, .map none], true⟩] [(2, .v (.int .i16 2)), (1, .p 0 0)] _ := hE36.places (⟨rfl, rfl, trivial⟩)
  refine go_rn [2, 3] [] [(0, .v (.int .i64 2))] hW13 hE37 fun a38 hE39 => ?_
  clear hE37
  refine wpOps_nil ?_
  refine then_normal ?_
  refine wp_ret ?_
  refine leave hE39 hW13.cells (v := .int .i64 2) (by kernel_rfl) ?_
  exact ⟨rfl, hW13.step⟩

theorem sAlterReplicaLogDirsRequest_depth : depths sAlterReplicaLogDirsRequestF ≤ 8 := by simp [sAlterReplicaLogDirsRequestF, Fld.depth.depths, Fld.depth]
theorem lawAlterReplicaLogDirsRequest (x : Int) (hx : 0 ≤ x) (hx' : x < 256) (dst : Bs) {A1 : Option Addr} {c1 : Nat} (ct : List Value) (t : Tree) (w : World) (F : Nat → Nat → Prop) (hd : Octs w F A1 c1 dst) (hdl : dst.length ≤ 1048576) (ht : TreeR w F ct t) (hroom1 : (writeB 8 sAlterReplicaLogDirsRequestF sAlterReplicaLogDirsRequestX (Int.tmod x (2 + 1)) t).length ≤ 1099511627776) (hroom : dst.length + (writeB 8 sAlterReplicaLogDirsRequestF sAlterReplicaLogDirsRequestX (Int.tmod x (2 + 1)) t).length + 16 ≤ 1099511627776) (hcan : canAlterReplicaLogDirsRequest (fitT (Int.tmod x (2 + 1)) 8 sAlterReplicaLogDirsRequestF t)) (hkey : Tree.ranged (fitT (Int.tmod x (2 + 1)) 8 sAlterReplicaLogDirsRequestF t)) (hpure : tAlterReplicaLogDirsRequest (IntKind.i16.wrap (Int.tmod x (2 + 1))) (fitT (Int.tmod x (2 + 1)) 8 sAlterReplicaLogDirsRequestF t) = writeB 8 sAlterReplicaLogDirsRequestF sAlterReplicaLogDirsRequestX (Int.tmod x (2 + 1)) t) :
    Calls Tryz.prog 3 #[.int .u8 x, .slice A1 dst.length c1, .agg ct.toArray] w (Gives w (.bool true)) := by
  obtain ⟨n1, s2, b3, l4, u5, A6, c7, A8, c9, A10, c11, xs12, rfl, rfl, h14, h15, h16, h17⟩ := ht.open_
  have hsm19 := h14.small
  have hsm20 := h15.small
  refine enter (n := 52) Tryz.func3 rfl Tryz.ntmps3 (by kernel_rfl) fun a hE => ?_
  have hW := WOk.start w Nil
  have hsm1 := Slots.small hd
  refine go_seq_region [0, 1] (by kernel_rfl) ?_
  refine of_op (wpOp_box hW hE (d := 5) (cs := [.int .i64 n1, .slice A6 s2.length c7, .bool b3, .slice A8 l4.length c9, .slice A10 u5.length c11]) (by kernel_rfl) fun b21 a22 w23 hb24 hz25 hF26 hW27 hE28 => ?_)
  clear hE hW
  refine go_rn [1] [] [(0, .v (.int .u8 x)), (1, .v (.slice A1 dst.length c1)), (5, .p 0 0)] hW27 hE28 fun a29 hE30 => ?_
  clear hE28
  refine wpOps_nil ?_
  refine then_normal ?_
  refine wp_seq ?_
  refine go_seq_region [0, 1, 2, 3, 4, 5, 6, 7] (by kernel_rfl) ?_
  refine go_rn [0, 1, 2, 3] [4, 5, 6, 7] [(0, .v (.int .u8 x)), (1, .v (.slice A1 dst.length c1)), (5, .p 0 0), (16, .v (.bool (decide (((dst.length : Nat) : Int) > 2147483647))))] hW27 hE30 fun a31 hE32 => ?_
  clear hE30
  have hc33 : (decide (((dst.length : Nat) : Int) > 2147483647)) = false := decide_eq_false (by omega)
  have hE34 := hE32.cast (env' := [(0, .v (.int .u8 x)), (1, .v (.slice A1 dst.length c1)), (5, .p 0 0), (16, .v (.bool false))]) (by rw [hc33])
  clear hE32
  refine go_rn [4] [5, 6, 7] [(0, .v (.int .u8 x)), (1, .v (.slice A1 dst.length c1)), (5, .p 0 0), (16, .v (.bool false)), (17, .v (.agg #[.int .i64 n1, .slice A6 s2.length c7, .bool b3, .slice A8 l4.length c9, .slice A10 u5.length c11]))] hW27 hE34 fun a35 hE36 => ?_
  clear hE34
  refine of_op (wpOp_call hE36 (f := 10) (vs := [.agg #[.int .i64 n1, .slice A6 s2.length c7, .bool b3, .slice A8 l4.length c9, .slice A10 u5.length c11]]) (d := 18) (by kernel_rfl) Tryz.call10 (lFits1 _ _ _ _ (ht.move hW27.step nilM hW27.imm)) ?_)
  rintro e_ w39 ⟨b38, rfl, hs37⟩
  refine ⟨_, rfl, fun a40 hE41 => ?_⟩
  have hW42 := hW27.next_nil hs37
  have hF43 := hW27.frN hs37
  clear hE36 hW27
  refine go_rn [6, 7] [] [(0, .v (.int .u8 x)), (1, .v (.slice A1 dst.length c1)), (5, .p 0 0), (20, .v (.bool (!b38)))] hW42 hE41 fun a44 hE45 => ?_
  clear hE41
  refine wpOps_nil ?_
  refine then_normal ?_
  refine cond_of hE45 (b := !b38) (by kernel_rfl) (fun hc46 => ?_) (fun hc46 => ?_)
  ·
    refine go_sp [(6, .v (.bool true))] hW42 hE45 fun a48 hE49 => ?_
    clear hE45
    refine wp_ret ?_
    refine then_ret ?_
    refine leave hE49 hW42.cells (v := .bool true) (by kernel_rfl) ?_
    exact ⟨rfl, hW42.step⟩
  ·
    refine wp_skip ?_
    refine then_normal ?_
    refine go_seq_region [0, 1] (by kernel_rfl) ?_
    refine of_op (wpOp_call hE45 (f := 11) (vs := []) (d := 21) (by kernel_rfl) Tryz.call11 (xAlterReplicaLogDirsRequest _) ?_)
    rintro e_ w52 ⟨rfl, hs51⟩
    refine ⟨_, rfl, fun a53 hE54 => ?_⟩
    have hW55 := hW42.next_nil hs51
    have hF56 := hW42.frN hs51
    clear hE45 hW42
    refine go_rn [1] [] [(0, .v (.int .u8 x)), (1, .v (.slice A1 dst.length c1)), (5, .p 0 0), (7, .v (.int .i64 2))] hW55 hE54 fun a57 hE58 => ?_
    clear hE54
    refine wpOps_nil ?_
    refine then_normal ?_
    refine wp_seq ?_
    refine go_sp [(0, .v (.int .u8 x)), (1, .v (.slice A1 dst.length c1)), (5, .p 0 0), (7, .v (.int .i64 2)), (23, .v (.bool false))] hW55 hE58 fun a59 hE60 => ?_
    clear hE58
    refine cond_false hE60 (b := false) (by kernel_rfl) rfl ?_
    refine wp_skip ?_
    refine then_normal ?_
    refine go_seq_region [0, 1, 2, 3, 4, 5, 6] (by kernel_rfl) ?_
    refine of_op (wpOp_call hE60 (f := 12) (vs := []) (d := 24) (by kernel_rfl) Tryz.call12 (sAlterReplicaLogDirsRequest _ (Imm F w w52 [⟨b21, 0, [.int .i64 n1, .slice A6 s2.length c7, .bool b3, .slice A8 l4.length c9, .slice A10 u5.length c11], true⟩] [])) ?_)
    rintro e_ w65 ⟨A63, c64, rfl, hr62, hs61⟩
    obtain ⟨xs66, h67, h68⟩ := hr62.move (Step.refl _ Nil) nilM (hW55.laid (G := F) hs61)
    refine ⟨_, rfl, fun a69 hE70 => ?_⟩
    have hW71 := hW55.next_nil hs61
    have hF72 := hW55.frN hs61
    clear hE60
    refine go_rn [1, 2] [3, 4, 5, 6] [(1, .v (.slice A1 dst.length c1)), (5, .p 0 0), (24, .v (.agg #[.slice A63 sAlterReplicaLogDirsRequestF.length c64, .int .i64 sAlterReplicaLogDirsRequestX])), (25, .v (.int .u8 x)), (26, .v (.int .i64 2))] hW71 hE70 fun a73 hE74 => ?_
    clear hE70
    refine of_op (wpOp_call hE74 (f := 13) (vs := [.int .u8 x, .int .i64 2]) (d := 27) (by kernel_rfl) Tryz.call13 (lVersion x 2 hx hx' (by decide) (by decide) _) ?_)
    rintro e_ w76 ⟨rfl, hs75⟩
    refine ⟨_, rfl, fun a77 hE78 => ?_⟩
    have hW79 := hW71.next_nil hs75
    have hF80 := hW71.frN hs75
    clear hE74 hW71
    refine of_op (wpOp_alloc hW79 hE78 (d := 8) (cs := [.slice none 0 0, .int .i64 0]) (by kernel_rfl) fun b81 a82 w83 hb84 hz85 hF86 hW87 hE88 => ?_)
    clear hE78 hW79
    refine of_op (wpOp_store hW87 hE88 (oi := 1) (cs := [.slice A63 sAlterReplicaLogDirsRequestF.length c64, .int .i64 sAlterReplicaLogDirsRequestX]) (by kernel_rfl) fun w89 hF90 hW91 hE92 => ?_)
    clear hE88 hW87
    refine go_rn [6] [] [(1, .v (.slice A1 dst.length c1)), (5, .p 0 0), (8, .p 1 0), (9, .v (.int .i64 (Int.tmod x (2 + 1))))] hW91 hE92 fun a93 hE94 => ?_
    clear hE92
    refine wpOps_nil ?_
    refine then_normal ?_
    refine wp_seq ?_
    refine go_sp [(1, .v (.slice A1 dst.length c1)), (5, .p 0 0), (8, .p 1 0), (9, .v (.int .i64 (Int.tmod x (2 + 1)))), (30, .v (.bool (decide (((dst.length : Nat) : Int) > 1000))))] hW91 hE94 fun a95 hE96 => ?_
    clear hE94
    refine cond_of hE96 (b := decide (((dst.length : Nat) : Int) > 1000)) (by kernel_rfl) (fun hc97 => ?_) (fun hc97 => ?_)
    ·
      have hf98 := of_decide_eq_true hc97
      refine go_sp [(6, .v (.bool true))] hW91 hE96 fun a99 hE100 => ?_
      clear hE96
      refine wp_ret ?_
      refine then_ret ?_
      refine leave hE100 hW91.cells (v := .bool true) (by kernel_rfl) ?_
      exact ⟨rfl, hW91.step⟩
    ·
      have hf101 := of_decide_eq_false hc97
      refine wp_skip ?_
      refine then_normal ?_
      refine go_seq_region [0, 1, 2, 3, 4] (by kernel_rfl) ?_
      refine go_rn [0, 1, 2] [3, 4] [(1, .v (.slice A1 dst.length c1)), (9, .v (.int .i64 (Int.tmod x (2 + 1)))), (31, .v (.agg #[.slice A63 sAlterReplicaLogDirsRequestF.length c64, .int .i64 sAlterReplicaLogDirsRequestX])), (32, .v (.int .i64 (Int.tmod x (2 + 1)))), (33, .v (.agg #[.int .i64 n1, .slice A6 s2.length c7, .bool b3, .slice A8 l4.length c9, .slice A10 u5.length c11]))] hW91 hE96 fun a102 hE103 => ?_
      clear hE96
      refine of_op (wpOp_call hE103 (f := 14) (vs := [.agg #[.slice A63 sAlterReplicaLogDirsRequestF.length c64, .int .i64 sAlterReplicaLogDirsRequestX], .int .i64 (Int.tmod x (2 + 1)), .agg #[.int .i64 n1, .slice A6 s2.length c7, .bool b3, .slice A8 l4.length c9, .slice A10 u5.length c11]]) (d := 34) (by kernel_rfl) Tryz.call14 (sWrite _ _ sAlterReplicaLogDirsRequestF sAlterReplicaLogDirsRequestX (Int.tmod x (2 + 1)) _ (Tree.mk n1 s2 b3 l4 u5) _ _ ⟨xs66, (h67.move (Fr.trans (Fr.trans hF80 hF86) hF90).step immM (Fr.trans (Fr.trans hF80 hF86) hF90).to'), (fun i_ x_ h_ => ((h68 i_ x_ h_).move (Fr.trans (Fr.trans hF80 hF86) hF90).step immM (Fr.trans (Fr.trans hF80 hF86) hF90).to'))⟩ sAlterReplicaLogDirsRequest_depth (ht.move hW91.step nilM hW91.imm) hroom1) ?_)
      rintro e_ w108 ⟨A106, c107, rfl, ho105, hs104⟩
      refine ⟨_, rfl, fun a109 hE110 => ?_⟩
      obtain ⟨hW111, hF112⟩ := hW91.frFresh hs104 (brow A106 c107 5 (writeB 8 sAlterReplicaLogDirsRequestF sAlterReplicaLogDirsRequestX (Int.tmod x (2 + 1)) (Tree.mk n1 s2 b3 l4 u5))) (Nat.le_refl _) ho105
      clear hE103 hW91
      refine go_rn [4] [] [(1, .v (.slice A1 dst.length c1)), (9, .v (.int .i64 (Int.tmod x (2 + 1)))), (10, .v (.slice A106 ((writeB 8 sAlterReplicaLogDirsRequestF sAlterReplicaLogDirsRequestX (Int.tmod x (2 + 1)) (Tree.mk n1 s2 b3 l4 u5)).length) c107))] hW111 hE110 fun a113 hE114 => ?_
      clear hE110
      refine wpOps_nil ?_
      refine then_normal ?_
      refine go_seq_region [0, 1, 2, 3, 4, 5, 6, 7, 8] (by kernel_rfl) ?_
      refine go_rn [0, 1, 2] [3, 4, 5, 6, 7, 8] [(1, .v (.slice A1 dst.length c1)), (10, .v (.slice A106 ((writeB 8 sAlterReplicaLogDirsRequestF sAlterReplicaLogDirsRequestX (Int.tmod x (2 + 1)) (Tree.mk n1 s2 b3 l4 u5)).length) c107)), (36, .v (.int .i64 (Int.tmod x (2 + 1)))), (37, .v (.slice A1 dst.length c1)), (38, .v (.slice A106 ((writeB 8 sAlterReplicaLogDirsRequestF sAlterReplicaLogDirsRequestX (Int.tmod x (2 + 1)) (Tree.mk n1 s2 b3 l4 u5)).length) c107))] hW111 hE114 fun a115 hE116 => ?_
      clear hE114
      refine of_op (wpOp_call hE116 (f := 15) (vs := [.int .i64 (Int.tmod x (2 + 1)), .slice A1 dst.length c1, .slice A106 ((writeB 8 sAlterReplicaLogDirsRequestF sAlterReplicaLogDirsRequestX (Int.tmod x (2 + 1)) (Tree.mk n1 s2 b3 l4 u5)).length) c107]) (d := 39) (by kernel_rfl) Tryz.call15 (bhgAlterReplicaLogDirsRequest (Int.tmod x (2 + 1)) _ dst (writeB 8 sAlterReplicaLogDirsRequestF sAlterReplicaLogDirsRequestX (Int.tmod x (2 + 1)) (Tree.mk n1 s2 b3 l4 u5)) hpure ((hd.move hW111.step nilM hW111.imm).move (Step.refl _ Nil) nilM allF) (octs_own (hW111.own 0 _ rfl) (by first | omega | (simp only [be_length]; exact Nat.le_trans (widthI_le _) (by decide)) | (have := hroom; omega) | (have := hmade; omega) | (simp only [List.length_append, List.length_nil]; omega)) (F := fun _ _ => True) (fun _ _ _ => trivial)) hcan hkey (by first | omega | (have := hroom1; omega))) ?_)
      rintro e_ w117 ⟨A118, c119, rfl, ho120, hs121⟩
      refine ⟨_, rfl, fun a122 hE123 => ?_⟩
      obtain ⟨hW124, hF125⟩ := hW111.frFresh hs121 (brow A118 c119 5 (dst ++ (writeB 8 sAlterReplicaLogDirsRequestF sAlterReplicaLogDirsRequestX (Int.tmod x (2 + 1)) (Tree.mk n1 s2 b3 l4 u5)))) (Nat.le_refl _) ho120
      clear hE116 hW111
      refine go_rn [4, 5, 6, 7, 8] [] [(1, .v (.slice A1 dst.length c1)), (10, .v (.slice A106 ((writeB 8 sAlterReplicaLogDirsRequestF sAlterReplicaLogDirsRequestX (Int.tmod x (2 + 1)) (Tree.mk n1 s2 b3 l4 u5)).length) c107)), (11, .v (.slice A118 ((dst ++ (writeB 8 sAlterReplicaLogDirsRequestF sAlterReplicaLogDirsRequestX (Int.tmod x (2 + 1)) (Tree.mk n1 s2 b3 l4 u5))).length) c119)), (12, .v (.bool true))] hW124 hE123 fun a126 hE127 => ?_
      clear hE123
      refine wpOps_nil ?_
      refine then_normal ?_
      refine go_seq_region [0, 1, 2, 3, 4, 5, 6, 7, 8, 9, 10] (by kernel_rfl) ?_
      refine go_rn [0, 1, 2] [3, 4, 5, 6, 7, 8, 9, 10] [(1, .v (.slice A1 dst.length c1)), (10, .v (.slice A106 ((writeB 8 sAlterReplicaLogDirsRequestF sAlterReplicaLogDirsRequestX (Int.tmod x (2 + 1)) (Tree.mk n1 s2 b3 l4 u5)).length) c107)), (43, .v (.bool true)), (44, .v (.slice A118 ((dst ++ (writeB 8 sAlterReplicaLogDirsRequestF sAlterReplicaLogDirsRequestX (Int.tmod x (2 + 1)) (Tree.mk n1 s2 b3 l4 u5))).length) c119))] hW124 hE127 fun a128 hE129 => ?_
      clear hE127
      refine of_op (wpOp_lit hW124 hE129 (e := 5) (size := 1) (len := 0) (cs := []) (d := 45) (by kernel_rfl) (by kernel_rfl) fun b130 a131 w132 hb133 hz134 hF135 hW136 hE137 => ?_)
      clear hE129 hW124
      have er138 : (⟨some ⟨b130, 0, none⟩, 0, 5, 1, 0, []⟩ : Rw) = brow (some ⟨b130, 0, none⟩) 0 5 ([] : Bs) := by first | rfl | (simp only [brow, bc, List.map, by8_wrap]; try rfl)
      obtain ⟨hW139, hF141⟩ := hW136.rowEq 2 [brow A106 c107 5 (writeB 8 sAlterReplicaLogDirsRequestF sAlterReplicaLogDirsRequestX (Int.tmod x (2 + 1)) (Tree.mk n1 s2 b3 l4 u5)), brow A118 c119 5 (dst ++ (writeB 8 sAlterReplicaLogDirsRequestF sAlterReplicaLogDirsRequestX (Int.tmod x (2 + 1)) (Tree.mk n1 s2 b3 l4 u5))), brow (some ⟨b130, 0, none⟩) 0 5 ([] : Bs)] er138
      clear hW136
      have hE143 := EnvOk.pick hE137 (ks := [1, 10, 43, 44, 45]) (env' := [(1, .v (.slice A1 dst.length c1)), (10, .v (.slice A106 ((writeB 8 sAlterReplicaLogDirsRequestF sAlterReplicaLogDirsRequestX (Int.tmod x (2 + 1)) (Tree.mk n1 s2 b3 l4 u5)).length) c107)), (43, .v (.bool true)), (44, .v (.slice A118 ((dst ++ (writeB 8 sAlterReplicaLogDirsRequestF sAlterReplicaLogDirsRequestX (Int.tmod x (2 + 1)) (Tree.mk n1 s2 b3 l4 u5))).length) c119)), (45, .v (.slice (some ⟨b130, 0, none⟩) 0 0))]) (by kernel_rfl)
      have hE142 := hE143.cast (env' := [(1, .v (.slice A1 dst.length c1)), (10, .v (.slice A106 ((writeB 8 sAlterReplicaLogDirsRequestF sAlterReplicaLogDirsRequestX (Int.tmod x (2 + 1)) (Tree.mk n1 s2 b3 l4 u5)).length) c107)), (43, .v (.bool true)), (44, .v (.slice A118 ((dst ++ (writeB 8 sAlterReplicaLogDirsRequestF sAlterReplicaLogDirsRequestX (Int.tmod x (2 + 1)) (Tree.mk n1 s2 b3 l4 u5))).length) c119)), (45, .v (.slice (some ⟨b130, 0, none⟩) (([] : Bs).length) 0))]) rfl
      clear hE137 hE143
      refine go_rn [4] [5, 6, 7, 8, 9, 10] [(10, .v (.slice A106 ((writeB 8 sAlterReplicaLogDirsRequestF sAlterReplicaLogDirsRequestX (Int.tmod x (2 + 1)) (Tree.mk n1 s2 b3 l4 u5)).length) c107)), (43, .v (.bool true)), (44, .v (.slice A118 ((dst ++ (writeB 8 sAlterReplicaLogDirsRequestF sAlterReplicaLogDirsRequestX (Int.tmod x (2 + 1)) (Tree.mk n1 s2 b3 l4 u5))).length) c119)), (45, .v (.slice (some ⟨b130, 0, none⟩) (([] : Bs).length) 0)), (46, .v (.slice A1 dst.length c1))] hW139 hE142 fun a144 hE145 => ?_
      clear hE142
      refine of_op (wpOp_append hW139 hE145 (k := 2) (d := 47) (t := 22) (e := 5) (size := 1) (bytes := 1) (A := some ⟨b130, 0, none⟩) (As := A1) (m0 := (([] : Bs).length)) (c := 0) (m := dst.length) (cs := c1) (xs := (bc ([] : Bs))) (news := bc dst) (by kernel_rfl) (by kernel_rfl) rfl (hd.move hW139.step nilM hW139.imm).src (hd.move hW139.step nilM hW139.imm).cap (by first | omega | (simp only [List.length_nil, List.length_append]; omega) | (simp; omega)) fun A146 c147 a148 w149 hF150 hW151 hE152 => ?_)
      clear hE145 hW139
      have er153 : (⟨A146, c147, 5, 1, ([] : Bs).length + dst.length, bc ([] : Bs) ++ bc dst⟩ : Rw) = brow A146 c147 5 (([] : Bs) ++ dst) := brow_eq (rfl) rfl
      obtain ⟨hW154, hF156⟩ := hW151.rowEq 2 [brow A106 c107 5 (writeB 8 sAlterReplicaLogDirsRequestF sAlterReplicaLogDirsRequestX (Int.tmod x (2 + 1)) (Tree.mk n1 s2 b3 l4 u5)), brow A118 c119 5 (dst ++ (writeB 8 sAlterReplicaLogDirsRequestF sAlterReplicaLogDirsRequestX (Int.tmod x (2 + 1)) (Tree.mk n1 s2 b3 l4 u5))), brow A146 c147 5 (([] : Bs) ++ dst)] er153
      clear hW151
      have hE157 := EnvOk.pick hE152 (ks := [10, 43, 44, 45, 46, 47]) (env' := [(10, .v (.slice A106 ((writeB 8 sAlterReplicaLogDirsRequestF sAlterReplicaLogDirsRequestX (Int.tmod x (2 + 1)) (Tree.mk n1 s2 b3 l4 u5)).length) c107)), (43, .v (.bool true)), (44, .v (.slice A118 ((dst ++ (writeB 8 sAlterReplicaLogDirsRequestF sAlterReplicaLogDirsRequestX (Int.tmod x (2 + 1)) (Tree.mk n1 s2 b3 l4 u5))).length) c119)), (45, .v (.slice (some ⟨b130, 0, none⟩) (([] : Bs).length) 0)), (46, .v (.slice A1 dst.length c1)), (47, .v (.slice A146 (([] : Bs).length + dst.length) c147))]) (by kernel_rfl)
      have hE155 := hE157.cast (env' := [(10, .v (.slice A106 ((writeB 8 sAlterReplicaLogDirsRequestF sAlterReplicaLogDirsRequestX (Int.tmod x (2 + 1)) (Tree.mk n1 s2 b3 l4 u5)).length) c107)), (43, .v (.bool true)), (44, .v (.slice A118 ((dst ++ (writeB 8 sAlterReplicaLogDirsRequestF sAlterReplicaLogDirsRequestX (Int.tmod x (2 + 1)) (Tree.mk n1 s2 b3 l4 u5))).length) c119)), (45, .v (.slice (some ⟨b130, 0, none⟩) (([] : Bs).length) 0)), (46, .v (.slice A1 dst.length c1)), (47, .v (.slice A146 ((([] : Bs) ++ dst).length) c147))]) (by simp only [List.length_append, List.length_cons, List.length_nil, Nat.zero_add])
      clear hE152
      clear hE157
      refine go_rn [6] [7, 8, 9, 10] [(43, .v (.bool true)), (44, .v (.slice A118 ((dst ++ (writeB 8 sAlterReplicaLogDirsRequestF sAlterReplicaLogDirsRequestX (Int.tmod x (2 + 1)) (Tree.mk n1 s2 b3 l4 u5))).length) c119)), (47, .v (.slice A146 ((([] : Bs) ++ dst).length) c147)), (48, .v (.slice A106 ((writeB 8 sAlterReplicaLogDirsRequestF sAlterReplicaLogDirsRequestX (Int.tmod x (2 + 1)) (Tree.mk n1 s2 b3 l4 u5)).length) c107))] hW154 hE155 fun a158 hE159 => ?_
      clear hE155
      refine of_op (wpOp_append hW154 hE159 (k := 2) (d := 49) (t := 22) (e := 5) (size := 1) (bytes := 1) (A := A146) (As := A106) (m0 := ((([] : Bs) ++ dst).length)) (c := c147) (m := ((writeB 8 sAlterReplicaLogDirsRequestF sAlterReplicaLogDirsRequestX (Int.tmod x (2 + 1)) (Tree.mk n1 s2 b3 l4 u5)).length)) (cs := c107) (xs := (bc (([] : Bs) ++ dst))) (news := bc (writeB 8 sAlterReplicaLogDirsRequestF sAlterReplicaLogDirsRequestX (Int.tmod x (2 + 1)) (Tree.mk n1 s2 b3 l4 u5))) (by kernel_rfl) (by kernel_rfl) rfl (own_src (hW154.own 0 _ rfl) (bc_one _)) (own_cap (hW154.own 0 _ rfl)) (by first | omega | (simp only [List.length_nil, List.length_append]; omega) | (simp; omega)) fun A160 c161 a162 w163 hF164 hW165 hE166 => ?_)
      clear hE159 hW154
      have er167 : (⟨A160, c161, 5, 1, (([] : Bs) ++ dst).length + (writeB 8 sAlterReplicaLogDirsRequestF sAlterReplicaLogDirsRequestX (Int.tmod x (2 + 1)) (Tree.mk n1 s2 b3 l4 u5)).length, bc (([] : Bs) ++ dst) ++ bc (writeB 8 sAlterReplicaLogDirsRequestF sAlterReplicaLogDirsRequestX (Int.tmod x (2 + 1)) (Tree.mk n1 s2 b3 l4 u5))⟩ : Rw) = brow A160 c161 5 (([] : Bs) ++ dst ++ (writeB 8 sAlterReplicaLogDirsRequestF sAlterReplicaLogDirsRequestX (Int.tmod x (2 + 1)) (Tree.mk n1 s2 b3 l4 u5))) := brow_eq (rfl) rfl
      obtain ⟨hW168, hF170⟩ := hW165.rowEq 2 [brow A106 c107 5 (writeB 8 sAlterReplicaLogDirsRequestF sAlterReplicaLogDirsRequestX (Int.tmod x (2 + 1)) (Tree.mk n1 s2 b3 l4 u5)), brow A118 c119 5 (dst ++ (writeB 8 sAlterReplicaLogDirsRequestF sAlterReplicaLogDirsRequestX (Int.tmod x (2 + 1)) (Tree.mk n1 s2 b3 l4 u5))), brow A160 c161 5 (([] : Bs) ++ dst ++ (writeB 8 sAlterReplicaLogDirsRequestF sAlterReplicaLogDirsRequestX (Int.tmod x (2 + 1)) (Tree.mk n1 s2 b3 l4 u5)))] er167
      clear hW165
      have hE171 := EnvOk.pick hE166 (ks := [43, 44, 47, 48, 49]) (env' := [(43, .v (.bool true)), (44, .v (.slice A118 ((dst ++ (writeB 8 sAlterReplicaLogDirsRequestF sAlterReplicaLogDirsRequestX (Int.tmod x (2 + 1)) (Tree.mk n1 s2 b3 l4 u5))).length) c119)), (47, .v (.slice A146 ((([] : Bs) ++ dst).length) c147)), (48, .v (.slice A106 ((writeB 8 sAlterReplicaLogDirsRequestF sAlterReplicaLogDirsRequestX (Int.tmod x (2 + 1)) (Tree.mk n1 s2 b3 l4 u5)).length) c107)), (49, .v (.slice A160 ((([] : Bs) ++ dst).length + (writeB 8 sAlterReplicaLogDirsRequestF sAlterReplicaLogDirsRequestX (Int.tmod x (2 + 1)) (Tree.mk n1 s2 b3 l4 u5)).length) c161))]) (by kernel_rfl)
      have hE169 := hE171.cast (env' := [(43, .v (.bool true)), (44, .v (.slice A118 ((dst ++ (writeB 8 sAlterReplicaLogDirsRequestF sAlterReplicaLogDirsRequestX (Int.tmod x (2 + 1)) (Tree.mk n1 s2 b3 l4 u5))).length) c119)), (47, .v (.slice A146 ((([] : Bs) ++ dst).length) c147)), (48, .v (.slice A106 ((writeB 8 sAlterReplicaLogDirsRequestF sAlterReplicaLogDirsRequestX (Int.tmod x (2 + 1)) (Tree.mk n1 s2 b3 l4 u5)).length) c107)), (49, .v (.slice A160 ((([] : Bs) ++ dst ++ (writeB 8 sAlterReplicaLogDirsRequestF sAlterReplicaLogDirsRequestX (Int.tmod x (2 + 1)) (Tree.mk n1 s2 b3 l4 u5))).length) c161))]) (by simp only [List.length_append, List.length_cons, List.length_nil, Nat.zero_add])
      clear hE166
      clear hE171
      refine of_op (wpOp_call hE169 (f := 16) (vs := [.slice A118 ((dst ++ (writeB 8 sAlterReplicaLogDirsRequestF sAlterReplicaLogDirsRequestX (Int.tmod x (2 + 1)) (Tree.mk n1 s2 b3 l4 u5))).length) c119, .slice A160 ((([] : Bs) ++ dst ++ (writeB 8 sAlterReplicaLogDirsRequestF sAlterReplicaLogDirsRequestX (Int.tmod x (2 + 1)) (Tree.mk n1 s2 b3 l4 u5))).length) c161]) (d := 50) (by kernel_rfl) Tryz.call16 (sSame _ _ _ _ (dst ++ (writeB 8 sAlterReplicaLogDirsRequestF sAlterReplicaLogDirsRequestX (Int.tmod x (2 + 1)) (Tree.mk n1 s2 b3 l4 u5))) (([] : Bs) ++ dst ++ (writeB 8 sAlterReplicaLogDirsRequestF sAlterReplicaLogDirsRequestX (Int.tmod x (2 + 1)) (Tree.mk n1 s2 b3 l4 u5))) _ _ (octs_own (hW168.own 1 _ rfl) (by first | omega | (simp only [be_length]; exact Nat.le_trans (widthI_le _) (by decide)) | (have := hroom; omega) | (have := hmade; omega) | (simp only [List.length_append, List.length_nil]; omega)) (F := fun _ _ => True) (fun _ _ _ => trivial)) (octs_own (hW168.own 2 _ rfl) (by first | omega | (simp only [be_length]; exact Nat.le_trans (widthI_le _) (by decide)) | (have := hroom; omega) | (have := hmade; omega) | (simp only [List.length_append, List.length_nil]; omega)) (F := fun _ _ => True) (fun _ _ _ => trivial))) ?_)
      rintro e_ w173 ⟨rfl, hs172⟩
      refine ⟨_, rfl, fun a174 hE175 => ?_⟩
      have hW176 := hW168.next_nil hs172
      have hF177 := hW168.frN hs172
      clear hE169 hW168
      refine go_rn [9, 10] [] [(6, .v (.bool (decide (dst ++ (writeB 8 sAlterReplicaLogDirsRequestF sAlterReplicaLogDirsRequestX (Int.tmod x (2 + 1)) (Tree.mk n1 s2 b3 l4 u5)) = ([] : Bs) ++ dst ++ (writeB 8 sAlterReplicaLogDirsRequestF sAlterReplicaLogDirsRequestX (Int.tmod x (2 + 1)) (Tree.mk n1 s2 b3 l4 u5))))))] hW176 hE175 fun a178 hE179 => ?_
      clear hE175
      refine wpOps_nil ?_
      refine then_normal ?_
      refine wp_ret ?_
      refine leave hE179 hW176.cells (v := .bool (decide (dst ++ (writeB 8 sAlterReplicaLogDirsRequestF sAlterReplicaLogDirsRequestX (Int.tmod x (2 + 1)) (Tree.mk n1 s2 b3 l4 u5)) = ([] : Bs) ++ dst ++ (writeB 8 sAlterReplicaLogDirsRequestF sAlterReplicaLogDirsRequestX (Int.tmod x (2 + 1)) (Tree.mk n1 s2 b3 l4 u5))))) (by kernel_rfl) ?_
      exact ⟨by simp, hW176.step⟩

theorem closeAlterReplicaLogDirsRequest (x : Int) (hx : 0 ≤ x ∧ x ≤ 255) (dst : Bs) {A1 : Option Addr} {c1 : Nat} (ct : List Value) (t : Tree) (w : World) (F : Nat → Nat → Prop) (hd : Octs w F A1 c1 dst) (hdl : dst.length ≤ 1048576) (ht : TreeR w F ct t) (hsz : t.size ≤ 8388608) : Calls Tryz.prog 3 #[.int .u8 x, .slice A1 dst.length c1, .agg ct.toArray] w (Gives w (.bool true)) := by
  obtain ⟨g0, g1⟩ := ver_ok (m := 2 + 1) hx.1 hx.2 (by decide) (by decide)
  have hp : tAlterReplicaLogDirsRequest (IntKind.i16.wrap (Int.tmod x (2 + 1))) (fitT (Int.tmod x (2 + 1)) 8 sAlterReplicaLogDirsRequestF t) = writeB 8 sAlterReplicaLogDirsRequestF sAlterReplicaLogDirsRequestX (Int.tmod x (2 + 1)) t := by rw [i16_small g0 g1]; exact pureAlterReplicaLogDirsRequest (Int.tmod x (2 + 1)) g0 g1 t
  have h1 := writeB_le 8 sAlterReplicaLogDirsRequestF sAlterReplicaLogDirsRequestX (Int.tmod x (2 + 1)) t
  have h2 : costL sAlterReplicaLogDirsRequestF ≤ 131000 := by decide +kernel
  have h3 := Nat.mul_le_mul h2 hsz
  exact lawAlterReplicaLogDirsRequest x hx.1 (by omega) dst ct t w F hd hdl ht (by omega) (by omega) (canfitAlterReplicaLogDirsRequest (Int.tmod x (2 + 1)) t) (ranged_fit _ _ _ _ ht.ranged) hp

end Go.Proofs.YtnhgfbgdoelfoaaGreatDoor.ME

/- FnBehindAlterReplicaLogDirsRequest: the statement: of every version, every slice of octets and every tree of the bulk that the statement speaks of the law returns true, and leaves its arguments as they are; and the card. Own work. -/
namespace Go.Proofs.YtnhgfbgdoelfoaaGreatDoor.ME
open Go
open Go.ChangeShapes Go.WideShapes Go.ChangeAt Go.RowKit
set_option linter.unusedVariables false
set_option linter.unusedSimpArgs false

theorem ownKnob_ : ownKnob Tryz.prog.godebug = none := by kernel_rfl
theorem laidOut_ : laidOutB Tryz.prog = true := by kernel_rfl
theorem treeTys : TreeTys Tryz.prog 26 23 24 83 22 2 4 81 5 := ⟨by kernel_rfl, by kernel_rfl, by kernel_rfl, by kernel_rfl, by kernel_rfl, by kernel_rfl, by kernel_rfl, by kernel_rfl, by kernel_rfl, by kernel_rfl⟩
theorem open_first {H : Type} {enc : TypeId × Value → H} {P : Program} {W : World} {base b' : Nat} {sp : Nat → Bool} {hd : Bool} {t0 t1 t2 : TypeId} {v0 v1 v2 : Value} {d0 : DataW H} {p0 : List MemPlace} (hu : P.underlying t0 = some (.int .u8))
    (hval : ∀ (j : Nat) (t : TypeId) (v : Value), #[t0, t1, t2][j]? = some t → #[v0, v1, v2][j]? = some v → Value.okWide P W .any base t v) (h : DataW.Trod enc P W b' sp hd t0 v0 d0 p0) : ∃ x, v0 = .int .u8 x ∧ d0 = .lit (.int .u8 x) ∧ p0 = [] ∧ (Lit.int .u8 x).wf = true :=
  open_int hu (hval 0 t0 v0 rfl rfl) h
theorem agg_of {v : Value} {cs : List Value} (h : v.cells.toList = cs) (h5 : cs.length = 5) : v = .agg cs.toArray := by
  subst h
  cases v <;> first | (simp [Value.cells] at h5; done) | simp [Value.cells]
theorem slice_of {A : Option Addr} {n c : Nat} {a : Option Addr} {l k : Nat} (h : (Value.slice a l k).cells.toList = [.slice A n c]) : Value.slice a l k = .slice A n c := by
  simpa [Value.cells] using h

set_option maxRecDepth 100000 in
theorem contract_ (H : Type) (enc : TypeId × Value → H) (W : World) (base : Nat) (args : Array Value) (ds gs : List (DataW H)) (before : List MemPlace)
    (hval : ∀ (j : Nat) t v, Tryz.f3.params[j]? = some t → args[j]? = some v → Value.okWide Tryz.prog W .any base t v)
    (hW : DataW.Whole enc Tryz.prog Tryz.f3.params.toList Rows.fnBehindAlterReplicaLogDirsRequestSpec.vars false W args.toList ds gs before) (hk : Rows.uptoSmall H (ds ++ gs) = true) :
    Calls Tryz.prog 3 args W fun e W' => ∃ v, e = .returned v ∧ Rows.fnBehindAlterReplicaLogDirsRequestSpec.post enc Tryz.prog Tryz.f3 false true false false W args v W' := by
  have hW' := hW
  obtain ⟨p, q, hA0, hV, rfl, hfz, hnd⟩ := hW
  have hA : DataW.TrodAll enc Tryz.prog W 0 (fun _ => true) true Tryz.f3.params.toList args.toList ds p := hA0
  rw [Tryz.params3] at hA hval
  obtain ⟨v0, v1, v2, d0, d1, d2, p0, p1, p2, rfl, rfl, rfl, h0, h1, h2⟩ := trodAll_three hA
  obtain ⟨rfl, rfl⟩ := trodVars_none hV
  obtain ⟨x, rfl, rfl, rfl, w0⟩ := open_first Tryz.underlying5 @hval h0
  have hx : 0 ≤ x ∧ x ≤ 255 := by simpa [Lit.wf, IntKind.min, IntKind.max, IntKind.signed, IntKind.bits] using w0
  have hb : Rows.uptoBulk d1 ≤ 1048576 ∧ Rows.uptoBulk d2 ≤ 1048576 := by
    have h : Rows.uptoBulkAll ([DataW.lit (H := H) (.int .u8 x), d1, d2] ++ []) ≤ 1048576 := of_decide_eq_true hk
    simp only [List.append_nil, Rows.uptoBulkAll] at h
    omega
  obtain ⟨fuel1, hf1⟩ := h1
  obtain ⟨A1, c1, dst, hcs1, hd, hdl⟩ := trod_octs treeTys hf1 hb.1
  obtain ⟨a1_, l1_, k1_, rfl⟩ := okWide_slice Tryz.underlying22 (hval 1 22 v1 rfl rfl)
  have hv1 := slice_of hcs1
  rw [hv1] at hW' hval ⊢
  obtain ⟨fuel, hf⟩ := h2
  obtain ⟨t, ht, hsz⟩ := trod_tree treeTys fuel _ _ hf hb.2
  have hdl' : dst.length ≤ 1048576 := Nat.le_trans hdl hb.1
  replace hsz : t.size ≤ 8388608 := Nat.le_trans hsz (by show 8 * Rows.uptoBulk d2 ≤ 8388608; omega)
  have hagg := agg_of rfl ht.five
  generalize v2.cells.toList = ct at ht hagg
  subst hagg
  clear hf hf1
  refine (closeAlterReplicaLogDirsRequest x hx dst _ t W (fun _ _ => True) hd hdl' ht hsz).mono fun e W' h => ?_
  obtain ⟨rfl, hs⟩ := h
  exact ⟨_, rfl, post_step hW' hs laidOut_ (by rw [Tryz.params3]; decide +kernel) rfl rfl rfl (fun _ _ _ => trodAll_cons_mk (shut_bool Tryz.underlying4 _) trodAll_mk0)⟩

/-- the door's own heap meets the condition -/
theorem door_met (os : Os) (args : Array Value) : laidMetH Tryz.prog Rows.fnBehindAlterReplicaLogDirsRequestUptoRow.laid ((World.doorLaid Tryz.prog 400 os).forCall (fun _ _ => 0) ⟨#[], args, []⟩).memory :=
  laidMetH_of_parts3 (fuel := 8) (laidMet_of_run' 8 (by kernel_rfl) (by kernel_rfl)) (by kernel_rfl) (by kernel_rfl)

set_option maxRecDepth 100000 in
theorem witness_ (os : Os) (H : Type) (enc : TypeId × Value → H) : ∃ (w : World) (tape : Tape) (i : Input), w.os = os ∧ (w.forCall tape i).Shaped Tryz.prog ∧ i.vars = [] ∧ Input.okWide Tryz.prog (w.forCall tape i) .any w.heap.size 3 i ∧
      (((Rows.OpenSpec.upto Rows.fnBehindAlterReplicaLogDirsRequestSpec).pre enc Tryz.prog Tryz.f3 Rows.fnBehindAlterReplicaLogDirsRequestUptoRow.domain false (w.forCall tape i).memory i.args ∧ laidMetH Tryz.prog Rows.fnBehindAlterReplicaLogDirsRequestUptoRow.laid (w.forCall tape i).memory) ∧ sizedMet enc Tryz.prog Tryz.f3 (Rows.OpenSpec.upto Rows.fnBehindAlterReplicaLogDirsRequestSpec) false (w.forCall tape i).memory i.args) ∧
      ({} : Assume).holds Tryz.prog (lone (Frame.enter Tryz.prog 3 i.args .normal) [] (w.forCall tape i)) := by
  have hok : Input.okWideB Tryz.prog ((World.doorLaid Tryz.prog 400 os).forCall (fun _ _ => 0) ⟨#[], #[.int .u8 0, .slice none 0 0, .agg #[.int .i64 0, .slice none 0 0, .bool false, .slice none 0 0, .slice none 0 0]], []⟩) 3 ⟨#[], #[.int .u8 0, .slice none 0 0, .agg #[.int .i64 0, .slice none 0 0, .bool false, .slice none 0 0, .slice none 0 0]], []⟩ = true := by kernel_rfl
  refine ⟨World.doorLaid Tryz.prog 400 os, fun _ _ => 0, ⟨#[], #[.int .u8 0, .slice none 0 0, .agg #[.int .i64 0, .slice none 0 0, .bool false, .slice none 0 0, .slice none 0 0]], []⟩, rfl, World.shaped_of_RefB (by kernel_rfl) (by kernel_rfl), (Input.okWide_of_okWideB (base := 0) hok).1, (Input.okWide_of_okWideB hok).2,
    ⟨⟨(OpenSpec.pre_some (k := Rows.uptoSmall) rfl _ _ _ _).2 ⟨[.lit (.int .u8 0), .nil, .agg [.lit (.int .i64 0), .nil, .lit (.bool false), .nil, .nil]], [], [], DataW.Whole_of_whole (fuel := 8) (x := ([.lit (.int .u8 0), .nil, .agg [.lit (.int .i64 0), .nil, .lit (.bool false), .nil, .nil]], [], [])) (by kernel_rfl), rfl, by kernel_rfl⟩, door_met os _⟩, sizedMet_of_sizedB (s := (Rows.OpenSpec.upto Rows.fnBehindAlterReplicaLogDirsRequestSpec).bare) (fuel := 8) (by kernel_rfl)⟩, ?_⟩
  simp only [Assume.holds]
  exact ⟨by simp, by simp, by simp, by simp, by simp⟩

set_option maxRecDepth 100000 in
theorem lifted_ (os : Os) (started : os.Started) (H : Type) (enc : TypeId × Value → H) (F : Stop.Interp) :
    ReturnsInHanded {} Tryz.checked os 3 .any (fun w args => ((Rows.OpenSpec.upto Rows.fnBehindAlterReplicaLogDirsRequestSpec).pre enc Tryz.prog Tryz.f3 Rows.fnBehindAlterReplicaLogDirsRequestUptoRow.domain false w args ∧ laidMetH Tryz.prog Rows.fnBehindAlterReplicaLogDirsRequestUptoRow.laid w) ∧ sizedMet enc Tryz.prog Tryz.f3 (Rows.OpenSpec.upto Rows.fnBehindAlterReplicaLogDirsRequestSpec) false w args) (((Rows.OpenSpec.upto Rows.fnBehindAlterReplicaLogDirsRequestSpec).at F).post enc Tryz.prog Tryz.f3 false true false false) := by
  refine returnsInHanded_of_calls ownKnob_ started (by kernel_rfl) (witness_ os H enc) ?_
  intro w tape i _ _ _ hok hpre hholds
  obtain ⟨_, _, _, fn', hfn', _, _, _, _, hval⟩ := hok
  have e : fn' = Tryz.f3 := Option.some.inj (hfn'.symm.trans Tryz.func3)
  subst e
  obtain ⟨ds, gs, before, hw, hc, hkk⟩ := (OpenSpec.pre_some (k := Rows.uptoSmall) rfl _ _ _ _).1 hpre.1.1
  have hw' := DataW.Whole.of_heap (w' := w.forCall tape i) (by rfl) hw
  refine (contract_ H enc (w.forCall tape i) w.heap.size i.args ds gs before hval hw' hkk).mono fun e W' ⟨v, he, hp⟩ => ?_
  subst he
  exact ChangeSpec.post_blind hp

theorem holds_ : Rows.FnBehindAlterReplicaLogDirsRequestUptoSaid :=
  OpenClaim.holds_of_cond 3 Tryz.f3 rfl rfl rfl rfl rfl rfl rfl ⟨rfl, rfl, rfl, rfl, rfl⟩ rfl rfl rfl rfl rfl (by kernel_rfl) Tryz.func3 (by kernel_rfl)
    (of_decide_eq_true (by kernel_rfl)) (by unfold Func.isWrapper; first | (rw [if_pos (by decide +kernel)]; kernel_rfl) | (rw [if_neg (by decide +kernel)]; exact ⟨rfl, rfl⟩))
    (fun os started H enc _ F => lifted_ os started H enc F)
end Go.Proofs.YtnhgfbgdoelfoaaGreatDoor.ME
namespace Go.Proofs.YtnhgfbgdoelfoaaGreatDoor
open Go
/-- the card -/
theorem fnBehindAlterReplicaLogDirsRequest_holds : Rows.FnBehindAlterReplicaLogDirsRequestUptoCardSaid :=
  Claim7.holds_tied_plain_at .later [] [.sentinel] true (true, "544f600f44352b395bebee5b6e6fddcfa705bf5f980908fbd89542c657c23d94") false ME.holds_ (fun _ h => by cases h) (by kernel_rfl) (fun _ h => by cases h) fnBehindAlterReplicaLogDirsRequestUpto_row_tie rfl ⟨rfl, rfl⟩ (by kernel_rfl) rfl
    (fun f fn hf hfn => by
      obtain rfl : f = 3 := Option.some.inj ((show Tryz.prog.funcNamed "pub-mailsack/laws.FnBehindAlterReplicaLogDirsRequest" = some 3 by kernel_rfl).symm.trans hf) |>.symm
      obtain rfl : fn = Tryz.f3 := (Option.some.inj (Tryz.func3.symm.trans hfn)).symm
      exact ⟨by kernel_rfl, fun j t ht => by
        rw [Tryz.params3] at ht
        have hm : t ∈ [5, 22, 26] := by simpa using Array.mem_of_getElem? ht
        have hall : ([5, 22, 26].all fun u => !Tryz.prog.wantsStandIn u) = true := by kernel_rfl
        exact (show Tryz.prog.wantsStandIn t = false by simpa using List.all_eq_true.1 hall t hm)⟩)
    (by kernel_rfl)
end Go.Proofs.YtnhgfbgdoelfoaaGreatDoor
