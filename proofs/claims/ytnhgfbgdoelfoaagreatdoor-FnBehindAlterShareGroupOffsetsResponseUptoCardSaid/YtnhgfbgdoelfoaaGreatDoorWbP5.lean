/- FnBehindAlterShareGroupOffsetsResponse: the statement: of every version, every slice of octets and every tree of the bulk that the statement speaks of the law returns true, and leaves its arguments as they are; and the card. Own work. -/
import Derived.Test.YtnhgfbgdoelfoaaGreatDoorWbP4
import Derived.Test.YtnhgfbgdoelfoaaGreatDoorTie
import Derived.Test.YtnhgfbgdoelfoaaGreatDoorCards
import Derived.LaidMore
import Derived.SevenTiedAt
/- Printed by tools/mk.py. Own work. -/
namespace Go.Proofs.YtnhgfbgdoelfoaaGreatDoor.ME
open Go
open Go.RowKit
set_option linter.unusedVariables false
set_option linter.unusedSimpArgs false
set_option maxRecDepth 20000

def tEAlterShareGroupOffsetsResponseTopicPartition (v : Int) (T : Tree) : Bs := (be 4 ((IntKind.i32.wrap (T.at_ 0).N))) ++ ((be 2 ((IntKind.i16.wrap (T.at_ 1).N))) ++ ((if (decide (v ≥ 0)) = true then (if (T.at_ 2).null = true then uv 0 else uv ((octOf (T.at_ 2)).length + 1) ++ (octOf (T.at_ 2))) else (if (T.at_ 2).null = true then be 2 (-1) else be 2 (octOf (T.at_ 2)).length ++ (octOf (T.at_ 2)))) ++ (if (decide (v ≥ 0)) = true then (uv T.U.length) ++ (tagsR T.U) else [])))
theorem posAlterShareGroupOffsetsResponseTopicPartition (v : Int) (T : Tree) : 0 < (tEAlterShareGroupOffsetsResponseTopicPartition v T).length := pos_l (pos_be (by decide))
def tEAlterShareGroupOffsetsResponseTopic (v : Int) (T : Tree) : Bs := (if (decide (v ≥ 0)) = true then (uv ((T.at_ 0).S.length + 1) ++ (T.at_ 0).S) else (be 2 (T.at_ 0).S.length ++ (T.at_ 0).S)) ++ ((sixteenB (T.at_ 1).S) ++ (((if (decide (v ≥ 0)) = true then (uv ((lst (T.at_ 2)).length + 1)) else (be 4 (lst (T.at_ 2)).length)) ++ ((lst (T.at_ 2)).flatMap (tEAlterShareGroupOffsetsResponseTopicPartition v))) ++ (if (decide (v ≥ 0)) = true then (uv T.U.length) ++ (tagsR T.U) else [])))
theorem posAlterShareGroupOffsetsResponseTopic (v : Int) (T : Tree) : 0 < (tEAlterShareGroupOffsetsResponseTopic v T).length := pos_l (pos_if (pos_l (uv_ne _)) (pos_l (pos_be (by decide))))
def tEAlterShareGroupOffsetsResponse_ (v : Int) (T : Tree) : Bs := (be 4 ((IntKind.i32.wrap (T.at_ 0).N))) ++ ((be 2 ((IntKind.i16.wrap (T.at_ 1).N))) ++ ((if (decide (v ≥ 0)) = true then (if (T.at_ 2).null = true then uv 0 else uv ((octOf (T.at_ 2)).length + 1) ++ (octOf (T.at_ 2))) else (if (T.at_ 2).null = true then be 2 (-1) else be 2 (octOf (T.at_ 2)).length ++ (octOf (T.at_ 2)))) ++ (((if (decide (v ≥ 0)) = true then (uv ((lst (T.at_ 3)).length + 1)) else (be 4 (lst (T.at_ 3)).length)) ++ ((lst (T.at_ 3)).flatMap (tEAlterShareGroupOffsetsResponseTopic v))) ++ ((if (decide (v ≥ 0)) = true then (uv T.U.length) ++ (tagsR T.U) else []) ++ (([] : Bs))))))
theorem teAlterShareGroupOffsetsResponse (v : Int) (T : Tree) : tAlterShareGroupOffsetsResponse v T = tEAlterShareGroupOffsetsResponse_ v T := rfl
def clAlterShareGroupOffsetsResponseTopicPartition (d : DV) : List Value := [.int .i32 ((d.f 0).n), .int .i16 ((d.f 1).n), .pointer ((d.f 2).A), .map d.m]
theorem mvAlterShareGroupOffsetsResponseTopicPartition : Moves okAlterShareGroupOffsetsResponseTopicPartition := by
  intro w w' F F' M d hs hM hF h
  unfold okAlterShareGroupOffsetsResponseTopicPartition at h ⊢
  obtain ⟨g0, g1, ⟨g2, g2l⟩, t1, t2, t3, _⟩ := h
  exact ⟨g0, g1, ⟨fun ad hA => by
    obtain ⟨b, o, h1, h2⟩ := g2 ad hA
    exact ⟨b, o, h1, h2.move hs hM hF⟩, g2l⟩, t1.move hs hM hF, t2, t3, trivial⟩

def clAlterShareGroupOffsetsResponseTopic (d : DV) : List Value := [.string ((d.f 0).s), byteCell ((d.f 1).o.getD 0 0), byteCell ((d.f 1).o.getD 1 0), byteCell ((d.f 1).o.getD 2 0), byteCell ((d.f 1).o.getD 3 0), byteCell ((d.f 1).o.getD 4 0), byteCell ((d.f 1).o.getD 5 0), byteCell ((d.f 1).o.getD 6 0), byteCell ((d.f 1).o.getD 7 0), byteCell ((d.f 1).o.getD 8 0), byteCell ((d.f 1).o.getD 9 0), byteCell ((d.f 1).o.getD 10 0), byteCell ((d.f 1).o.getD 11 0), byteCell ((d.f 1).o.getD 12 0), byteCell ((d.f 1).o.getD 13 0), byteCell ((d.f 1).o.getD 14 0), byteCell ((d.f 1).o.getD 15 0), .slice ((d.f 2).A) ((d.f 2).l) ((d.f 2).c), .map d.m]
theorem mvAlterShareGroupOffsetsResponseTopic : Moves okAlterShareGroupOffsetsResponseTopic := by
  intro w w' F F' M d hs hM hF h
  unfold okAlterShareGroupOffsetsResponseTopic at h ⊢
  obtain ⟨g0, g1, ⟨g2, g2l, g2e⟩, t1, t2, t3, _⟩ := h
  exact ⟨g0, g1, ⟨g2.move hs hM hF, g2l, fun i hi => mvAlterShareGroupOffsetsResponseTopicPartition _ hs hM hF (g2e i hi)⟩, t1.move hs hM hF, t2, t3, trivial⟩

def rvAlterShareGroupOffsetsResponseTopicPartition (v : Int) (D : DV) (T : Tree) : Prop := ((D.f 0).n = IntKind.i32.wrap (T.at_ 0).N) ∧ ((D.f 1).n = IntKind.i16.wrap (T.at_ 1).N) ∧ (((D.f 2).s = bs (octOf (T.at_ 2)) ∧ (D.f 2).A.isNone = (T.at_ 2).null)) ∧ (((decide (v ≥ 0)) = true → D.u = T.U) ∧ ((decide (v ≥ 0)) = false → D.u = [])) ∧ True
def rvAlterShareGroupOffsetsResponseTopic (v : Int) (D : DV) (T : Tree) : Prop := ((D.f 0).s = bs (T.at_ 0).S) ∧ ((D.f 1).o = sixteenB (T.at_ 1).S) ∧ (((D.f 2).l = (lst (T.at_ 2)).length ∧ ∀ i, i < (D.f 2).l → rvAlterShareGroupOffsetsResponseTopicPartition v ((D.f 2).f i) ((lst (T.at_ 2)).getD i .zero))) ∧ (((decide (v ≥ 0)) = true → D.u = T.U) ∧ ((decide (v ≥ 0)) = false → D.u = [])) ∧ True
def rvAlterShareGroupOffsetsResponse (v : Int) (D : DV) (T : Tree) : Prop := ((D.f 0).n = IntKind.i32.wrap (T.at_ 0).N) ∧ ((D.f 1).n = IntKind.i16.wrap (T.at_ 1).N) ∧ (((D.f 2).s = bs (octOf (T.at_ 2)) ∧ (D.f 2).A.isNone = (T.at_ 2).null)) ∧ (((D.f 3).l = (lst (T.at_ 3)).length ∧ ∀ i, i < (D.f 3).l → rvAlterShareGroupOffsetsResponseTopic v ((D.f 3).f i) ((lst (T.at_ 3)).getD i .zero))) ∧ (((decide (v ≥ 0)) = true → D.u = T.U) ∧ ((decide (v ≥ 0)) = false → D.u = [])) ∧ True
theorem nop172 (b o : Nat) (w : World) : Calls Tryz.prog 172 #[.pointer (some ⟨b, o, none⟩)] w (fun e w' => e = .returned (.tuple #[]) ∧ w' = w) := by
  refine enter (n := 2) (vs := [.pointer (some ⟨b, o, none⟩)]) Tryz.func172 rfl Tryz.ntmps172 (by kernel_rfl) fun a hE => ?_
  refine wp_skip ?_
  exact leave_end hE (WOk.start w Nil).cells (v := .tuple #[]) (by kernel_rfl) ⟨rfl, rfl⟩

theorem nop173 (b o : Nat) (w : World) : Calls Tryz.prog 173 #[.pointer (some ⟨b, o, none⟩)] w (fun e w' => e = .returned (.tuple #[]) ∧ w' = w) := by
  refine enter (n := 2) (vs := [.pointer (some ⟨b, o, none⟩)]) Tryz.func173 rfl Tryz.ntmps173 (by kernel_rfl) fun a hE => ?_
  refine wp_skip ?_
  exact leave_end hE (WOk.start w Nil).cells (v := .tuple #[]) (by kernel_rfl) ⟨rfl, rfl⟩

set_option maxHeartbeats 4000000 in
theorem rdAlterShareGroupOffsetsResponse (v : Int) (T : Tree) {bv : Nat} {A : Option Addr} {c : Nat} {w : World} {F : Nat → Nat → Prop} (hst : Str w bv [.int .i16 v, .int .i32 0, .int .i16 0, .pointer none, .slice none 0 0, .map none]) (ho : Octs w F A c (tAlterShareGroupOffsetsResponse v T)) (hFd : ∀ b o, F b o → ¬ (b = bv ∧ o < 6)) (hc : canAlterShareGroupOffsetsResponse T) (hR : T.ranged) :
    Calls Tryz.prog 118 #[.pointer (some ⟨bv, 0, none⟩), .slice A (tAlterShareGroupOffsetsResponse v T).length c, .bool false] w (fun e w' => ∃ D : DV, e = .returned .nilIface ∧ Str w' bv [.int .i16 v, .int .i32 ((D.f 0).n), .int .i16 ((D.f 1).n), .pointer ((D.f 2).A), .slice ((D.f 3).A) ((D.f 3).l) ((D.f 3).c), .map D.m] ∧ okAlterShareGroupOffsetsResponse w' (Fp F w) D ∧ rvAlterShareGroupOffsetsResponse v D T ∧ Step w w' (fun b o => b = bv ∧ o < 6)) := by
  refine enter (n := 186) Tryz.func118 rfl Tryz.ntmps118 (by kernel_rfl) fun a hE => ?_
  have hW := WOk.startStr hst
  have hE1 := (hE.grow ⟨bv, 0, [.int .i16 v, .int .i32 0, .int .i16 0, .pointer none, .slice none 0 0, .map none], true⟩).recast 0 (.v (.pointer (some ⟨bv, 0, none⟩))) (.p 0 0) rfl rfl (Nat.le_of_ble_eq_true (n := 1) rfl)
  refine go_sp [(0, .p 0 0), (1, .v (.slice A ((tAlterShareGroupOffsetsResponse v T).length) c)), (2, .v (.bool false))] hW hE1 fun a1 hE2 => ?_
  clear hE1
  refine go_seq_region [0, 1] (by kernel_rfl) ?_
  refine go_rn [0] [1] [(0, .p 0 0), (1, .v (.slice A ((tAlterShareGroupOffsetsResponse v T).length) c)), (2, .v (.bool false)), (31, .p 0 0)] hW hE2 fun a3 hE4 => ?_
  clear hE2
  refine of_op (wpOp_inline hE4 (f := 116) (vs := [.pointer (some ⟨bv, 0, none⟩)]) (d := 32) (n' := 2) (by kernel_rfl) Tryz.call116 Tryz.func116 rfl Tryz.ntmps116 (by kernel_rfl) fun a5 hE6 => ?_)
  have hE7 := hE6.recast 0 (.v (.pointer (some ⟨bv, 0, none⟩))) (.p 0 0) rfl rfl (Nat.le_of_ble_eq_true (n := 1) rfl)
  refine wp_skip ?_
  refine leave_end hE7 hW.cells (v := .tuple #[]) (by kernel_rfl) ?_
  refine ⟨_, rfl, fun a8 hE9 => ?_⟩
  have hE10 : EnvOk 186 [⟨bv, 0, [.int .i16 v, .int .i32 0, .int .i16 0, .pointer none, .slice none 0 0, .map none], true⟩] [(32, .v (.tuple #[])), (0, .p 0 0), (1, .v (.slice A ((tAlterShareGroupOffsetsResponse v T).length) c)), (2, .v (.bool false)), (31, .p 0 0)] _ := hE9.places (⟨rfl, rfl, trivial⟩)
  refine wpOps_nil ?_
  refine then_normal ?_
  refine go_seq_region [0, 1, 2, 3] (by kernel_rfl) ?_
  refine go_rn [0, 1] [2, 3] [(0, .p 0 0), (2, .v (.bool false)), (34, .v (.agg #[.slice A ((tAlterShareGroupOffsetsResponse v T).length) c, .bool false]))] hW hE10 fun a11 hE12 => ?_
  clear hE10
  refine of_op (wpOp_alloc hW hE12 (d := 7) (cs := [.slice none 0 0, .bool false]) (by kernel_rfl) fun b13 a14 w15 hb16 hz17 hF18 hW19 hE20 => ?_)
  clear hE12 hW
  refine of_op (wpOp_store hW19 hE20 (oi := 1) (cs := [.slice A ((tAlterShareGroupOffsetsResponse v T).length) c, .bool false]) (by kernel_rfl) fun w21 hF22 hW23 hE24 => ?_)
  clear hE20 hW19
  refine wpOps_nil ?_
  refine then_normal ?_
  have hS25 := RS.start (F := F) (s := tAlterShareGroupOffsetsResponse v T) hW23 hE24 (ho.move hW23.step (fun b_ o_ h_ _ => hFd b_ o_ h_) (hW23.immM hFd)) [(0, .p 1 0), (2, .v (.bool false)), (7, .p 0 0)]
  have e26 := hc
  have e26r := hR
  unfold canAlterShareGroupOffsetsResponse at e26
  obtain ⟨e26_0, e26_1, e26_2, ⟨e26_3, e26_3e⟩, e26_U, _⟩ := e26
  obtain ⟨R27, hR28⟩ : ∃ R, R = (if (decide (v ≥ 0)) = true then (uv T.U.length) ++ (tagsR T.U) else []) ++ ([] : Bs) := ⟨_, rfl⟩
  obtain ⟨R29, hR30⟩ : ∃ R, R = ((if (decide (v ≥ 0)) = true then (uv ((lst (T.at_ 3)).length + 1)) else (be 4 (lst (T.at_ 3)).length)) ++ ((lst (T.at_ 3)).flatMap (tEAlterShareGroupOffsetsResponseTopic v))) ++ R27 := ⟨_, rfl⟩
  obtain ⟨R31, hR32⟩ : ∃ R, R = (if (decide (v ≥ 0)) = true then (if (T.at_ 2).null = true then uv 0 else uv ((octOf (T.at_ 2)).length + 1) ++ (octOf (T.at_ 2))) else (if (T.at_ 2).null = true then be 2 (-1) else be 2 (octOf (T.at_ 2)).length ++ (octOf (T.at_ 2)))) ++ R29 := ⟨_, rfl⟩
  obtain ⟨R33, hR34⟩ : ∃ R, R = (be 2 ((IntKind.i16.wrap (T.at_ 1).N))) ++ R31 := ⟨_, rfl⟩
  obtain ⟨R35, hR36⟩ : ∃ R, R = (be 4 ((IntKind.i32.wrap (T.at_ 0).N))) ++ R33 := ⟨_, rfl⟩
  have hS37 := hS25.cast (t := R35) (by rw [teAlterShareGroupOffsetsResponse, hR36, hR34, hR32, hR30, hR28]; unfold tEAlterShareGroupOffsetsResponse_; simp only [List.append_assoc])
  clear hS25
  refine wp_seq ?_
  refine rs_sr [(0, .p 1 0), (2, .v (.bool false)), (7, .p 0 0), (8, .v (.int .i16 v))] hS37 fun _ hS38 => ?_
  clear hS37
  refine then_normal ?_
  refine wp_seq ?_
  refine rs_sr [(0, .p 1 0), (2, .v (.bool false)), (7, .p 0 0), (8, .v (.int .i16 v))] hS38 fun _ hS39 => ?_
  clear hS38
  refine then_normal ?_
  refine wp_seq ?_
  refine rs_sr [(0, .p 1 0), (2, .v (.bool false)), (7, .p 0 0), (9, .v (.bool (decide (v ≥ 0))))] hS39 fun _ hS40 => ?_
  clear hS39
  refine then_normal ?_
  refine wp_seq ?_
  refine rs_sr [(0, .p 1 0), (2, .v (.bool false)), (7, .p 0 0), (9, .v (.bool (decide (v ≥ 0))))] hS40 fun _ hS41 => ?_
  clear hS40
  refine then_normal ?_
  refine wp_seq ?_
  refine rs_sr [(2, .v (.bool false)), (7, .p 0 0), (9, .v (.bool (decide (v ≥ 0)))), (10, .p 1 0)] hS41 fun _ hS42 => ?_
  clear hS41
  refine then_normal ?_
  refine wp_seq ?_
  refine wp_seq ?_
  have hS43 := hS42.cast hR36
  clear hS42
  refine rs_ca0 (d := 44) [(2, .v (.bool false)), (7, .p 0 0), (9, .v (.bool (decide (v ≥ 0)))), (10, .p 1 0), (11, .v (.int .i32 (IntKind.i32.wrap (T.at_ 0).N)))] hS43 (pInt32 _ _) Tryz.call153 fun _ _ hS45 => ?_
  clear hS43
  refine then_normal ?_
  refine rs_sto [⟨bv, 0, [.int .i16 v, .int .i32 (IntKind.i32.wrap (T.at_ 0).N), .int .i16 0, .pointer none, .slice none 0 0, .map none], true⟩] 0 [(2, .v (.bool false)), (7, .p 0 0), (9, .v (.bool (decide (v ≥ 0)))), (10, .p 1 0)] hS45 fun _ _ hS46 => ?_
  clear hS45
  refine then_normal ?_
  refine wp_seq ?_
  refine wp_seq ?_
  have hS47 := hS46.cast hR34
  clear hS46
  refine rs_ca0 (d := 49) [(2, .v (.bool false)), (7, .p 0 0), (9, .v (.bool (decide (v ≥ 0)))), (10, .p 1 0), (12, .v (.int .i16 (IntKind.i16.wrap (T.at_ 1).N)))] hS47 (pInt16 _ _) Tryz.call161 fun _ _ hS49 => ?_
  clear hS47
  refine then_normal ?_
  refine rs_sto [⟨bv, 0, [.int .i16 v, .int .i32 (IntKind.i32.wrap (T.at_ 0).N), .int .i16 (IntKind.i16.wrap (T.at_ 1).N), .pointer none, .slice none 0 0, .map none], true⟩] 0 [(2, .v (.bool false)), (7, .p 0 0), (9, .v (.bool (decide (v ≥ 0)))), (10, .p 1 0)] hS49 fun _ _ hS50 => ?_
  clear hS49
  refine then_normal ?_
  refine wp_seq ?_
  refine wp_seq ?_
  refine rs_sr [(2, .v (.bool false)), (7, .p 0 0), (9, .v (.bool (decide (v ≥ 0)))), (10, .p 1 0)] hS50 fun _ hS51 => ?_
  clear hS50
  refine then_normal ?_
  refine wp_seq ?_
  have hS52 := hS51.cast hR32
  clear hS51
  refine wp_joinN (Mid := fun a_ w_ => ∃ (x53 : Option Addr) (P' : FactW), (∀ w F, P' w F → noF w F ∧ textF x53 (octOf (T.at_ 2)) w F ∧ x53.isNone = (T.at_ 2).null) ∧ RS w (fun b o => b = bv ∧ o < 6) F 186 b13 [⟨bv, 0, [.int .i16 v, .int .i32 (IntKind.i32.wrap (T.at_ 0).N), .int .i16 (IntKind.i16.wrap (T.at_ 1).N), .pointer none, .slice none 0 0, .map none], true⟩] [(2, .v (.bool false)), (7, .p 0 0), (9, .v (.bool (decide (v ≥ 0)))), (10, .p 1 0), (13, .v (.pointer x53))] P' R29 a_ w_) ?_ ?_
  ·
    refine wp_seq ?_
    refine rs_sr [(2, .v (.bool false)), (7, .p 0 0), (9, .v (.bool (decide (v ≥ 0)))), (10, .p 1 0), (54, .v (.bool (decide (v ≥ 0))))] hS52 fun _ hS57 => then_normal ?_
    clear hS52
    refine cond_of hS57.env_ (b := decide (v ≥ 0)) (by kernel_rfl) (fun hc58 => ?_) (fun hc58 => ?_)
    ·
      have hS59 := hS57.cast (t := (if (T.at_ 2).null = true then uv 0 else uv ((octOf (T.at_ 2)).length + 1) ++ (octOf (T.at_ 2))) ++ R29) (by rw [if_pos hc58])
      clear hS57
      refine wp_seq ?_
      refine rs_sr [(2, .v (.bool false)), (7, .p 0 0), (9, .v (.bool (decide (v ≥ 0)))), (10, .p 1 0), (55, .v (.bool false))] hS59 fun _ hS60 => then_normal ?_
      clear hS59
      refine cond_false hS60.env_ (b := false) (by kernel_rfl) (rfl) ?_
      refine rs_ca (d := 57) (fun x61 => [(2, .v (.bool false)), (7, .p 0 0), (9, .v (.bool (decide (v ≥ 0)))), (10, .p 1 0), (13, .v (.pointer x61))]) hS60 (pCompactNullableString (T.at_ 2).null (octOf (T.at_ 2)) e26_2 _) (fun _ => (MvF.text _ _).and (MvF.is _)) Tryz.call163 fun x61 P63 _ _ hP64 hS62 => ?_
      clear hS60
      refine then_normal ?_
      exact ⟨x61, _, fun w F h_ => ⟨(hP64 _ _ h_).1, (hP64 _ _ h_).2⟩, hS62.pk (env' := [(2, .v (.bool false)), (7, .p 0 0), (9, .v (.bool (decide (v ≥ 0)))), (10, .p 1 0), (13, .v (.pointer x61))])⟩
    ·
      have hS65 := hS57.cast (t := (if (T.at_ 2).null = true then be 2 (-1) else be 2 (octOf (T.at_ 2)).length ++ (octOf (T.at_ 2))) ++ R29) (by rw [if_neg (by rw [hc58]; decide)])
      clear hS57
      refine wp_seq ?_
      refine rs_sr [(2, .v (.bool false)), (7, .p 0 0), (9, .v (.bool (decide (v ≥ 0)))), (10, .p 1 0), (58, .v (.bool false))] hS65 fun _ hS66 => then_normal ?_
      clear hS65
      refine cond_false hS66.env_ (b := false) (by kernel_rfl) (rfl) ?_
      refine rs_ca (d := 60) (fun x67 => [(2, .v (.bool false)), (7, .p 0 0), (9, .v (.bool (decide (v ≥ 0)))), (10, .p 1 0), (13, .v (.pointer x67))]) hS66 (pNullableString (T.at_ 2).null (octOf (T.at_ 2)) e26_2 _) (fun _ => (MvF.text _ _).and (MvF.is _)) Tryz.call165 fun x67 P69 _ _ hP70 hS68 => ?_
      clear hS66
      refine then_normal ?_
      exact ⟨x67, _, fun w F h_ => ⟨(hP70 _ _ h_).1, (hP70 _ _ h_).2⟩, hS68.pk (env' := [(2, .v (.bool false)), (7, .p 0 0), (9, .v (.bool (decide (v ≥ 0)))), (10, .p 1 0), (13, .v (.pointer x67))])⟩
  rintro _ _ ⟨x53, P54, hP55, hS56⟩
  refine then_normal ?_
  refine rs_sto [⟨bv, 0, [.int .i16 v, .int .i32 (IntKind.i32.wrap (T.at_ 0).N), .int .i16 (IntKind.i16.wrap (T.at_ 1).N), .pointer x53, .slice none 0 0, .map none], true⟩] 0 [(2, .v (.bool false)), (7, .p 0 0), (9, .v (.bool (decide (v ≥ 0)))), (10, .p 1 0)] hS56 fun _ _ hS71 => ?_
  clear hS56
  refine then_normal ?_
  refine wp_seq ?_
  refine wp_seq ?_
  refine rs_sr [(2, .v (.bool false)), (7, .p 0 0), (9, .v (.bool (decide (v ≥ 0)))), (10, .p 1 0), (14, .v (.slice none 0 0))] hS71 fun _ hS72 => ?_
  clear hS71
  refine then_normal ?_
  refine wp_seq ?_
  refine rs_sr [(2, .v (.bool false)), (7, .p 0 0), (9, .v (.bool (decide (v ≥ 0)))), (10, .p 1 0), (15, .v (.slice none 0 0))] hS72 fun _ hS73 => ?_
  clear hS72
  refine then_normal ?_
  refine wp_seq ?_
  refine rs_sr [(2, .v (.bool false)), (7, .p 0 0), (9, .v (.bool (decide (v ≥ 0)))), (10, .p 1 0), (15, .v (.slice none 0 0))] hS73 fun _ hS74 => ?_
  clear hS73
  refine then_normal ?_
  refine wp_seq ?_
  have hS75 := hS74.cast hR30
  clear hS74
  have hS76 := hS75.cast (t := (if (decide (v ≥ 0)) = true then (uv ((lst (T.at_ 3)).length + 1)) else (be 4 (lst (T.at_ 3)).length)) ++ (((lst (T.at_ 3)).flatMap (tEAlterShareGroupOffsetsResponseTopic v)) ++ R27)) (by rw [List.append_assoc])
  clear hS75
  refine rs_alt0 (d1 := 71) (d2 := 72) [(2, .v (.bool false)), (7, .p 0 0), (9, .v (.bool (decide (v ≥ 0)))), (10, .p 1 0), (15, .v (.slice none 0 0)), (70, .v (.bool (decide (v ≥ 0))))] [(2, .v (.bool false)), (7, .p 0 0), (9, .v (.bool (decide (v ≥ 0)))), (10, .p 1 0), (15, .v (.slice none 0 0)), (16, .v (.int .i32 (((lst (T.at_ 3)).length : Nat) : Int)))] hS76 (pCompactArrayLen ((lst (T.at_ 3)).length) e26_3 _ (flat_ge' (posAlterShareGroupOffsetsResponseTopic v) _)) Tryz.call143 (pArrayLen ((lst (T.at_ 3)).length) e26_3 _ (flat_ge' (posAlterShareGroupOffsetsResponseTopic v) _)) Tryz.call144 fun _ _ hS78 => ?_
  clear hS76
  refine then_normal ?_
  refine wp_seq ?_
  refine wp_seq ?_
  refine rs_ok (d := 73) [(2, .v (.bool false)), (7, .p 0 0), (9, .v (.bool (decide (v ≥ 0)))), (10, .p 1 0), (15, .v (.slice none 0 0)), (16, .v (.int .i32 (((lst (T.at_ 3)).length : Nat) : Int))), (74, .v (.bool false))] hS78 (pOk _) Tryz.call145 fun _ _ hS80 => ?_
  clear hS78
  refine then_normal ?_
  refine cond_false hS80.env_ (b := false) (by kernel_rfl) (rfl) ?_
  refine wp_skip ?_
  refine then_normal ?_
  refine wp_seq ?_
  refine rs_cut0 (t := 137) (e := 143) (size := 19) (bytes := 64) (d := 77) (A0 := none) (m := 0) (cp := 0) [(2, .v (.bool false)), (7, .p 0 0), (9, .v (.bool (decide (v ≥ 0)))), (10, .p 1 0), (16, .v (.int .i32 (((lst (T.at_ 3)).length : Nat) : Int))), (76, .v (.slice none 0 0))] [(2, .v (.bool false)), (7, .p 0 0), (9, .v (.bool (decide (v ≥ 0)))), (10, .p 1 0), (15, .v (.slice none 0 0)), (16, .v (.int .i32 (((lst (T.at_ 3)).length : Nat) : Int)))] 1 hS80 fun _ hS81 => ?_
  clear hS80
  refine then_normal ?_
  refine wp_join2 (Mid := fun a_ w_ => ∃ (D82 : DV) (P' : FactW), (∀ w F, P' w F → P54 w F ∧ (Slots w F 19 D82.A D82.c D82.l (fun i => [.string (((D82.f i).f 0).s), byteCell (((D82.f i).f 1).o.getD 0 0), byteCell (((D82.f i).f 1).o.getD 1 0), byteCell (((D82.f i).f 1).o.getD 2 0), byteCell (((D82.f i).f 1).o.getD 3 0), byteCell (((D82.f i).f 1).o.getD 4 0), byteCell (((D82.f i).f 1).o.getD 5 0), byteCell (((D82.f i).f 1).o.getD 6 0), byteCell (((D82.f i).f 1).o.getD 7 0), byteCell (((D82.f i).f 1).o.getD 8 0), byteCell (((D82.f i).f 1).o.getD 9 0), byteCell (((D82.f i).f 1).o.getD 10 0), byteCell (((D82.f i).f 1).o.getD 11 0), byteCell (((D82.f i).f 1).o.getD 12 0), byteCell (((D82.f i).f 1).o.getD 13 0), byteCell (((D82.f i).f 1).o.getD 14 0), byteCell (((D82.f i).f 1).o.getD 15 0), .slice (((D82.f i).f 2).A) (((D82.f i).f 2).l) (((D82.f i).f 2).c), .map ((D82.f i).m)]) ∧ D82.l ≤ 1000000 ∧ ∀ i, i < D82.l → okAlterShareGroupOffsetsResponseTopic w F (D82.f i)) ∧ (D82.l = (lst (T.at_ 3)).length ∧ ∀ i, i < D82.l → rvAlterShareGroupOffsetsResponseTopic v (D82.f i) ((lst (T.at_ 3)).getD i .zero))) ∧ RS w (fun b o => b = bv ∧ o < 6) F 186 b13 [⟨bv, 0, [.int .i16 v, .int .i32 (IntKind.i32.wrap (T.at_ 0).N), .int .i16 (IntKind.i16.wrap (T.at_ 1).N), .pointer x53, .slice none 0 0, .map none], true⟩] [(7, .p 0 0), (9, .v (.bool (decide (v ≥ 0)))), (10, .p 1 0), (15, .v (.slice D82.A D82.l D82.c))] P' R27 a_ w_) ?_ ?_
  ·
    refine wp_seq ?_
    refine rs_sr [(2, .v (.bool false)), (7, .p 0 0), (9, .v (.bool (decide (v ≥ 0)))), (10, .p 1 0), (15, .v (.slice none 0 0)), (16, .v (.int .i32 (((lst (T.at_ 3)).length : Nat) : Int))), (79, .v (.bool (decide ((((lst (T.at_ 3)).length : Nat) : Int) > 0))))] hS81 fun _ hS86 => then_normal ?_
    clear hS81
    refine cond_of hS86.env_ (b := decide ((((lst (T.at_ 3)).length : Nat) : Int) > 0)) (by kernel_rfl) (fun hc87 => ?_) (fun hc87 => ?_)
    ·
      have hn_g88 : 0 < (lst (T.at_ 3)).length := by have h_ := of_decide_eq_true hc87; omega
      refine go_region [0, 1, 2, 3] (by kernel_rfl) ?_
      refine rs_rn [0, 1] [2, 3] [(2, .v (.bool false)), (7, .p 0 0), (9, .v (.bool (decide (v ≥ 0)))), (10, .p 1 0), (16, .v (.int .i32 (((lst (T.at_ 3)).length : Nat) : Int))), (80, .v (.slice none 0 0)), (81, .v (.int .i32 (((lst (T.at_ 3)).length : Nat) : Int)))] hS86 fun _ hS90 => ?_
      clear hS86
      refine of_op (rs_appendZ (d := 82) (t := 137) (tn := 21) (e := 143) (size := 19) (bytes := 64) (k := .i32) (kn := .i32) (q := (((lst (T.at_ 3)).length : Nat) : Int)) (j := (lst (T.at_ 3)).length) (.agg #[.string ByteArray.empty, .int .u8 0, .int .u8 0, .int .u8 0, .int .u8 0, .int .u8 0, .int .u8 0, .int .u8 0, .int .u8 0, .int .u8 0, .int .u8 0, .int .u8 0, .int .u8 0, .int .u8 0, .int .u8 0, .int .u8 0, .int .u8 0, .slice none 0 0, .map none]) hS90 (fun g88 c89 _ _ hg_g88 hcap_g88 hS91 => ?_) rfl hn_g88 (by have := e26_3; omega))
      clear hS90
      refine rs_rn [3] [] [(2, .v (.bool false)), (7, .p 0 0), (9, .v (.bool (decide (v ≥ 0)))), (10, .p 1 0), (15, .v (.slice (some ⟨g88, 0, none⟩) ((lst (T.at_ 3)).length) c89)), (16, .v (.int .i32 (((lst (T.at_ 3)).length : Nat) : Int)))] hS91 fun _ hS92 => wpOps_nil ?_
      clear hS91
      refine then_normal ?_
      refine wp_seq ?_
      refine rs_sr [(2, .v (.bool false)), (7, .p 0 0), (9, .v (.bool (decide (v ≥ 0)))), (10, .p 1 0), (15, .v (.slice (some ⟨g88, 0, none⟩) ((lst (T.at_ 3)).length) c89)), (16, .v (.int .i32 (((lst (T.at_ 3)).length : Nat) : Int))), (17, .v (.int .i32 0))] hS92 fun _ hS93 => ?_
      clear hS92
      refine then_normal ?_
      refine wp_block ?_
      have hmP99 := hS93.mv
      have hS100 := (hS93.cast (t := (lst (T.at_ 3)).flatMap (tEAlterShareGroupOffsetsResponseTopic v) ++ R27) rfl).pk (env' := [(2, .v (.bool false)), (7, .p 0 0), (9, .v (.bool (decide (v ≥ 0)))), (10, .p 1 0), (15, .v (.slice (some ⟨g88, 0, none⟩) ((lst (T.at_ 3)).length) c89)), (16, .v (.int .i32 (((lst (T.at_ 3)).length : Nat) : Int))), (17, .v (.int .i32 ((0 : Nat) : Int)))])
      clear hS93
      refine rs_loop (tb := [⟨bv, 0, [.int .i16 v, .int .i32 (IntKind.i32.wrap (T.at_ 0).N), .int .i16 (IntKind.i16.wrap (T.at_ 1).N), .pointer x53, .slice none 0 0, .map none], true⟩]) (z := .agg #[.string ByteArray.empty, .int .u8 0, .int .u8 0, .int .u8 0, .int .u8 0, .int .u8 0, .int .u8 0, .int .u8 0, .int .u8 0, .int .u8 0, .int .u8 0, .int .u8 0, .int .u8 0, .int .u8 0, .int .u8 0, .int .u8 0, .int .u8 0, .slice none 0 0, .map none]) (cl := clAlterShareGroupOffsetsResponseTopic) (ok := okAlterShareGroupOffsetsResponseTopic) (rel := (rvAlterShareGroupOffsetsResponseTopic v)) (L := lst (T.at_ 3)) (size := 19) (tEAlterShareGroupOffsetsResponseTopic v) R27 (fun k => [(2, .v (.bool false)), (7, .p 0 0), (9, .v (.bool (decide (v ≥ 0)))), (10, .p 1 0), (15, .v (.slice (some ⟨g88, 0, none⟩) ((lst (T.at_ 3)).length) c89)), (16, .v (.int .i32 (((lst (T.at_ 3)).length : Nat) : Int))), (17, .v (.int .i32 ((k : Nat) : Int)))]) hS100 mvAlterShareGroupOffsetsResponseTopic (fun k94 t95 _ _ ht96 hk97 hS98 => ?_) (fun _ _ hS101 => ?_)
      ·
        obtain ⟨P102, hP103, hS104⟩ : ∃ P', (∀ w F, P' w F → (P54 w F ∧ doneF g88 19 clAlterShareGroupOffsetsResponseTopic okAlterShareGroupOffsetsResponseTopic (rvAlterShareGroupOffsetsResponseTopic v) (lst (T.at_ 3)) k94 w F)) ∧ RS w (fun b o => b = bv ∧ o < 6) F 186 b13 [⟨bv, 0, [.int .i16 v, .int .i32 (IntKind.i32.wrap (T.at_ 0).N), .int .i16 (IntKind.i16.wrap (T.at_ 1).N), .pointer x53, .slice none 0 0, .map none], true⟩, restO g88 19 (.agg #[.string ByteArray.empty, .int .u8 0, .int .u8 0, .int .u8 0, .int .u8 0, .int .u8 0, .int .u8 0, .int .u8 0, .int .u8 0, .int .u8 0, .int .u8 0, .int .u8 0, .int .u8 0, .int .u8 0, .int .u8 0, .int .u8 0, .int .u8 0, .slice none 0 0, .map none]) ((lst (T.at_ 3)).length) k94] [(2, .v (.bool false)), (7, .p 0 0), (9, .v (.bool (decide (v ≥ 0)))), (10, .p 1 0), (15, .v (.slice (some ⟨g88, 0, none⟩) ((lst (T.at_ 3)).length) c89)), (16, .v (.int .i32 (((lst (T.at_ 3)).length : Nat) : Int))), (17, .v (.int .i32 ((k94 : Nat) : Int)))] P' ((tEAlterShareGroupOffsetsResponseTopic v) t95 ++ (((lst (T.at_ 3)).drop (k94 + 1)).flatMap (tEAlterShareGroupOffsetsResponseTopic v) ++ R27)) _ _ := ⟨_, fun _ _ h => h, hS98⟩
        clear hS98
        obtain ⟨R105, hR106⟩ : ∃ R, R = ((lst (T.at_ 3)).drop (k94 + 1)).flatMap (tEAlterShareGroupOffsetsResponseTopic v) ++ R27 := ⟨_, rfl⟩
        have e107 := (e26_3e t95 (List.mem_of_getElem? ht96))
        have e107r := (ranged_lst (ranged_at e26r 3) t95 (List.mem_of_getElem? ht96))
        unfold canAlterShareGroupOffsetsResponseTopic at e107
        obtain ⟨e107_0, e107_1, ⟨e107_2, e107_2e⟩, e107_U, _⟩ := e107
        obtain ⟨R108, hR109⟩ : ∃ R, R = (if (decide (v ≥ 0)) = true then (uv t95.U.length) ++ (tagsR t95.U) else []) ++ R105 := ⟨_, rfl⟩
        obtain ⟨R110, hR111⟩ : ∃ R, R = ((if (decide (v ≥ 0)) = true then (uv ((lst (t95.at_ 2)).length + 1)) else (be 4 (lst (t95.at_ 2)).length)) ++ ((lst (t95.at_ 2)).flatMap (tEAlterShareGroupOffsetsResponseTopicPartition v))) ++ R108 := ⟨_, rfl⟩
        obtain ⟨R112, hR113⟩ : ∃ R, R = (sixteenB (t95.at_ 1).S) ++ R110 := ⟨_, rfl⟩
        obtain ⟨R114, hR115⟩ : ∃ R, R = (if (decide (v ≥ 0)) = true then (uv ((t95.at_ 0).S.length + 1) ++ (t95.at_ 0).S) else (be 2 (t95.at_ 0).S.length ++ (t95.at_ 0).S)) ++ R112 := ⟨_, rfl⟩
        have hS116 := hS104.cast (t := R114) (by rw [hR115, hR113, hR111, hR109, ← hR106]; unfold tEAlterShareGroupOffsetsResponseTopic; simp only [List.append_assoc])
        clear hS104
        refine wp_seq ?_
        refine wp_seq ?_
        refine rs_sr [(2, .v (.bool false)), (7, .p 0 0), (9, .v (.bool (decide (v ≥ 0)))), (10, .p 1 0), (15, .v (.slice (some ⟨g88, 0, none⟩) ((lst (T.at_ 3)).length) c89)), (16, .v (.int .i32 (((lst (T.at_ 3)).length : Nat) : Int))), (17, .v (.int .i32 ((k94 : Nat) : Int))), (85, .v (.bool (decide (((k94 : Nat) : Int) < (((lst (T.at_ 3)).length : Nat) : Int)))))] hS116 fun _ hS117 => then_normal ?_
        clear hS116
        refine cond_true hS117.env_ (b := decide (((k94 : Nat) : Int) < (((lst (T.at_ 3)).length : Nat) : Int))) (by kernel_rfl) (decide_eq_true (by omega)) ?_
        refine wp_skip ?_
        refine then_normal ?_
        refine wp_seq ?_
        refine wp_block ?_
        refine wp_seq ?_
        refine rs_elem (t := 137) (e := 143) (size := 19) (bytes := 64) (d := 90) (tb := [⟨bv, 0, [.int .i16 v, .int .i32 (IntKind.i32.wrap (T.at_ 0).N), .int .i16 (IntKind.i16.wrap (T.at_ 1).N), .pointer x53, .slice none 0 0, .map none], true⟩]) (z := .agg #[.string ByteArray.empty, .int .u8 0, .int .u8 0, .int .u8 0, .int .u8 0, .int .u8 0, .int .u8 0, .int .u8 0, .int .u8 0, .int .u8 0, .int .u8 0, .int .u8 0, .int .u8 0, .int .u8 0, .int .u8 0, .int .u8 0, .int .u8 0, .slice none 0 0, .map none]) [(2, .v (.bool false)), (7, .p 0 0), (9, .v (.bool (decide (v ≥ 0)))), (10, .p 1 0), (15, .v (.slice (some ⟨g88, 0, none⟩) ((lst (T.at_ 3)).length) c89)), (16, .v (.int .i32 (((lst (T.at_ 3)).length : Nat) : Int))), (17, .v (.int .i32 ((k94 : Nat) : Int))), (88, .v (.slice (some ⟨g88, 0, none⟩) ((lst (T.at_ 3)).length) c89)), (89, .v (.int .i32 ((k94 : Nat) : Int)))] [(2, .v (.bool false)), (7, .p 0 0), (9, .v (.bool (decide (v ≥ 0)))), (10, .p 1 0), (15, .v (.slice (some ⟨g88, 0, none⟩) ((lst (T.at_ 3)).length) c89)), (16, .v (.int .i32 (((lst (T.at_ 3)).length : Nat) : Int))), (17, .v (.int .i32 ((k94 : Nat) : Int))), (18, .p 3 0)] 2 hS117 hk97 rfl (by kernel_rfl) fun _ hS118 => ?_
        clear hS117
        have hS119 := hS118.tbEq (tb' := [⟨bv, 0, [.int .i16 v, .int .i32 (IntKind.i32.wrap (T.at_ 0).N), .int .i16 (IntKind.i16.wrap (T.at_ 1).N), .pointer x53, .slice none 0 0, .map none], true⟩, restO g88 19 (.agg #[.string ByteArray.empty, .int .u8 0, .int .u8 0, .int .u8 0, .int .u8 0, .int .u8 0, .int .u8 0, .int .u8 0, .int .u8 0, .int .u8 0, .int .u8 0, .int .u8 0, .int .u8 0, .int .u8 0, .int .u8 0, .int .u8 0, .int .u8 0, .slice none 0 0, .map none]) ((lst (T.at_ 3)).length) (k94 + 1), ⟨g88, k94 * 19, [.string ByteArray.empty, .int .u8 0, .int .u8 0, .int .u8 0, .int .u8 0, .int .u8 0, .int .u8 0, .int .u8 0, .int .u8 0, .int .u8 0, .int .u8 0, .int .u8 0, .int .u8 0, .int .u8 0, .int .u8 0, .int .u8 0, .int .u8 0, .slice none 0 0, .map none], true⟩]) rfl
        clear hS118
        refine then_normal ?_
        refine wp_seq ?_
        refine go_region [0, 1] (by kernel_rfl) ?_
        refine rs_rn [0] [1] [(2, .v (.bool false)), (7, .p 0 0), (9, .v (.bool (decide (v ≥ 0)))), (10, .p 1 0), (15, .v (.slice (some ⟨g88, 0, none⟩) ((lst (T.at_ 3)).length) c89)), (16, .v (.int .i32 (((lst (T.at_ 3)).length : Nat) : Int))), (17, .v (.int .i32 ((k94 : Nat) : Int))), (18, .p 3 0), (91, .p 3 0)] hS119 fun _ hS120 => ?_
        clear hS119
        refine of_op (rs_nop (d := 92) (vs := [.pointer (some ⟨g88, k94 * 19, none⟩)]) hS120 (fun _ => nop172 _ _ _) Tryz.call172 fun _ hS121 => ?_)
        clear hS120
        refine wpOps_nil ?_
        have hS122 := hS121.pk (env' := [(2, .v (.bool false)), (7, .p 0 0), (9, .v (.bool (decide (v ≥ 0)))), (10, .p 1 0), (15, .v (.slice (some ⟨g88, 0, none⟩) ((lst (T.at_ 3)).length) c89)), (16, .v (.int .i32 (((lst (T.at_ 3)).length : Nat) : Int))), (17, .v (.int .i32 ((k94 : Nat) : Int))), (18, .p 3 0)])
        clear hS121
        refine then_normal ?_
        refine wp_seq ?_
        refine rs_sr [(2, .v (.bool false)), (7, .p 0 0), (9, .v (.bool (decide (v ≥ 0)))), (10, .p 1 0), (15, .v (.slice (some ⟨g88, 0, none⟩) ((lst (T.at_ 3)).length) c89)), (16, .v (.int .i32 (((lst (T.at_ 3)).length : Nat) : Int))), (17, .v (.int .i32 ((k94 : Nat) : Int))), (19, .p 3 0)] hS122 fun _ hS123 => ?_
        clear hS122
        refine then_normal ?_
        refine wp_seq ?_
        refine wp_seq ?_
        refine rs_sr [(2, .v (.bool false)), (7, .p 0 0), (9, .v (.bool (decide (v ≥ 0)))), (10, .p 1 0), (15, .v (.slice (some ⟨g88, 0, none⟩) ((lst (T.at_ 3)).length) c89)), (16, .v (.int .i32 (((lst (T.at_ 3)).length : Nat) : Int))), (17, .v (.int .i32 ((k94 : Nat) : Int))), (19, .p 3 0)] hS123 fun _ hS124 => ?_
        clear hS123
        refine then_normal ?_
        refine wp_seq ?_
        refine wp_seq ?_
        refine rs_sr [(2, .v (.bool false)), (7, .p 0 0), (9, .v (.bool (decide (v ≥ 0)))), (10, .p 1 0), (15, .v (.slice (some ⟨g88, 0, none⟩) ((lst (T.at_ 3)).length) c89)), (16, .v (.int .i32 (((lst (T.at_ 3)).length : Nat) : Int))), (17, .v (.int .i32 ((k94 : Nat) : Int))), (19, .p 3 0), (94, .v (.bool false))] hS124 fun _ hS125 => then_normal ?_
        clear hS124
        refine cond_false hS125.env_ (b := false) (by kernel_rfl) (rfl) ?_
        have hS126 := hS125.cast hR115
        clear hS125
        refine rs_alt0 (d1 := 99) (d2 := 100) [(2, .v (.bool false)), (7, .p 0 0), (9, .v (.bool (decide (v ≥ 0)))), (10, .p 1 0), (15, .v (.slice (some ⟨g88, 0, none⟩) ((lst (T.at_ 3)).length) c89)), (16, .v (.int .i32 (((lst (T.at_ 3)).length : Nat) : Int))), (17, .v (.int .i32 ((k94 : Nat) : Int))), (19, .p 3 0), (98, .v (.bool (decide (v ≥ 0))))] [(2, .v (.bool false)), (7, .p 0 0), (9, .v (.bool (decide (v ≥ 0)))), (10, .p 1 0), (15, .v (.slice (some ⟨g88, 0, none⟩) ((lst (T.at_ 3)).length) c89)), (16, .v (.int .i32 (((lst (T.at_ 3)).length : Nat) : Int))), (17, .v (.int .i32 ((k94 : Nat) : Int))), (19, .p 3 0), (20, .v (.string (bs (t95.at_ 0).S)))] hS126 (pCompactString (t95.at_ 0).S e107_0 _) Tryz.call150 (pString (t95.at_ 0).S e107_0 _) Tryz.call151 fun _ _ hS128 => ?_
        clear hS126
        refine then_normal ?_
        refine rs_sto [⟨bv, 0, [.int .i16 v, .int .i32 (IntKind.i32.wrap (T.at_ 0).N), .int .i16 (IntKind.i16.wrap (T.at_ 1).N), .pointer x53, .slice none 0 0, .map none], true⟩, restO g88 19 (.agg #[.string ByteArray.empty, .int .u8 0, .int .u8 0, .int .u8 0, .int .u8 0, .int .u8 0, .int .u8 0, .int .u8 0, .int .u8 0, .int .u8 0, .int .u8 0, .int .u8 0, .int .u8 0, .int .u8 0, .int .u8 0, .int .u8 0, .int .u8 0, .slice none 0 0, .map none]) ((lst (T.at_ 3)).length) (k94 + 1), ⟨g88, k94 * 19, [.string (bs (t95.at_ 0).S), .int .u8 0, .int .u8 0, .int .u8 0, .int .u8 0, .int .u8 0, .int .u8 0, .int .u8 0, .int .u8 0, .int .u8 0, .int .u8 0, .int .u8 0, .int .u8 0, .int .u8 0, .int .u8 0, .int .u8 0, .int .u8 0, .slice none 0 0, .map none], true⟩] 2 [(2, .v (.bool false)), (7, .p 0 0), (9, .v (.bool (decide (v ≥ 0)))), (10, .p 1 0), (15, .v (.slice (some ⟨g88, 0, none⟩) ((lst (T.at_ 3)).length) c89)), (16, .v (.int .i32 (((lst (T.at_ 3)).length : Nat) : Int))), (17, .v (.int .i32 ((k94 : Nat) : Int))), (19, .p 3 0)] hS128 fun _ _ hS129 => ?_
        clear hS128
        refine then_normal ?_
        refine wp_seq ?_
        refine wp_seq ?_
        refine go_region [0, 1, 2] (by kernel_rfl) ?_
        have hS130 := hS129.cast hR113
        clear hS129
        refine of_op (rs_call0 (d := 105) hS130 (pUuid (t95.at_ 1).S _) Tryz.call159 fun _ _ hS132 => ?_)
        clear hS130
        refine of_op (rs_alloc (d := 21) [.int .u8 0, .int .u8 0, .int .u8 0, .int .u8 0, .int .u8 0, .int .u8 0, .int .u8 0, .int .u8 0, .int .u8 0, .int .u8 0, .int .u8 0, .int .u8 0, .int .u8 0, .int .u8 0, .int .u8 0, .int .u8 0] hS132 fun b133 _ _ hb_b133 hS134 => ?_)
        clear hS132
        have hS135 := (hS134.tbEq (tb' := [⟨bv, 0, [.int .i16 v, .int .i32 (IntKind.i32.wrap (T.at_ 0).N), .int .i16 (IntKind.i16.wrap (T.at_ 1).N), .pointer x53, .slice none 0 0, .map none], true⟩, restO g88 19 (.agg #[.string ByteArray.empty, .int .u8 0, .int .u8 0, .int .u8 0, .int .u8 0, .int .u8 0, .int .u8 0, .int .u8 0, .int .u8 0, .int .u8 0, .int .u8 0, .int .u8 0, .int .u8 0, .int .u8 0, .int .u8 0, .int .u8 0, .int .u8 0, .slice none 0 0, .map none]) ((lst (T.at_ 3)).length) (k94 + 1), ⟨g88, k94 * 19, [.string (bs (t95.at_ 0).S), .int .u8 0, .int .u8 0, .int .u8 0, .int .u8 0, .int .u8 0, .int .u8 0, .int .u8 0, .int .u8 0, .int .u8 0, .int .u8 0, .int .u8 0, .int .u8 0, .int .u8 0, .int .u8 0, .int .u8 0, .int .u8 0, .slice none 0 0, .map none], true⟩, ⟨b133, 0, [.int .u8 0, .int .u8 0, .int .u8 0, .int .u8 0, .int .u8 0, .int .u8 0, .int .u8 0, .int .u8 0, .int .u8 0, .int .u8 0, .int .u8 0, .int .u8 0, .int .u8 0, .int .u8 0, .int .u8 0, .int .u8 0], true⟩]) rfl).pk (env' := [(2, .v (.bool false)), (7, .p 0 0), (9, .v (.bool (decide (v ≥ 0)))), (10, .p 1 0), (15, .v (.slice (some ⟨g88, 0, none⟩) ((lst (T.at_ 3)).length) c89)), (16, .v (.int .i32 (((lst (T.at_ 3)).length : Nat) : Int))), (17, .v (.int .i32 ((k94 : Nat) : Int))), (19, .p 3 0), (105, .v (.agg #[byteCell ((sixteenB (t95.at_ 1).S).getD 0 0), byteCell ((sixteenB (t95.at_ 1).S).getD 1 0), byteCell ((sixteenB (t95.at_ 1).S).getD 2 0), byteCell ((sixteenB (t95.at_ 1).S).getD 3 0), byteCell ((sixteenB (t95.at_ 1).S).getD 4 0), byteCell ((sixteenB (t95.at_ 1).S).getD 5 0), byteCell ((sixteenB (t95.at_ 1).S).getD 6 0), byteCell ((sixteenB (t95.at_ 1).S).getD 7 0), byteCell ((sixteenB (t95.at_ 1).S).getD 8 0), byteCell ((sixteenB (t95.at_ 1).S).getD 9 0), byteCell ((sixteenB (t95.at_ 1).S).getD 10 0), byteCell ((sixteenB (t95.at_ 1).S).getD 11 0), byteCell ((sixteenB (t95.at_ 1).S).getD 12 0), byteCell ((sixteenB (t95.at_ 1).S).getD 13 0), byteCell ((sixteenB (t95.at_ 1).S).getD 14 0), byteCell ((sixteenB (t95.at_ 1).S).getD 15 0)])), (21, .p 4 0)])
        clear hS134
        refine of_op (rs_store [⟨bv, 0, [.int .i16 v, .int .i32 (IntKind.i32.wrap (T.at_ 0).N), .int .i16 (IntKind.i16.wrap (T.at_ 1).N), .pointer x53, .slice none 0 0, .map none], true⟩, restO g88 19 (.agg #[.string ByteArray.empty, .int .u8 0, .int .u8 0, .int .u8 0, .int .u8 0, .int .u8 0, .int .u8 0, .int .u8 0, .int .u8 0, .int .u8 0, .int .u8 0, .int .u8 0, .int .u8 0, .int .u8 0, .int .u8 0, .int .u8 0, .int .u8 0, .slice none 0 0, .map none]) ((lst (T.at_ 3)).length) (k94 + 1), ⟨g88, k94 * 19, [.string (bs (t95.at_ 0).S), .int .u8 0, .int .u8 0, .int .u8 0, .int .u8 0, .int .u8 0, .int .u8 0, .int .u8 0, .int .u8 0, .int .u8 0, .int .u8 0, .int .u8 0, .int .u8 0, .int .u8 0, .int .u8 0, .int .u8 0, .int .u8 0, .slice none 0 0, .map none], true⟩, ⟨b133, 0, [byteCell ((sixteenB (t95.at_ 1).S).getD 0 0), byteCell ((sixteenB (t95.at_ 1).S).getD 1 0), byteCell ((sixteenB (t95.at_ 1).S).getD 2 0), byteCell ((sixteenB (t95.at_ 1).S).getD 3 0), byteCell ((sixteenB (t95.at_ 1).S).getD 4 0), byteCell ((sixteenB (t95.at_ 1).S).getD 5 0), byteCell ((sixteenB (t95.at_ 1).S).getD 6 0), byteCell ((sixteenB (t95.at_ 1).S).getD 7 0), byteCell ((sixteenB (t95.at_ 1).S).getD 8 0), byteCell ((sixteenB (t95.at_ 1).S).getD 9 0), byteCell ((sixteenB (t95.at_ 1).S).getD 10 0), byteCell ((sixteenB (t95.at_ 1).S).getD 11 0), byteCell ((sixteenB (t95.at_ 1).S).getD 12 0), byteCell ((sixteenB (t95.at_ 1).S).getD 13 0), byteCell ((sixteenB (t95.at_ 1).S).getD 14 0), byteCell ((sixteenB (t95.at_ 1).S).getD 15 0)], true⟩] 3 hS135 fun _ hS136 => ?_)
        clear hS135
        refine wpOps_nil ?_
        have hS137 := hS136.pk (env' := [(2, .v (.bool false)), (7, .p 0 0), (9, .v (.bool (decide (v ≥ 0)))), (10, .p 1 0), (15, .v (.slice (some ⟨g88, 0, none⟩) ((lst (T.at_ 3)).length) c89)), (16, .v (.int .i32 (((lst (T.at_ 3)).length : Nat) : Int))), (17, .v (.int .i32 ((k94 : Nat) : Int))), (19, .p 3 0), (21, .p 4 0)])
        clear hS136
        refine then_normal ?_
        refine rs_sto [⟨bv, 0, [.int .i16 v, .int .i32 (IntKind.i32.wrap (T.at_ 0).N), .int .i16 (IntKind.i16.wrap (T.at_ 1).N), .pointer x53, .slice none 0 0, .map none], true⟩, restO g88 19 (.agg #[.string ByteArray.empty, .int .u8 0, .int .u8 0, .int .u8 0, .int .u8 0, .int .u8 0, .int .u8 0, .int .u8 0, .int .u8 0, .int .u8 0, .int .u8 0, .int .u8 0, .int .u8 0, .int .u8 0, .int .u8 0, .int .u8 0, .int .u8 0, .slice none 0 0, .map none]) ((lst (T.at_ 3)).length) (k94 + 1), ⟨g88, k94 * 19, [.string (bs (t95.at_ 0).S), byteCell ((sixteenB (t95.at_ 1).S).getD 0 0), byteCell ((sixteenB (t95.at_ 1).S).getD 1 0), byteCell ((sixteenB (t95.at_ 1).S).getD 2 0), byteCell ((sixteenB (t95.at_ 1).S).getD 3 0), byteCell ((sixteenB (t95.at_ 1).S).getD 4 0), byteCell ((sixteenB (t95.at_ 1).S).getD 5 0), byteCell ((sixteenB (t95.at_ 1).S).getD 6 0), byteCell ((sixteenB (t95.at_ 1).S).getD 7 0), byteCell ((sixteenB (t95.at_ 1).S).getD 8 0), byteCell ((sixteenB (t95.at_ 1).S).getD 9 0), byteCell ((sixteenB (t95.at_ 1).S).getD 10 0), byteCell ((sixteenB (t95.at_ 1).S).getD 11 0), byteCell ((sixteenB (t95.at_ 1).S).getD 12 0), byteCell ((sixteenB (t95.at_ 1).S).getD 13 0), byteCell ((sixteenB (t95.at_ 1).S).getD 14 0), byteCell ((sixteenB (t95.at_ 1).S).getD 15 0), .slice none 0 0, .map none], true⟩, ⟨b133, 0, [byteCell ((sixteenB (t95.at_ 1).S).getD 0 0), byteCell ((sixteenB (t95.at_ 1).S).getD 1 0), byteCell ((sixteenB (t95.at_ 1).S).getD 2 0), byteCell ((sixteenB (t95.at_ 1).S).getD 3 0), byteCell ((sixteenB (t95.at_ 1).S).getD 4 0), byteCell ((sixteenB (t95.at_ 1).S).getD 5 0), byteCell ((sixteenB (t95.at_ 1).S).getD 6 0), byteCell ((sixteenB (t95.at_ 1).S).getD 7 0), byteCell ((sixteenB (t95.at_ 1).S).getD 8 0), byteCell ((sixteenB (t95.at_ 1).S).getD 9 0), byteCell ((sixteenB (t95.at_ 1).S).getD 10 0), byteCell ((sixteenB (t95.at_ 1).S).getD 11 0), byteCell ((sixteenB (t95.at_ 1).S).getD 12 0), byteCell ((sixteenB (t95.at_ 1).S).getD 13 0), byteCell ((sixteenB (t95.at_ 1).S).getD 14 0), byteCell ((sixteenB (t95.at_ 1).S).getD 15 0)], true⟩] 2 [(2, .v (.bool false)), (7, .p 0 0), (9, .v (.bool (decide (v ≥ 0)))), (10, .p 1 0), (15, .v (.slice (some ⟨g88, 0, none⟩) ((lst (T.at_ 3)).length) c89)), (16, .v (.int .i32 (((lst (T.at_ 3)).length : Nat) : Int))), (17, .v (.int .i32 ((k94 : Nat) : Int))), (19, .p 3 0)] hS137 fun _ _ hS138 => ?_
        clear hS137
        have hS139 := RS.dropT (tb := [⟨bv, 0, [.int .i16 v, .int .i32 (IntKind.i32.wrap (T.at_ 0).N), .int .i16 (IntKind.i16.wrap (T.at_ 1).N), .pointer x53, .slice none 0 0, .map none], true⟩, restO g88 19 (.agg #[.string ByteArray.empty, .int .u8 0, .int .u8 0, .int .u8 0, .int .u8 0, .int .u8 0, .int .u8 0, .int .u8 0, .int .u8 0, .int .u8 0, .int .u8 0, .int .u8 0, .int .u8 0, .int .u8 0, .int .u8 0, .int .u8 0, .int .u8 0, .slice none 0 0, .map none]) ((lst (T.at_ 3)).length) (k94 + 1), ⟨g88, k94 * 19, [.string (bs (t95.at_ 0).S), byteCell ((sixteenB (t95.at_ 1).S).getD 0 0), byteCell ((sixteenB (t95.at_ 1).S).getD 1 0), byteCell ((sixteenB (t95.at_ 1).S).getD 2 0), byteCell ((sixteenB (t95.at_ 1).S).getD 3 0), byteCell ((sixteenB (t95.at_ 1).S).getD 4 0), byteCell ((sixteenB (t95.at_ 1).S).getD 5 0), byteCell ((sixteenB (t95.at_ 1).S).getD 6 0), byteCell ((sixteenB (t95.at_ 1).S).getD 7 0), byteCell ((sixteenB (t95.at_ 1).S).getD 8 0), byteCell ((sixteenB (t95.at_ 1).S).getD 9 0), byteCell ((sixteenB (t95.at_ 1).S).getD 10 0), byteCell ((sixteenB (t95.at_ 1).S).getD 11 0), byteCell ((sixteenB (t95.at_ 1).S).getD 12 0), byteCell ((sixteenB (t95.at_ 1).S).getD 13 0), byteCell ((sixteenB (t95.at_ 1).S).getD 14 0), byteCell ((sixteenB (t95.at_ 1).S).getD 15 0), .slice none 0 0, .map none], true⟩]) hS138 hb_b133 (by kernel_rfl)
        clear hS138
        refine then_normal ?_
        refine wp_seq ?_
        refine wp_seq ?_
        refine rs_sr [(2, .v (.bool false)), (7, .p 0 0), (9, .v (.bool (decide (v ≥ 0)))), (10, .p 1 0), (15, .v (.slice (some ⟨g88, 0, none⟩) ((lst (T.at_ 3)).length) c89)), (16, .v (.int .i32 (((lst (T.at_ 3)).length : Nat) : Int))), (17, .v (.int .i32 ((k94 : Nat) : Int))), (19, .p 3 0), (22, .v (.slice none 0 0))] hS139 fun _ hS140 => ?_
        clear hS139
        refine then_normal ?_
        refine wp_seq ?_
        refine rs_sr [(2, .v (.bool false)), (7, .p 0 0), (9, .v (.bool (decide (v ≥ 0)))), (10, .p 1 0), (15, .v (.slice (some ⟨g88, 0, none⟩) ((lst (T.at_ 3)).length) c89)), (16, .v (.int .i32 (((lst (T.at_ 3)).length : Nat) : Int))), (17, .v (.int .i32 ((k94 : Nat) : Int))), (19, .p 3 0), (23, .v (.slice none 0 0))] hS140 fun _ hS141 => ?_
        clear hS140
        refine then_normal ?_
        refine wp_seq ?_
        refine rs_sr [(2, .v (.bool false)), (7, .p 0 0), (9, .v (.bool (decide (v ≥ 0)))), (10, .p 1 0), (15, .v (.slice (some ⟨g88, 0, none⟩) ((lst (T.at_ 3)).length) c89)), (16, .v (.int .i32 (((lst (T.at_ 3)).length : Nat) : Int))), (17, .v (.int .i32 ((k94 : Nat) : Int))), (19, .p 3 0), (23, .v (.slice none 0 0))] hS141 fun _ hS142 => ?_
        clear hS141
        refine then_normal ?_
        refine wp_seq ?_
        have hS143 := hS142.cast hR111
        clear hS142
        have hS144 := hS143.cast (t := (if (decide (v ≥ 0)) = true then (uv ((lst (t95.at_ 2)).length + 1)) else (be 4 (lst (t95.at_ 2)).length)) ++ (((lst (t95.at_ 2)).flatMap (tEAlterShareGroupOffsetsResponseTopicPartition v)) ++ R108)) (by rw [List.append_assoc])
        clear hS143
        refine rs_alt0 (d1 := 116) (d2 := 117) [(2, .v (.bool false)), (7, .p 0 0), (9, .v (.bool (decide (v ≥ 0)))), (10, .p 1 0), (15, .v (.slice (some ⟨g88, 0, none⟩) ((lst (T.at_ 3)).length) c89)), (16, .v (.int .i32 (((lst (T.at_ 3)).length : Nat) : Int))), (17, .v (.int .i32 ((k94 : Nat) : Int))), (19, .p 3 0), (23, .v (.slice none 0 0)), (115, .v (.bool (decide (v ≥ 0))))] [(2, .v (.bool false)), (7, .p 0 0), (9, .v (.bool (decide (v ≥ 0)))), (10, .p 1 0), (15, .v (.slice (some ⟨g88, 0, none⟩) ((lst (T.at_ 3)).length) c89)), (16, .v (.int .i32 (((lst (T.at_ 3)).length : Nat) : Int))), (17, .v (.int .i32 ((k94 : Nat) : Int))), (19, .p 3 0), (23, .v (.slice none 0 0)), (24, .v (.int .i32 (((lst (t95.at_ 2)).length : Nat) : Int)))] hS144 (pCompactArrayLen ((lst (t95.at_ 2)).length) e107_2 _ (flat_ge' (posAlterShareGroupOffsetsResponseTopicPartition v) _)) Tryz.call143 (pArrayLen ((lst (t95.at_ 2)).length) e107_2 _ (flat_ge' (posAlterShareGroupOffsetsResponseTopicPartition v) _)) Tryz.call144 fun _ _ hS146 => ?_
        clear hS144
        refine then_normal ?_
        refine wp_seq ?_
        refine wp_seq ?_
        refine rs_ok (d := 118) [(2, .v (.bool false)), (7, .p 0 0), (9, .v (.bool (decide (v ≥ 0)))), (10, .p 1 0), (15, .v (.slice (some ⟨g88, 0, none⟩) ((lst (T.at_ 3)).length) c89)), (16, .v (.int .i32 (((lst (T.at_ 3)).length : Nat) : Int))), (17, .v (.int .i32 ((k94 : Nat) : Int))), (19, .p 3 0), (23, .v (.slice none 0 0)), (24, .v (.int .i32 (((lst (t95.at_ 2)).length : Nat) : Int))), (119, .v (.bool false))] hS146 (pOk _) Tryz.call145 fun _ _ hS148 => ?_
        clear hS146
        refine then_normal ?_
        refine cond_false hS148.env_ (b := false) (by kernel_rfl) (rfl) ?_
        refine wp_skip ?_
        refine then_normal ?_
        refine wp_seq ?_
        refine rs_cut0 (t := 141) (e := 145) (size := 4) (bytes := 24) (d := 122) (A0 := none) (m := 0) (cp := 0) [(2, .v (.bool false)), (7, .p 0 0), (9, .v (.bool (decide (v ≥ 0)))), (10, .p 1 0), (15, .v (.slice (some ⟨g88, 0, none⟩) ((lst (T.at_ 3)).length) c89)), (16, .v (.int .i32 (((lst (T.at_ 3)).length : Nat) : Int))), (17, .v (.int .i32 ((k94 : Nat) : Int))), (19, .p 3 0), (24, .v (.int .i32 (((lst (t95.at_ 2)).length : Nat) : Int))), (121, .v (.slice none 0 0))] [(2, .v (.bool false)), (7, .p 0 0), (9, .v (.bool (decide (v ≥ 0)))), (10, .p 1 0), (15, .v (.slice (some ⟨g88, 0, none⟩) ((lst (T.at_ 3)).length) c89)), (16, .v (.int .i32 (((lst (T.at_ 3)).length : Nat) : Int))), (17, .v (.int .i32 ((k94 : Nat) : Int))), (19, .p 3 0), (23, .v (.slice none 0 0)), (24, .v (.int .i32 (((lst (t95.at_ 2)).length : Nat) : Int)))] 1 hS148 fun _ hS149 => ?_
        clear hS148
        refine then_normal ?_
        refine wp_join2 (Mid := fun a_ w_ => ∃ (D150 : DV) (P' : FactW), (∀ w F, P' w F → P102 w F ∧ (Slots w F 4 D150.A D150.c D150.l (fun i => [.int .i32 (((D150.f i).f 0).n), .int .i16 (((D150.f i).f 1).n), .pointer (((D150.f i).f 2).A), .map ((D150.f i).m)]) ∧ D150.l ≤ 1000000 ∧ ∀ i, i < D150.l → okAlterShareGroupOffsetsResponseTopicPartition w F (D150.f i)) ∧ (D150.l = (lst (t95.at_ 2)).length ∧ ∀ i, i < D150.l → rvAlterShareGroupOffsetsResponseTopicPartition v (D150.f i) ((lst (t95.at_ 2)).getD i .zero))) ∧ RS w (fun b o => b = bv ∧ o < 6) F 186 b13 [⟨bv, 0, [.int .i16 v, .int .i32 (IntKind.i32.wrap (T.at_ 0).N), .int .i16 (IntKind.i16.wrap (T.at_ 1).N), .pointer x53, .slice none 0 0, .map none], true⟩, restO g88 19 (.agg #[.string ByteArray.empty, .int .u8 0, .int .u8 0, .int .u8 0, .int .u8 0, .int .u8 0, .int .u8 0, .int .u8 0, .int .u8 0, .int .u8 0, .int .u8 0, .int .u8 0, .int .u8 0, .int .u8 0, .int .u8 0, .int .u8 0, .int .u8 0, .slice none 0 0, .map none]) ((lst (T.at_ 3)).length) (k94 + 1), ⟨g88, k94 * 19, [.string (bs (t95.at_ 0).S), byteCell ((sixteenB (t95.at_ 1).S).getD 0 0), byteCell ((sixteenB (t95.at_ 1).S).getD 1 0), byteCell ((sixteenB (t95.at_ 1).S).getD 2 0), byteCell ((sixteenB (t95.at_ 1).S).getD 3 0), byteCell ((sixteenB (t95.at_ 1).S).getD 4 0), byteCell ((sixteenB (t95.at_ 1).S).getD 5 0), byteCell ((sixteenB (t95.at_ 1).S).getD 6 0), byteCell ((sixteenB (t95.at_ 1).S).getD 7 0), byteCell ((sixteenB (t95.at_ 1).S).getD 8 0), byteCell ((sixteenB (t95.at_ 1).S).getD 9 0), byteCell ((sixteenB (t95.at_ 1).S).getD 10 0), byteCell ((sixteenB (t95.at_ 1).S).getD 11 0), byteCell ((sixteenB (t95.at_ 1).S).getD 12 0), byteCell ((sixteenB (t95.at_ 1).S).getD 13 0), byteCell ((sixteenB (t95.at_ 1).S).getD 14 0), byteCell ((sixteenB (t95.at_ 1).S).getD 15 0), .slice none 0 0, .map none], true⟩] [(2, .v (.bool false)), (7, .p 0 0), (9, .v (.bool (decide (v ≥ 0)))), (10, .p 1 0), (15, .v (.slice (some ⟨g88, 0, none⟩) ((lst (T.at_ 3)).length) c89)), (16, .v (.int .i32 (((lst (T.at_ 3)).length : Nat) : Int))), (17, .v (.int .i32 ((k94 : Nat) : Int))), (19, .p 3 0), (23, .v (.slice D150.A D150.l D150.c))] P' R108 a_ w_) ?_ ?_
        ·
          refine wp_seq ?_
          refine rs_sr [(2, .v (.bool false)), (7, .p 0 0), (9, .v (.bool (decide (v ≥ 0)))), (10, .p 1 0), (15, .v (.slice (some ⟨g88, 0, none⟩) ((lst (T.at_ 3)).length) c89)), (16, .v (.int .i32 (((lst (T.at_ 3)).length : Nat) : Int))), (17, .v (.int .i32 ((k94 : Nat) : Int))), (19, .p 3 0), (23, .v (.slice none 0 0)), (24, .v (.int .i32 (((lst (t95.at_ 2)).length : Nat) : Int))), (124, .v (.bool (decide ((((lst (t95.at_ 2)).length : Nat) : Int) > 0))))] hS149 fun _ hS154 => then_normal ?_
          clear hS149
          refine cond_of hS154.env_ (b := decide ((((lst (t95.at_ 2)).length : Nat) : Int) > 0)) (by kernel_rfl) (fun hc155 => ?_) (fun hc155 => ?_)
          ·
            have hn_g156 : 0 < (lst (t95.at_ 2)).length := by have h_ := of_decide_eq_true hc155; omega
            refine go_region [0, 1, 2, 3] (by kernel_rfl) ?_
            refine rs_rn [0, 1] [2, 3] [(2, .v (.bool false)), (7, .p 0 0), (9, .v (.bool (decide (v ≥ 0)))), (10, .p 1 0), (15, .v (.slice (some ⟨g88, 0, none⟩) ((lst (T.at_ 3)).length) c89)), (16, .v (.int .i32 (((lst (T.at_ 3)).length : Nat) : Int))), (17, .v (.int .i32 ((k94 : Nat) : Int))), (19, .p 3 0), (24, .v (.int .i32 (((lst (t95.at_ 2)).length : Nat) : Int))), (125, .v (.slice none 0 0)), (126, .v (.int .i32 (((lst (t95.at_ 2)).length : Nat) : Int)))] hS154 fun _ hS158 => ?_
            clear hS154
            refine of_op (rs_appendZ (d := 127) (t := 141) (tn := 21) (e := 145) (size := 4) (bytes := 24) (k := .i32) (kn := .i32) (q := (((lst (t95.at_ 2)).length : Nat) : Int)) (j := (lst (t95.at_ 2)).length) (.agg #[.int .i32 0, .int .i16 0, .pointer none, .map none]) hS158 (fun g156 c157 _ _ hg_g156 hcap_g156 hS159 => ?_) rfl hn_g156 (by have := e107_2; omega))
            clear hS158
            refine rs_rn [3] [] [(2, .v (.bool false)), (7, .p 0 0), (9, .v (.bool (decide (v ≥ 0)))), (10, .p 1 0), (15, .v (.slice (some ⟨g88, 0, none⟩) ((lst (T.at_ 3)).length) c89)), (16, .v (.int .i32 (((lst (T.at_ 3)).length : Nat) : Int))), (17, .v (.int .i32 ((k94 : Nat) : Int))), (19, .p 3 0), (23, .v (.slice (some ⟨g156, 0, none⟩) ((lst (t95.at_ 2)).length) c157)), (24, .v (.int .i32 (((lst (t95.at_ 2)).length : Nat) : Int)))] hS159 fun _ hS160 => wpOps_nil ?_
            clear hS159
            refine then_normal ?_
            refine wp_seq ?_
            refine rs_sr [(2, .v (.bool false)), (7, .p 0 0), (9, .v (.bool (decide (v ≥ 0)))), (10, .p 1 0), (15, .v (.slice (some ⟨g88, 0, none⟩) ((lst (T.at_ 3)).length) c89)), (16, .v (.int .i32 (((lst (T.at_ 3)).length : Nat) : Int))), (17, .v (.int .i32 ((k94 : Nat) : Int))), (19, .p 3 0), (23, .v (.slice (some ⟨g156, 0, none⟩) ((lst (t95.at_ 2)).length) c157)), (24, .v (.int .i32 (((lst (t95.at_ 2)).length : Nat) : Int))), (25, .v (.int .i32 0))] hS160 fun _ hS161 => ?_
            clear hS160
            refine then_normal ?_
            refine wp_block ?_
            have hmP167 := hS161.mv
            have hS168 := (hS161.cast (t := (lst (t95.at_ 2)).flatMap (tEAlterShareGroupOffsetsResponseTopicPartition v) ++ R108) rfl).pk (env' := [(2, .v (.bool false)), (7, .p 0 0), (9, .v (.bool (decide (v ≥ 0)))), (10, .p 1 0), (15, .v (.slice (some ⟨g88, 0, none⟩) ((lst (T.at_ 3)).length) c89)), (16, .v (.int .i32 (((lst (T.at_ 3)).length : Nat) : Int))), (17, .v (.int .i32 ((k94 : Nat) : Int))), (19, .p 3 0), (23, .v (.slice (some ⟨g156, 0, none⟩) ((lst (t95.at_ 2)).length) c157)), (24, .v (.int .i32 (((lst (t95.at_ 2)).length : Nat) : Int))), (25, .v (.int .i32 ((0 : Nat) : Int)))])
            clear hS161
            refine rs_loop (tb := [⟨bv, 0, [.int .i16 v, .int .i32 (IntKind.i32.wrap (T.at_ 0).N), .int .i16 (IntKind.i16.wrap (T.at_ 1).N), .pointer x53, .slice none 0 0, .map none], true⟩, restO g88 19 (.agg #[.string ByteArray.empty, .int .u8 0, .int .u8 0, .int .u8 0, .int .u8 0, .int .u8 0, .int .u8 0, .int .u8 0, .int .u8 0, .int .u8 0, .int .u8 0, .int .u8 0, .int .u8 0, .int .u8 0, .int .u8 0, .int .u8 0, .int .u8 0, .slice none 0 0, .map none]) ((lst (T.at_ 3)).length) (k94 + 1), ⟨g88, k94 * 19, [.string (bs (t95.at_ 0).S), byteCell ((sixteenB (t95.at_ 1).S).getD 0 0), byteCell ((sixteenB (t95.at_ 1).S).getD 1 0), byteCell ((sixteenB (t95.at_ 1).S).getD 2 0), byteCell ((sixteenB (t95.at_ 1).S).getD 3 0), byteCell ((sixteenB (t95.at_ 1).S).getD 4 0), byteCell ((sixteenB (t95.at_ 1).S).getD 5 0), byteCell ((sixteenB (t95.at_ 1).S).getD 6 0), byteCell ((sixteenB (t95.at_ 1).S).getD 7 0), byteCell ((sixteenB (t95.at_ 1).S).getD 8 0), byteCell ((sixteenB (t95.at_ 1).S).getD 9 0), byteCell ((sixteenB (t95.at_ 1).S).getD 10 0), byteCell ((sixteenB (t95.at_ 1).S).getD 11 0), byteCell ((sixteenB (t95.at_ 1).S).getD 12 0), byteCell ((sixteenB (t95.at_ 1).S).getD 13 0), byteCell ((sixteenB (t95.at_ 1).S).getD 14 0), byteCell ((sixteenB (t95.at_ 1).S).getD 15 0), .slice none 0 0, .map none], true⟩]) (z := .agg #[.int .i32 0, .int .i16 0, .pointer none, .map none]) (cl := clAlterShareGroupOffsetsResponseTopicPartition) (ok := okAlterShareGroupOffsetsResponseTopicPartition) (rel := (rvAlterShareGroupOffsetsResponseTopicPartition v)) (L := lst (t95.at_ 2)) (size := 4) (tEAlterShareGroupOffsetsResponseTopicPartition v) R108 (fun k => [(2, .v (.bool false)), (7, .p 0 0), (9, .v (.bool (decide (v ≥ 0)))), (10, .p 1 0), (15, .v (.slice (some ⟨g88, 0, none⟩) ((lst (T.at_ 3)).length) c89)), (16, .v (.int .i32 (((lst (T.at_ 3)).length : Nat) : Int))), (17, .v (.int .i32 ((k94 : Nat) : Int))), (19, .p 3 0), (23, .v (.slice (some ⟨g156, 0, none⟩) ((lst (t95.at_ 2)).length) c157)), (24, .v (.int .i32 (((lst (t95.at_ 2)).length : Nat) : Int))), (25, .v (.int .i32 ((k : Nat) : Int)))]) hS168 mvAlterShareGroupOffsetsResponseTopicPartition (fun k162 t163 _ _ ht164 hk165 hS166 => ?_) (fun _ _ hS169 => ?_)
            ·
              obtain ⟨P170, hP171, hS172⟩ : ∃ P', (∀ w F, P' w F → (P102 w F ∧ doneF g156 4 clAlterShareGroupOffsetsResponseTopicPartition okAlterShareGroupOffsetsResponseTopicPartition (rvAlterShareGroupOffsetsResponseTopicPartition v) (lst (t95.at_ 2)) k162 w F)) ∧ RS w (fun b o => b = bv ∧ o < 6) F 186 b13 [⟨bv, 0, [.int .i16 v, .int .i32 (IntKind.i32.wrap (T.at_ 0).N), .int .i16 (IntKind.i16.wrap (T.at_ 1).N), .pointer x53, .slice none 0 0, .map none], true⟩, restO g88 19 (.agg #[.string ByteArray.empty, .int .u8 0, .int .u8 0, .int .u8 0, .int .u8 0, .int .u8 0, .int .u8 0, .int .u8 0, .int .u8 0, .int .u8 0, .int .u8 0, .int .u8 0, .int .u8 0, .int .u8 0, .int .u8 0, .int .u8 0, .int .u8 0, .slice none 0 0, .map none]) ((lst (T.at_ 3)).length) (k94 + 1), ⟨g88, k94 * 19, [.string (bs (t95.at_ 0).S), byteCell ((sixteenB (t95.at_ 1).S).getD 0 0), byteCell ((sixteenB (t95.at_ 1).S).getD 1 0), byteCell ((sixteenB (t95.at_ 1).S).getD 2 0), byteCell ((sixteenB (t95.at_ 1).S).getD 3 0), byteCell ((sixteenB (t95.at_ 1).S).getD 4 0), byteCell ((sixteenB (t95.at_ 1).S).getD 5 0), byteCell ((sixteenB (t95.at_ 1).S).getD 6 0), byteCell ((sixteenB (t95.at_ 1).S).getD 7 0), byteCell ((sixteenB (t95.at_ 1).S).getD 8 0), byteCell ((sixteenB (t95.at_ 1).S).getD 9 0), byteCell ((sixteenB (t95.at_ 1).S).getD 10 0), byteCell ((sixteenB (t95.at_ 1).S).getD 11 0), byteCell ((sixteenB (t95.at_ 1).S).getD 12 0), byteCell ((sixteenB (t95.at_ 1).S).getD 13 0), byteCell ((sixteenB (t95.at_ 1).S).getD 14 0), byteCell ((sixteenB (t95.at_ 1).S).getD 15 0), .slice none 0 0, .map none], true⟩, restO g156 4 (.agg #[.int .i32 0, .int .i16 0, .pointer none, .map none]) ((lst (t95.at_ 2)).length) k162] [(2, .v (.bool false)), (7, .p 0 0), (9, .v (.bool (decide (v ≥ 0)))), (10, .p 1 0), (15, .v (.slice (some ⟨g88, 0, none⟩) ((lst (T.at_ 3)).length) c89)), (16, .v (.int .i32 (((lst (T.at_ 3)).length : Nat) : Int))), (17, .v (.int .i32 ((k94 : Nat) : Int))), (19, .p 3 0), (23, .v (.slice (some ⟨g156, 0, none⟩) ((lst (t95.at_ 2)).length) c157)), (24, .v (.int .i32 (((lst (t95.at_ 2)).length : Nat) : Int))), (25, .v (.int .i32 ((k162 : Nat) : Int)))] P' ((tEAlterShareGroupOffsetsResponseTopicPartition v) t163 ++ (((lst (t95.at_ 2)).drop (k162 + 1)).flatMap (tEAlterShareGroupOffsetsResponseTopicPartition v) ++ R108)) _ _ := ⟨_, fun _ _ h => h, hS166⟩
              clear hS166
              obtain ⟨R173, hR174⟩ : ∃ R, R = ((lst (t95.at_ 2)).drop (k162 + 1)).flatMap (tEAlterShareGroupOffsetsResponseTopicPartition v) ++ R108 := ⟨_, rfl⟩
              have e175 := (e107_2e t163 (List.mem_of_getElem? ht164))
              have e175r := (ranged_lst (ranged_at e107r 2) t163 (List.mem_of_getElem? ht164))
              unfold canAlterShareGroupOffsetsResponseTopicPartition at e175
              obtain ⟨e175_0, e175_1, e175_2, e175_U, _⟩ := e175
              obtain ⟨R176, hR177⟩ : ∃ R, R = (if (decide (v ≥ 0)) = true then (uv t163.U.length) ++ (tagsR t163.U) else []) ++ R173 := ⟨_, rfl⟩
              obtain ⟨R178, hR179⟩ : ∃ R, R = (if (decide (v ≥ 0)) = true then (if (t163.at_ 2).null = true then uv 0 else uv ((octOf (t163.at_ 2)).length + 1) ++ (octOf (t163.at_ 2))) else (if (t163.at_ 2).null = true then be 2 (-1) else be 2 (octOf (t163.at_ 2)).length ++ (octOf (t163.at_ 2)))) ++ R176 := ⟨_, rfl⟩
              obtain ⟨R180, hR181⟩ : ∃ R, R = (be 2 ((IntKind.i16.wrap (t163.at_ 1).N))) ++ R178 := ⟨_, rfl⟩
              obtain ⟨R182, hR183⟩ : ∃ R, R = (be 4 ((IntKind.i32.wrap (t163.at_ 0).N))) ++ R180 := ⟨_, rfl⟩
              have hS184 := hS172.cast (t := R182) (by rw [hR183, hR181, hR179, hR177, ← hR174]; unfold tEAlterShareGroupOffsetsResponseTopicPartition; simp only [List.append_assoc])
              clear hS172
              refine wp_seq ?_
              refine wp_seq ?_
              refine rs_sr [(2, .v (.bool false)), (7, .p 0 0), (9, .v (.bool (decide (v ≥ 0)))), (10, .p 1 0), (15, .v (.slice (some ⟨g88, 0, none⟩) ((lst (T.at_ 3)).length) c89)), (16, .v (.int .i32 (((lst (T.at_ 3)).length : Nat) : Int))), (17, .v (.int .i32 ((k94 : Nat) : Int))), (19, .p 3 0), (23, .v (.slice (some ⟨g156, 0, none⟩) ((lst (t95.at_ 2)).length) c157)), (24, .v (.int .i32 (((lst (t95.at_ 2)).length : Nat) : Int))), (25, .v (.int .i32 ((k162 : Nat) : Int))), (130, .v (.bool (decide (((k162 : Nat) : Int) < (((lst (t95.at_ 2)).length : Nat) : Int)))))] hS184 fun _ hS185 => then_normal ?_
              clear hS184
              refine cond_true hS185.env_ (b := decide (((k162 : Nat) : Int) < (((lst (t95.at_ 2)).length : Nat) : Int))) (by kernel_rfl) (decide_eq_true (by omega)) ?_
              refine wp_skip ?_
              refine then_normal ?_
              refine wp_seq ?_
              refine wp_block ?_
              refine wp_seq ?_
              refine rs_elem (t := 141) (e := 145) (size := 4) (bytes := 24) (d := 135) (tb := [⟨bv, 0, [.int .i16 v, .int .i32 (IntKind.i32.wrap (T.at_ 0).N), .int .i16 (IntKind.i16.wrap (T.at_ 1).N), .pointer x53, .slice none 0 0, .map none], true⟩, restO g88 19 (.agg #[.string ByteArray.empty, .int .u8 0, .int .u8 0, .int .u8 0, .int .u8 0, .int .u8 0, .int .u8 0, .int .u8 0, .int .u8 0, .int .u8 0, .int .u8 0, .int .u8 0, .int .u8 0, .int .u8 0, .int .u8 0, .int .u8 0, .int .u8 0, .slice none 0 0, .map none]) ((lst (T.at_ 3)).length) (k94 + 1), ⟨g88, k94 * 19, [.string (bs (t95.at_ 0).S), byteCell ((sixteenB (t95.at_ 1).S).getD 0 0), byteCell ((sixteenB (t95.at_ 1).S).getD 1 0), byteCell ((sixteenB (t95.at_ 1).S).getD 2 0), byteCell ((sixteenB (t95.at_ 1).S).getD 3 0), byteCell ((sixteenB (t95.at_ 1).S).getD 4 0), byteCell ((sixteenB (t95.at_ 1).S).getD 5 0), byteCell ((sixteenB (t95.at_ 1).S).getD 6 0), byteCell ((sixteenB (t95.at_ 1).S).getD 7 0), byteCell ((sixteenB (t95.at_ 1).S).getD 8 0), byteCell ((sixteenB (t95.at_ 1).S).getD 9 0), byteCell ((sixteenB (t95.at_ 1).S).getD 10 0), byteCell ((sixteenB (t95.at_ 1).S).getD 11 0), byteCell ((sixteenB (t95.at_ 1).S).getD 12 0), byteCell ((sixteenB (t95.at_ 1).S).getD 13 0), byteCell ((sixteenB (t95.at_ 1).S).getD 14 0), byteCell ((sixteenB (t95.at_ 1).S).getD 15 0), .slice none 0 0, .map none], true⟩]) (z := .agg #[.int .i32 0, .int .i16 0, .pointer none, .map none]) [(2, .v (.bool false)), (7, .p 0 0), (9, .v (.bool (decide (v ≥ 0)))), (10, .p 1 0), (15, .v (.slice (some ⟨g88, 0, none⟩) ((lst (T.at_ 3)).length) c89)), (16, .v (.int .i32 (((lst (T.at_ 3)).length : Nat) : Int))), (17, .v (.int .i32 ((k94 : Nat) : Int))), (19, .p 3 0), (23, .v (.slice (some ⟨g156, 0, none⟩) ((lst (t95.at_ 2)).length) c157)), (24, .v (.int .i32 (((lst (t95.at_ 2)).length : Nat) : Int))), (25, .v (.int .i32 ((k162 : Nat) : Int))), (133, .v (.slice (some ⟨g156, 0, none⟩) ((lst (t95.at_ 2)).length) c157)), (134, .v (.int .i32 ((k162 : Nat) : Int)))] [(2, .v (.bool false)), (7, .p 0 0), (9, .v (.bool (decide (v ≥ 0)))), (10, .p 1 0), (15, .v (.slice (some ⟨g88, 0, none⟩) ((lst (T.at_ 3)).length) c89)), (16, .v (.int .i32 (((lst (T.at_ 3)).length : Nat) : Int))), (17, .v (.int .i32 ((k94 : Nat) : Int))), (19, .p 3 0), (23, .v (.slice (some ⟨g156, 0, none⟩) ((lst (t95.at_ 2)).length) c157)), (24, .v (.int .i32 (((lst (t95.at_ 2)).length : Nat) : Int))), (25, .v (.int .i32 ((k162 : Nat) : Int))), (26, .p 5 0)] 2 hS185 hk165 rfl (by kernel_rfl) fun _ hS186 => ?_
              clear hS185
              have hS187 := hS186.tbEq (tb' := [⟨bv, 0, [.int .i16 v, .int .i32 (IntKind.i32.wrap (T.at_ 0).N), .int .i16 (IntKind.i16.wrap (T.at_ 1).N), .pointer x53, .slice none 0 0, .map none], true⟩, restO g88 19 (.agg #[.string ByteArray.empty, .int .u8 0, .int .u8 0, .int .u8 0, .int .u8 0, .int .u8 0, .int .u8 0, .int .u8 0, .int .u8 0, .int .u8 0, .int .u8 0, .int .u8 0, .int .u8 0, .int .u8 0, .int .u8 0, .int .u8 0, .int .u8 0, .slice none 0 0, .map none]) ((lst (T.at_ 3)).length) (k94 + 1), ⟨g88, k94 * 19, [.string (bs (t95.at_ 0).S), byteCell ((sixteenB (t95.at_ 1).S).getD 0 0), byteCell ((sixteenB (t95.at_ 1).S).getD 1 0), byteCell ((sixteenB (t95.at_ 1).S).getD 2 0), byteCell ((sixteenB (t95.at_ 1).S).getD 3 0), byteCell ((sixteenB (t95.at_ 1).S).getD 4 0), byteCell ((sixteenB (t95.at_ 1).S).getD 5 0), byteCell ((sixteenB (t95.at_ 1).S).getD 6 0), byteCell ((sixteenB (t95.at_ 1).S).getD 7 0), byteCell ((sixteenB (t95.at_ 1).S).getD 8 0), byteCell ((sixteenB (t95.at_ 1).S).getD 9 0), byteCell ((sixteenB (t95.at_ 1).S).getD 10 0), byteCell ((sixteenB (t95.at_ 1).S).getD 11 0), byteCell ((sixteenB (t95.at_ 1).S).getD 12 0), byteCell ((sixteenB (t95.at_ 1).S).getD 13 0), byteCell ((sixteenB (t95.at_ 1).S).getD 14 0), byteCell ((sixteenB (t95.at_ 1).S).getD 15 0), .slice none 0 0, .map none], true⟩, restO g156 4 (.agg #[.int .i32 0, .int .i16 0, .pointer none, .map none]) ((lst (t95.at_ 2)).length) (k162 + 1), ⟨g156, k162 * 4, [.int .i32 0, .int .i16 0, .pointer none, .map none], true⟩]) rfl
              clear hS186
              refine then_normal ?_
              refine wp_seq ?_
              refine go_region [0, 1] (by kernel_rfl) ?_
              refine rs_rn [0] [1] [(2, .v (.bool false)), (7, .p 0 0), (9, .v (.bool (decide (v ≥ 0)))), (10, .p 1 0), (15, .v (.slice (some ⟨g88, 0, none⟩) ((lst (T.at_ 3)).length) c89)), (16, .v (.int .i32 (((lst (T.at_ 3)).length : Nat) : Int))), (17, .v (.int .i32 ((k94 : Nat) : Int))), (19, .p 3 0), (23, .v (.slice (some ⟨g156, 0, none⟩) ((lst (t95.at_ 2)).length) c157)), (24, .v (.int .i32 (((lst (t95.at_ 2)).length : Nat) : Int))), (25, .v (.int .i32 ((k162 : Nat) : Int))), (26, .p 5 0), (136, .p 5 0)] hS187 fun _ hS188 => ?_
              clear hS187
              refine of_op (rs_nop (d := 137) (vs := [.pointer (some ⟨g156, k162 * 4, none⟩)]) hS188 (fun _ => nop173 _ _ _) Tryz.call173 fun _ hS189 => ?_)
              clear hS188
              refine wpOps_nil ?_
              have hS190 := hS189.pk (env' := [(2, .v (.bool false)), (7, .p 0 0), (9, .v (.bool (decide (v ≥ 0)))), (10, .p 1 0), (15, .v (.slice (some ⟨g88, 0, none⟩) ((lst (T.at_ 3)).length) c89)), (16, .v (.int .i32 (((lst (T.at_ 3)).length : Nat) : Int))), (17, .v (.int .i32 ((k94 : Nat) : Int))), (19, .p 3 0), (23, .v (.slice (some ⟨g156, 0, none⟩) ((lst (t95.at_ 2)).length) c157)), (24, .v (.int .i32 (((lst (t95.at_ 2)).length : Nat) : Int))), (25, .v (.int .i32 ((k162 : Nat) : Int))), (26, .p 5 0)])
              clear hS189
              refine then_normal ?_
              refine wp_seq ?_
              refine rs_sr [(2, .v (.bool false)), (7, .p 0 0), (9, .v (.bool (decide (v ≥ 0)))), (10, .p 1 0), (15, .v (.slice (some ⟨g88, 0, none⟩) ((lst (T.at_ 3)).length) c89)), (16, .v (.int .i32 (((lst (T.at_ 3)).length : Nat) : Int))), (17, .v (.int .i32 ((k94 : Nat) : Int))), (19, .p 3 0), (23, .v (.slice (some ⟨g156, 0, none⟩) ((lst (t95.at_ 2)).length) c157)), (24, .v (.int .i32 (((lst (t95.at_ 2)).length : Nat) : Int))), (25, .v (.int .i32 ((k162 : Nat) : Int))), (27, .p 5 0)] hS190 fun _ hS191 => ?_
              clear hS190
              refine then_normal ?_
              refine wp_seq ?_
              refine wp_seq ?_
              have hS192 := hS191.cast hR183
              clear hS191
              refine rs_ca0 (d := 139) [(2, .v (.bool false)), (7, .p 0 0), (9, .v (.bool (decide (v ≥ 0)))), (10, .p 1 0), (15, .v (.slice (some ⟨g88, 0, none⟩) ((lst (T.at_ 3)).length) c89)), (16, .v (.int .i32 (((lst (T.at_ 3)).length : Nat) : Int))), (17, .v (.int .i32 ((k94 : Nat) : Int))), (19, .p 3 0), (23, .v (.slice (some ⟨g156, 0, none⟩) ((lst (t95.at_ 2)).length) c157)), (24, .v (.int .i32 (((lst (t95.at_ 2)).length : Nat) : Int))), (25, .v (.int .i32 ((k162 : Nat) : Int))), (27, .p 5 0), (28, .v (.int .i32 (IntKind.i32.wrap (t163.at_ 0).N)))] hS192 (pInt32 _ _) Tryz.call153 fun _ _ hS194 => ?_
              clear hS192
              refine then_normal ?_
              refine rs_sto [⟨bv, 0, [.int .i16 v, .int .i32 (IntKind.i32.wrap (T.at_ 0).N), .int .i16 (IntKind.i16.wrap (T.at_ 1).N), .pointer x53, .slice none 0 0, .map none], true⟩, restO g88 19 (.agg #[.string ByteArray.empty, .int .u8 0, .int .u8 0, .int .u8 0, .int .u8 0, .int .u8 0, .int .u8 0, .int .u8 0, .int .u8 0, .int .u8 0, .int .u8 0, .int .u8 0, .int .u8 0, .int .u8 0, .int .u8 0, .int .u8 0, .int .u8 0, .slice none 0 0, .map none]) ((lst (T.at_ 3)).length) (k94 + 1), ⟨g88, k94 * 19, [.string (bs (t95.at_ 0).S), byteCell ((sixteenB (t95.at_ 1).S).getD 0 0), byteCell ((sixteenB (t95.at_ 1).S).getD 1 0), byteCell ((sixteenB (t95.at_ 1).S).getD 2 0), byteCell ((sixteenB (t95.at_ 1).S).getD 3 0), byteCell ((sixteenB (t95.at_ 1).S).getD 4 0), byteCell ((sixteenB (t95.at_ 1).S).getD 5 0), byteCell ((sixteenB (t95.at_ 1).S).getD 6 0), byteCell ((sixteenB (t95.at_ 1).S).getD 7 0), byteCell ((sixteenB (t95.at_ 1).S).getD 8 0), byteCell ((sixteenB (t95.at_ 1).S).getD 9 0), byteCell ((sixteenB (t95.at_ 1).S).getD 10 0), byteCell ((sixteenB (t95.at_ 1).S).getD 11 0), byteCell ((sixteenB (t95.at_ 1).S).getD 12 0), byteCell ((sixteenB (t95.at_ 1).S).getD 13 0), byteCell ((sixteenB (t95.at_ 1).S).getD 14 0), byteCell ((sixteenB (t95.at_ 1).S).getD 15 0), .slice none 0 0, .map none], true⟩, restO g156 4 (.agg #[.int .i32 0, .int .i16 0, .pointer none, .map none]) ((lst (t95.at_ 2)).length) (k162 + 1), ⟨g156, k162 * 4, [.int .i32 (IntKind.i32.wrap (t163.at_ 0).N), .int .i16 0, .pointer none, .map none], true⟩] 4 [(2, .v (.bool false)), (7, .p 0 0), (9, .v (.bool (decide (v ≥ 0)))), (10, .p 1 0), (15, .v (.slice (some ⟨g88, 0, none⟩) ((lst (T.at_ 3)).length) c89)), (16, .v (.int .i32 (((lst (T.at_ 3)).length : Nat) : Int))), (17, .v (.int .i32 ((k94 : Nat) : Int))), (19, .p 3 0), (23, .v (.slice (some ⟨g156, 0, none⟩) ((lst (t95.at_ 2)).length) c157)), (24, .v (.int .i32 (((lst (t95.at_ 2)).length : Nat) : Int))), (25, .v (.int .i32 ((k162 : Nat) : Int))), (27, .p 5 0)] hS194 fun _ _ hS195 => ?_
              clear hS194
              refine then_normal ?_
              refine wp_seq ?_
              refine wp_seq ?_
              have hS196 := hS195.cast hR181
              clear hS195
              refine rs_ca0 (d := 144) [(2, .v (.bool false)), (7, .p 0 0), (9, .v (.bool (decide (v ≥ 0)))), (10, .p 1 0), (15, .v (.slice (some ⟨g88, 0, none⟩) ((lst (T.at_ 3)).length) c89)), (16, .v (.int .i32 (((lst (T.at_ 3)).length : Nat) : Int))), (17, .v (.int .i32 ((k94 : Nat) : Int))), (19, .p 3 0), (23, .v (.slice (some ⟨g156, 0, none⟩) ((lst (t95.at_ 2)).length) c157)), (24, .v (.int .i32 (((lst (t95.at_ 2)).length : Nat) : Int))), (25, .v (.int .i32 ((k162 : Nat) : Int))), (27, .p 5 0), (29, .v (.int .i16 (IntKind.i16.wrap (t163.at_ 1).N)))] hS196 (pInt16 _ _) Tryz.call161 fun _ _ hS198 => ?_
              clear hS196
              refine then_normal ?_
              refine rs_sto [⟨bv, 0, [.int .i16 v, .int .i32 (IntKind.i32.wrap (T.at_ 0).N), .int .i16 (IntKind.i16.wrap (T.at_ 1).N), .pointer x53, .slice none 0 0, .map none], true⟩, restO g88 19 (.agg #[.string ByteArray.empty, .int .u8 0, .int .u8 0, .int .u8 0, .int .u8 0, .int .u8 0, .int .u8 0, .int .u8 0, .int .u8 0, .int .u8 0, .int .u8 0, .int .u8 0, .int .u8 0, .int .u8 0, .int .u8 0, .int .u8 0, .int .u8 0, .slice none 0 0, .map none]) ((lst (T.at_ 3)).length) (k94 + 1), ⟨g88, k94 * 19, [.string (bs (t95.at_ 0).S), byteCell ((sixteenB (t95.at_ 1).S).getD 0 0), byteCell ((sixteenB (t95.at_ 1).S).getD 1 0), byteCell ((sixteenB (t95.at_ 1).S).getD 2 0), byteCell ((sixteenB (t95.at_ 1).S).getD 3 0), byteCell ((sixteenB (t95.at_ 1).S).getD 4 0), byteCell ((sixteenB (t95.at_ 1).S).getD 5 0), byteCell ((sixteenB (t95.at_ 1).S).getD 6 0), byteCell ((sixteenB (t95.at_ 1).S).getD 7 0), byteCell ((sixteenB (t95.at_ 1).S).getD 8 0), byteCell ((sixteenB (t95.at_ 1).S).getD 9 0), byteCell ((sixteenB (t95.at_ 1).S).getD 10 0), byteCell ((sixteenB (t95.at_ 1).S).getD 11 0), byteCell ((sixteenB (t95.at_ 1).S).getD 12 0), byteCell ((sixteenB (t95.at_ 1).S).getD 13 0), byteCell ((sixteenB (t95.at_ 1).S).getD 14 0), byteCell ((sixteenB (t95.at_ 1).S).getD 15 0), .slice none 0 0, .map none], true⟩, restO g156 4 (.agg #[.int .i32 0, .int .i16 0, .pointer none, .map none]) ((lst (t95.at_ 2)).length) (k162 + 1), ⟨g156, k162 * 4, [.int .i32 (IntKind.i32.wrap (t163.at_ 0).N), .int .i16 (IntKind.i16.wrap (t163.at_ 1).N), .pointer none, .map none], true⟩] 4 [(2, .v (.bool false)), (7, .p 0 0), (9, .v (.bool (decide (v ≥ 0)))), (10, .p 1 0), (15, .v (.slice (some ⟨g88, 0, none⟩) ((lst (T.at_ 3)).length) c89)), (16, .v (.int .i32 (((lst (T.at_ 3)).length : Nat) : Int))), (17, .v (.int .i32 ((k94 : Nat) : Int))), (19, .p 3 0), (23, .v (.slice (some ⟨g156, 0, none⟩) ((lst (t95.at_ 2)).length) c157)), (24, .v (.int .i32 (((lst (t95.at_ 2)).length : Nat) : Int))), (25, .v (.int .i32 ((k162 : Nat) : Int))), (27, .p 5 0)] hS198 fun _ _ hS199 => ?_
              clear hS198
              refine then_normal ?_
              refine wp_seq ?_
              refine wp_seq ?_
              refine rs_sr [(2, .v (.bool false)), (7, .p 0 0), (9, .v (.bool (decide (v ≥ 0)))), (10, .p 1 0), (15, .v (.slice (some ⟨g88, 0, none⟩) ((lst (T.at_ 3)).length) c89)), (16, .v (.int .i32 (((lst (T.at_ 3)).length : Nat) : Int))), (17, .v (.int .i32 ((k94 : Nat) : Int))), (19, .p 3 0), (23, .v (.slice (some ⟨g156, 0, none⟩) ((lst (t95.at_ 2)).length) c157)), (24, .v (.int .i32 (((lst (t95.at_ 2)).length : Nat) : Int))), (25, .v (.int .i32 ((k162 : Nat) : Int))), (27, .p 5 0)] hS199 fun _ hS200 => ?_
              clear hS199
              refine then_normal ?_
              refine wp_seq ?_
              have hS201 := hS200.cast hR179
              clear hS200
              refine wp_joinN (Mid := fun a_ w_ => ∃ (x202 : Option Addr) (P' : FactW), (∀ w F, P' w F → P170 w F ∧ textF x202 (octOf (t163.at_ 2)) w F ∧ x202.isNone = (t163.at_ 2).null) ∧ RS w (fun b o => b = bv ∧ o < 6) F 186 b13 [⟨bv, 0, [.int .i16 v, .int .i32 (IntKind.i32.wrap (T.at_ 0).N), .int .i16 (IntKind.i16.wrap (T.at_ 1).N), .pointer x53, .slice none 0 0, .map none], true⟩, restO g88 19 (.agg #[.string ByteArray.empty, .int .u8 0, .int .u8 0, .int .u8 0, .int .u8 0, .int .u8 0, .int .u8 0, .int .u8 0, .int .u8 0, .int .u8 0, .int .u8 0, .int .u8 0, .int .u8 0, .int .u8 0, .int .u8 0, .int .u8 0, .int .u8 0, .slice none 0 0, .map none]) ((lst (T.at_ 3)).length) (k94 + 1), ⟨g88, k94 * 19, [.string (bs (t95.at_ 0).S), byteCell ((sixteenB (t95.at_ 1).S).getD 0 0), byteCell ((sixteenB (t95.at_ 1).S).getD 1 0), byteCell ((sixteenB (t95.at_ 1).S).getD 2 0), byteCell ((sixteenB (t95.at_ 1).S).getD 3 0), byteCell ((sixteenB (t95.at_ 1).S).getD 4 0), byteCell ((sixteenB (t95.at_ 1).S).getD 5 0), byteCell ((sixteenB (t95.at_ 1).S).getD 6 0), byteCell ((sixteenB (t95.at_ 1).S).getD 7 0), byteCell ((sixteenB (t95.at_ 1).S).getD 8 0), byteCell ((sixteenB (t95.at_ 1).S).getD 9 0), byteCell ((sixteenB (t95.at_ 1).S).getD 10 0), byteCell ((sixteenB (t95.at_ 1).S).getD 11 0), byteCell ((sixteenB (t95.at_ 1).S).getD 12 0), byteCell ((sixteenB (t95.at_ 1).S).getD 13 0), byteCell ((sixteenB (t95.at_ 1).S).getD 14 0), byteCell ((sixteenB (t95.at_ 1).S).getD 15 0), .slice none 0 0, .map none], true⟩, restO g156 4 (.agg #[.int .i32 0, .int .i16 0, .pointer none, .map none]) ((lst (t95.at_ 2)).length) (k162 + 1), ⟨g156, k162 * 4, [.int .i32 (IntKind.i32.wrap (t163.at_ 0).N), .int .i16 (IntKind.i16.wrap (t163.at_ 1).N), .pointer none, .map none], true⟩] [(2, .v (.bool false)), (7, .p 0 0), (9, .v (.bool (decide (v ≥ 0)))), (10, .p 1 0), (15, .v (.slice (some ⟨g88, 0, none⟩) ((lst (T.at_ 3)).length) c89)), (16, .v (.int .i32 (((lst (T.at_ 3)).length : Nat) : Int))), (17, .v (.int .i32 ((k94 : Nat) : Int))), (19, .p 3 0), (23, .v (.slice (some ⟨g156, 0, none⟩) ((lst (t95.at_ 2)).length) c157)), (24, .v (.int .i32 (((lst (t95.at_ 2)).length : Nat) : Int))), (25, .v (.int .i32 ((k162 : Nat) : Int))), (27, .p 5 0), (30, .v (.pointer x202))] P' R176 a_ w_) ?_ ?_
              ·
                refine wp_seq ?_
                refine rs_sr [(2, .v (.bool false)), (7, .p 0 0), (9, .v (.bool (decide (v ≥ 0)))), (10, .p 1 0), (15, .v (.slice (some ⟨g88, 0, none⟩) ((lst (T.at_ 3)).length) c89)), (16, .v (.int .i32 (((lst (T.at_ 3)).length : Nat) : Int))), (17, .v (.int .i32 ((k94 : Nat) : Int))), (19, .p 3 0), (23, .v (.slice (some ⟨g156, 0, none⟩) ((lst (t95.at_ 2)).length) c157)), (24, .v (.int .i32 (((lst (t95.at_ 2)).length : Nat) : Int))), (25, .v (.int .i32 ((k162 : Nat) : Int))), (27, .p 5 0), (149, .v (.bool (decide (v ≥ 0))))] hS201 fun _ hS206 => then_normal ?_
                clear hS201
                refine cond_of hS206.env_ (b := decide (v ≥ 0)) (by kernel_rfl) (fun hc207 => ?_) (fun hc207 => ?_)
                ·
                  have hS208 := hS206.cast (t := (if (t163.at_ 2).null = true then uv 0 else uv ((octOf (t163.at_ 2)).length + 1) ++ (octOf (t163.at_ 2))) ++ R176) (by rw [if_pos hc207])
                  clear hS206
                  refine wp_seq ?_
                  refine rs_sr [(2, .v (.bool false)), (7, .p 0 0), (9, .v (.bool (decide (v ≥ 0)))), (10, .p 1 0), (15, .v (.slice (some ⟨g88, 0, none⟩) ((lst (T.at_ 3)).length) c89)), (16, .v (.int .i32 (((lst (T.at_ 3)).length : Nat) : Int))), (17, .v (.int .i32 ((k94 : Nat) : Int))), (19, .p 3 0), (23, .v (.slice (some ⟨g156, 0, none⟩) ((lst (t95.at_ 2)).length) c157)), (24, .v (.int .i32 (((lst (t95.at_ 2)).length : Nat) : Int))), (25, .v (.int .i32 ((k162 : Nat) : Int))), (27, .p 5 0), (150, .v (.bool false))] hS208 fun _ hS209 => then_normal ?_
                  clear hS208
                  refine cond_false hS209.env_ (b := false) (by kernel_rfl) (rfl) ?_
                  refine rs_ca (d := 152) (fun x210 => [(2, .v (.bool false)), (7, .p 0 0), (9, .v (.bool (decide (v ≥ 0)))), (10, .p 1 0), (15, .v (.slice (some ⟨g88, 0, none⟩) ((lst (T.at_ 3)).length) c89)), (16, .v (.int .i32 (((lst (T.at_ 3)).length : Nat) : Int))), (17, .v (.int .i32 ((k94 : Nat) : Int))), (19, .p 3 0), (23, .v (.slice (some ⟨g156, 0, none⟩) ((lst (t95.at_ 2)).length) c157)), (24, .v (.int .i32 (((lst (t95.at_ 2)).length : Nat) : Int))), (25, .v (.int .i32 ((k162 : Nat) : Int))), (27, .p 5 0), (30, .v (.pointer x210))]) hS209 (pCompactNullableString (t163.at_ 2).null (octOf (t163.at_ 2)) e175_2 _) (fun _ => (MvF.text _ _).and (MvF.is _)) Tryz.call163 fun x210 P212 _ _ hP213 hS211 => ?_
                  clear hS209
                  refine then_normal ?_
                  exact ⟨x210, _, fun w F h_ => ⟨(hP213 _ _ h_).1, (hP213 _ _ h_).2⟩, hS211.pk (env' := [(2, .v (.bool false)), (7, .p 0 0), (9, .v (.bool (decide (v ≥ 0)))), (10, .p 1 0), (15, .v (.slice (some ⟨g88, 0, none⟩) ((lst (T.at_ 3)).length) c89)), (16, .v (.int .i32 (((lst (T.at_ 3)).length : Nat) : Int))), (17, .v (.int .i32 ((k94 : Nat) : Int))), (19, .p 3 0), (23, .v (.slice (some ⟨g156, 0, none⟩) ((lst (t95.at_ 2)).length) c157)), (24, .v (.int .i32 (((lst (t95.at_ 2)).length : Nat) : Int))), (25, .v (.int .i32 ((k162 : Nat) : Int))), (27, .p 5 0), (30, .v (.pointer x210))])⟩
                ·
                  have hS214 := hS206.cast (t := (if (t163.at_ 2).null = true then be 2 (-1) else be 2 (octOf (t163.at_ 2)).length ++ (octOf (t163.at_ 2))) ++ R176) (by rw [if_neg (by rw [hc207]; decide)])
                  clear hS206
                  refine wp_seq ?_
                  refine rs_sr [(2, .v (.bool false)), (7, .p 0 0), (9, .v (.bool (decide (v ≥ 0)))), (10, .p 1 0), (15, .v (.slice (some ⟨g88, 0, none⟩) ((lst (T.at_ 3)).length) c89)), (16, .v (.int .i32 (((lst (T.at_ 3)).length : Nat) : Int))), (17, .v (.int .i32 ((k94 : Nat) : Int))), (19, .p 3 0), (23, .v (.slice (some ⟨g156, 0, none⟩) ((lst (t95.at_ 2)).length) c157)), (24, .v (.int .i32 (((lst (t95.at_ 2)).length : Nat) : Int))), (25, .v (.int .i32 ((k162 : Nat) : Int))), (27, .p 5 0), (153, .v (.bool false))] hS214 fun _ hS215 => then_normal ?_
                  clear hS214
                  refine cond_false hS215.env_ (b := false) (by kernel_rfl) (rfl) ?_
                  refine rs_ca (d := 155) (fun x216 => [(2, .v (.bool false)), (7, .p 0 0), (9, .v (.bool (decide (v ≥ 0)))), (10, .p 1 0), (15, .v (.slice (some ⟨g88, 0, none⟩) ((lst (T.at_ 3)).length) c89)), (16, .v (.int .i32 (((lst (T.at_ 3)).length : Nat) : Int))), (17, .v (.int .i32 ((k94 : Nat) : Int))), (19, .p 3 0), (23, .v (.slice (some ⟨g156, 0, none⟩) ((lst (t95.at_ 2)).length) c157)), (24, .v (.int .i32 (((lst (t95.at_ 2)).length : Nat) : Int))), (25, .v (.int .i32 ((k162 : Nat) : Int))), (27, .p 5 0), (30, .v (.pointer x216))]) hS215 (pNullableString (t163.at_ 2).null (octOf (t163.at_ 2)) e175_2 _) (fun _ => (MvF.text _ _).and (MvF.is _)) Tryz.call165 fun x216 P218 _ _ hP219 hS217 => ?_
                  clear hS215
                  refine then_normal ?_
                  exact ⟨x216, _, fun w F h_ => ⟨(hP219 _ _ h_).1, (hP219 _ _ h_).2⟩, hS217.pk (env' := [(2, .v (.bool false)), (7, .p 0 0), (9, .v (.bool (decide (v ≥ 0)))), (10, .p 1 0), (15, .v (.slice (some ⟨g88, 0, none⟩) ((lst (T.at_ 3)).length) c89)), (16, .v (.int .i32 (((lst (T.at_ 3)).length : Nat) : Int))), (17, .v (.int .i32 ((k94 : Nat) : Int))), (19, .p 3 0), (23, .v (.slice (some ⟨g156, 0, none⟩) ((lst (t95.at_ 2)).length) c157)), (24, .v (.int .i32 (((lst (t95.at_ 2)).length : Nat) : Int))), (25, .v (.int .i32 ((k162 : Nat) : Int))), (27, .p 5 0), (30, .v (.pointer x216))])⟩
              rintro _ _ ⟨x202, P203, hP204, hS205⟩
              refine then_normal ?_
              refine rs_sto [⟨bv, 0, [.int .i16 v, .int .i32 (IntKind.i32.wrap (T.at_ 0).N), .int .i16 (IntKind.i16.wrap (T.at_ 1).N), .pointer x53, .slice none 0 0, .map none], true⟩, restO g88 19 (.agg #[.string ByteArray.empty, .int .u8 0, .int .u8 0, .int .u8 0, .int .u8 0, .int .u8 0, .int .u8 0, .int .u8 0, .int .u8 0, .int .u8 0, .int .u8 0, .int .u8 0, .int .u8 0, .int .u8 0, .int .u8 0, .int .u8 0, .int .u8 0, .slice none 0 0, .map none]) ((lst (T.at_ 3)).length) (k94 + 1), ⟨g88, k94 * 19, [.string (bs (t95.at_ 0).S), byteCell ((sixteenB (t95.at_ 1).S).getD 0 0), byteCell ((sixteenB (t95.at_ 1).S).getD 1 0), byteCell ((sixteenB (t95.at_ 1).S).getD 2 0), byteCell ((sixteenB (t95.at_ 1).S).getD 3 0), byteCell ((sixteenB (t95.at_ 1).S).getD 4 0), byteCell ((sixteenB (t95.at_ 1).S).getD 5 0), byteCell ((sixteenB (t95.at_ 1).S).getD 6 0), byteCell ((sixteenB (t95.at_ 1).S).getD 7 0), byteCell ((sixteenB (t95.at_ 1).S).getD 8 0), byteCell ((sixteenB (t95.at_ 1).S).getD 9 0), byteCell ((sixteenB (t95.at_ 1).S).getD 10 0), byteCell ((sixteenB (t95.at_ 1).S).getD 11 0), byteCell ((sixteenB (t95.at_ 1).S).getD 12 0), byteCell ((sixteenB (t95.at_ 1).S).getD 13 0), byteCell ((sixteenB (t95.at_ 1).S).getD 14 0), byteCell ((sixteenB (t95.at_ 1).S).getD 15 0), .slice none 0 0, .map none], true⟩, restO g156 4 (.agg #[.int .i32 0, .int .i16 0, .pointer none, .map none]) ((lst (t95.at_ 2)).length) (k162 + 1), ⟨g156, k162 * 4, [.int .i32 (IntKind.i32.wrap (t163.at_ 0).N), .int .i16 (IntKind.i16.wrap (t163.at_ 1).N), .pointer x202, .map none], true⟩] 4 [(2, .v (.bool false)), (7, .p 0 0), (9, .v (.bool (decide (v ≥ 0)))), (10, .p 1 0), (15, .v (.slice (some ⟨g88, 0, none⟩) ((lst (T.at_ 3)).length) c89)), (16, .v (.int .i32 (((lst (T.at_ 3)).length : Nat) : Int))), (17, .v (.int .i32 ((k94 : Nat) : Int))), (19, .p 3 0), (23, .v (.slice (some ⟨g156, 0, none⟩) ((lst (t95.at_ 2)).length) c157)), (24, .v (.int .i32 (((lst (t95.at_ 2)).length : Nat) : Int))), (25, .v (.int .i32 ((k162 : Nat) : Int))), (27, .p 5 0)] hS205 fun _ _ hS220 => ?_
              clear hS205
              refine then_normal ?_
              have hS221 := hS220.cast hR177
              clear hS220
              refine wp_joinN (Mid := fun a_ w_ => ∃ (m223 : Option Nat) (u224 : List (Int × Bs)) (P' : FactW), (∀ w F, P' w F → P203 w F ∧ (MapR w F m223 u224 ∧ u224.length ≤ 1000000 ∧ ∀ x ∈ u224, x.2.length < 4294967296) ∧ ((decide (v ≥ 0)) = true → u224 = t163.U) ∧ ((decide (v ≥ 0)) = false → u224 = [])) ∧ RS w (fun b o => b = bv ∧ o < 6) F 186 b13 [⟨bv, 0, [.int .i16 v, .int .i32 (IntKind.i32.wrap (T.at_ 0).N), .int .i16 (IntKind.i16.wrap (T.at_ 1).N), .pointer x53, .slice none 0 0, .map none], true⟩, restO g88 19 (.agg #[.string ByteArray.empty, .int .u8 0, .int .u8 0, .int .u8 0, .int .u8 0, .int .u8 0, .int .u8 0, .int .u8 0, .int .u8 0, .int .u8 0, .int .u8 0, .int .u8 0, .int .u8 0, .int .u8 0, .int .u8 0, .int .u8 0, .int .u8 0, .slice none 0 0, .map none]) ((lst (T.at_ 3)).length) (k94 + 1), ⟨g88, k94 * 19, [.string (bs (t95.at_ 0).S), byteCell ((sixteenB (t95.at_ 1).S).getD 0 0), byteCell ((sixteenB (t95.at_ 1).S).getD 1 0), byteCell ((sixteenB (t95.at_ 1).S).getD 2 0), byteCell ((sixteenB (t95.at_ 1).S).getD 3 0), byteCell ((sixteenB (t95.at_ 1).S).getD 4 0), byteCell ((sixteenB (t95.at_ 1).S).getD 5 0), byteCell ((sixteenB (t95.at_ 1).S).getD 6 0), byteCell ((sixteenB (t95.at_ 1).S).getD 7 0), byteCell ((sixteenB (t95.at_ 1).S).getD 8 0), byteCell ((sixteenB (t95.at_ 1).S).getD 9 0), byteCell ((sixteenB (t95.at_ 1).S).getD 10 0), byteCell ((sixteenB (t95.at_ 1).S).getD 11 0), byteCell ((sixteenB (t95.at_ 1).S).getD 12 0), byteCell ((sixteenB (t95.at_ 1).S).getD 13 0), byteCell ((sixteenB (t95.at_ 1).S).getD 14 0), byteCell ((sixteenB (t95.at_ 1).S).getD 15 0), .slice none 0 0, .map none], true⟩, restO g156 4 (.agg #[.int .i32 0, .int .i16 0, .pointer none, .map none]) ((lst (t95.at_ 2)).length) (k162 + 1), ⟨g156, k162 * 4, [.int .i32 (IntKind.i32.wrap (t163.at_ 0).N), .int .i16 (IntKind.i16.wrap (t163.at_ 1).N), .pointer x202, .map m223], true⟩] [(2, .v (.bool false)), (7, .p 0 0), (9, .v (.bool (decide (v ≥ 0)))), (10, .p 1 0), (15, .v (.slice (some ⟨g88, 0, none⟩) ((lst (T.at_ 3)).length) c89)), (16, .v (.int .i32 (((lst (T.at_ 3)).length : Nat) : Int))), (17, .v (.int .i32 ((k94 : Nat) : Int))), (19, .p 3 0), (23, .v (.slice (some ⟨g156, 0, none⟩) ((lst (t95.at_ 2)).length) c157)), (24, .v (.int .i32 (((lst (t95.at_ 2)).length : Nat) : Int))), (25, .v (.int .i32 ((k162 : Nat) : Int)))] P' R173 a_ w_) ?_ ?_
              ·
                refine wp_seq ?_
                refine rs_sr [(2, .v (.bool false)), (7, .p 0 0), (9, .v (.bool (decide (v ≥ 0)))), (10, .p 1 0), (15, .v (.slice (some ⟨g88, 0, none⟩) ((lst (T.at_ 3)).length) c89)), (16, .v (.int .i32 (((lst (T.at_ 3)).length : Nat) : Int))), (17, .v (.int .i32 ((k94 : Nat) : Int))), (19, .p 3 0), (23, .v (.slice (some ⟨g156, 0, none⟩) ((lst (t95.at_ 2)).length) c157)), (24, .v (.int .i32 (((lst (t95.at_ 2)).length : Nat) : Int))), (25, .v (.int .i32 ((k162 : Nat) : Int))), (27, .p 5 0), (160, .v (.bool (decide (v ≥ 0))))] hS221 fun _ hS228 => then_normal ?_
                clear hS221
                refine cond_of hS228.env_ (b := decide (v ≥ 0)) (by kernel_rfl) (fun hc229 => ?_) (fun hc229 => ?_)
                ·
                  have hS230 := hS228.cast (t := ((uv t163.U.length) ++ (tagsR t163.U)) ++ R173) (by rw [if_pos hc229])
                  clear hS228
                  refine go_region [0, 1, 2, 3, 4] (by kernel_rfl) ?_
                  refine rs_rn [0] [1, 2, 3, 4] [(2, .v (.bool false)), (7, .p 0 0), (9, .v (.bool (decide (v ≥ 0)))), (10, .p 1 0), (15, .v (.slice (some ⟨g88, 0, none⟩) ((lst (T.at_ 3)).length) c89)), (16, .v (.int .i32 (((lst (T.at_ 3)).length : Nat) : Int))), (17, .v (.int .i32 ((k94 : Nat) : Int))), (19, .p 3 0), (23, .v (.slice (some ⟨g156, 0, none⟩) ((lst (t95.at_ 2)).length) c157)), (24, .v (.int .i32 (((lst (t95.at_ 2)).length : Nat) : Int))), (25, .v (.int .i32 ((k162 : Nat) : Int))), (161, .p 5 0)] hS230 fun _ hS231 => ?_
                  clear hS230
                  refine of_op (rs_call (d := 162) hS231 (pTags t163.U e175_U (ranged_U e175r) _) (fun _ => MvF.tags _ _) Tryz.call154 fun m232 P233 _ _ hP234 hS235 => ?_)
                  clear hS231
                  refine rs_rn [2, 3] [4] [(2, .v (.bool false)), (7, .p 0 0), (9, .v (.bool (decide (v ≥ 0)))), (10, .p 1 0), (15, .v (.slice (some ⟨g88, 0, none⟩) ((lst (T.at_ 3)).length) c89)), (16, .v (.int .i32 (((lst (T.at_ 3)).length : Nat) : Int))), (17, .v (.int .i32 ((k94 : Nat) : Int))), (19, .p 3 0), (23, .v (.slice (some ⟨g156, 0, none⟩) ((lst (t95.at_ 2)).length) c157)), (24, .v (.int .i32 (((lst (t95.at_ 2)).length : Nat) : Int))), (25, .v (.int .i32 ((k162 : Nat) : Int))), (162, .v (.agg #[.map m232])), (164, .p 5 3)] hS235 fun _ hS236 => ?_
                  clear hS235
                  refine of_op (rs_store [⟨bv, 0, [.int .i16 v, .int .i32 (IntKind.i32.wrap (T.at_ 0).N), .int .i16 (IntKind.i16.wrap (T.at_ 1).N), .pointer x53, .slice none 0 0, .map none], true⟩, restO g88 19 (.agg #[.string ByteArray.empty, .int .u8 0, .int .u8 0, .int .u8 0, .int .u8 0, .int .u8 0, .int .u8 0, .int .u8 0, .int .u8 0, .int .u8 0, .int .u8 0, .int .u8 0, .int .u8 0, .int .u8 0, .int .u8 0, .int .u8 0, .int .u8 0, .slice none 0 0, .map none]) ((lst (T.at_ 3)).length) (k94 + 1), ⟨g88, k94 * 19, [.string (bs (t95.at_ 0).S), byteCell ((sixteenB (t95.at_ 1).S).getD 0 0), byteCell ((sixteenB (t95.at_ 1).S).getD 1 0), byteCell ((sixteenB (t95.at_ 1).S).getD 2 0), byteCell ((sixteenB (t95.at_ 1).S).getD 3 0), byteCell ((sixteenB (t95.at_ 1).S).getD 4 0), byteCell ((sixteenB (t95.at_ 1).S).getD 5 0), byteCell ((sixteenB (t95.at_ 1).S).getD 6 0), byteCell ((sixteenB (t95.at_ 1).S).getD 7 0), byteCell ((sixteenB (t95.at_ 1).S).getD 8 0), byteCell ((sixteenB (t95.at_ 1).S).getD 9 0), byteCell ((sixteenB (t95.at_ 1).S).getD 10 0), byteCell ((sixteenB (t95.at_ 1).S).getD 11 0), byteCell ((sixteenB (t95.at_ 1).S).getD 12 0), byteCell ((sixteenB (t95.at_ 1).S).getD 13 0), byteCell ((sixteenB (t95.at_ 1).S).getD 14 0), byteCell ((sixteenB (t95.at_ 1).S).getD 15 0), .slice none 0 0, .map none], true⟩, restO g156 4 (.agg #[.int .i32 0, .int .i16 0, .pointer none, .map none]) ((lst (t95.at_ 2)).length) (k162 + 1), ⟨g156, k162 * 4, [.int .i32 (IntKind.i32.wrap (t163.at_ 0).N), .int .i16 (IntKind.i16.wrap (t163.at_ 1).N), .pointer x202, .map m232], true⟩] 4 hS236 fun _ hS237 => ?_)
                  clear hS236
                  refine wpOps_nil ?_
                  have hS238 := hS237.pk (env' := [(2, .v (.bool false)), (7, .p 0 0), (9, .v (.bool (decide (v ≥ 0)))), (10, .p 1 0), (15, .v (.slice (some ⟨g88, 0, none⟩) ((lst (T.at_ 3)).length) c89)), (16, .v (.int .i32 (((lst (T.at_ 3)).length : Nat) : Int))), (17, .v (.int .i32 ((k94 : Nat) : Int))), (19, .p 3 0), (23, .v (.slice (some ⟨g156, 0, none⟩) ((lst (t95.at_ 2)).length) c157)), (24, .v (.int .i32 (((lst (t95.at_ 2)).length : Nat) : Int))), (25, .v (.int .i32 ((k162 : Nat) : Int)))])
                  clear hS237
                  refine then_normal ?_
                  exact ⟨m232, t163.U, _, fun w F h_ => ⟨(hP234 _ _ h_).1, ⟨(hP234 _ _ h_).2, e175_U.2.1, e175_U.2.2⟩, ⟨fun _ => rfl, (fun e_ => by rw [hc229] at e_; cases e_)⟩⟩, hS238.pk (env' := [(2, .v (.bool false)), (7, .p 0 0), (9, .v (.bool (decide (v ≥ 0)))), (10, .p 1 0), (15, .v (.slice (some ⟨g88, 0, none⟩) ((lst (T.at_ 3)).length) c89)), (16, .v (.int .i32 (((lst (T.at_ 3)).length : Nat) : Int))), (17, .v (.int .i32 ((k94 : Nat) : Int))), (19, .p 3 0), (23, .v (.slice (some ⟨g156, 0, none⟩) ((lst (t95.at_ 2)).length) c157)), (24, .v (.int .i32 (((lst (t95.at_ 2)).length : Nat) : Int))), (25, .v (.int .i32 ((k162 : Nat) : Int)))])⟩
                ·
                  have hS239 := hS228.cast (t := [] ++ R173) (by rw [if_neg (by rw [hc229]; decide)])
                  clear hS228
                  have hS240 := hS239.cast (t := R173) rfl
                  clear hS239
                  refine wp_skip (then_normal ?_)
                  exact ⟨none, [], _, fun w F h_ => ⟨h_, ⟨MapR.nil _ _, Nat.zero_le _, fun _ h => by cases h⟩, ⟨(fun e_ => by rw [hc229] at e_; cases e_), fun _ => rfl⟩⟩, hS240.pk (env' := [(2, .v (.bool false)), (7, .p 0 0), (9, .v (.bool (decide (v ≥ 0)))), (10, .p 1 0), (15, .v (.slice (some ⟨g88, 0, none⟩) ((lst (T.at_ 3)).length) c89)), (16, .v (.int .i32 (((lst (T.at_ 3)).length : Nat) : Int))), (17, .v (.int .i32 ((k94 : Nat) : Int))), (19, .p 3 0), (23, .v (.slice (some ⟨g156, 0, none⟩) ((lst (t95.at_ 2)).length) c157)), (24, .v (.int .i32 (((lst (t95.at_ 2)).length : Nat) : Int))), (25, .v (.int .i32 ((k162 : Nat) : Int)))])⟩
              rintro _ _ ⟨m223, u224, P225, hP226, hS227⟩
              refine block_normal ?_
              refine then_normal ?_
              refine rs_sr [(2, .v (.bool false)), (7, .p 0 0), (9, .v (.bool (decide (v ≥ 0)))), (10, .p 1 0), (15, .v (.slice (some ⟨g88, 0, none⟩) ((lst (T.at_ 3)).length) c89)), (16, .v (.int .i32 (((lst (T.at_ 3)).length : Nat) : Int))), (17, .v (.int .i32 ((k94 : Nat) : Int))), (19, .p 3 0), (23, .v (.slice (some ⟨g156, 0, none⟩) ((lst (t95.at_ 2)).length) c157)), (24, .v (.int .i32 (((lst (t95.at_ 2)).length : Nat) : Int))), (25, .v (.int .i32 (IntKind.i32.wrap (((k162 : Nat) : Int) + 1))))] hS227 fun _ hS241 => ?_
              clear hS227
              refine then_normal ?_
              have hS242 := (hS241.envEq (env' := [(2, .v (.bool false)), (7, .p 0 0), (9, .v (.bool (decide (v ≥ 0)))), (10, .p 1 0), (15, .v (.slice (some ⟨g88, 0, none⟩) ((lst (T.at_ 3)).length) c89)), (16, .v (.int .i32 (((lst (T.at_ 3)).length : Nat) : Int))), (17, .v (.int .i32 ((k94 : Nat) : Int))), (19, .p 3 0), (23, .v (.slice (some ⟨g156, 0, none⟩) ((lst (t95.at_ 2)).length) c157)), (24, .v (.int .i32 (((lst (t95.at_ 2)).length : Nat) : Int))), (25, .v (.int .i32 ((k162 + 1 : Nat) : Int)))]) (by rw [i32_succ (by have := e107_2; omega)])).pk (env' := [(2, .v (.bool false)), (7, .p 0 0), (9, .v (.bool (decide (v ≥ 0)))), (10, .p 1 0), (15, .v (.slice (some ⟨g88, 0, none⟩) ((lst (T.at_ 3)).length) c89)), (16, .v (.int .i32 (((lst (T.at_ 3)).length : Nat) : Int))), (17, .v (.int .i32 ((k94 : Nat) : Int))), (19, .p 3 0), (23, .v (.slice (some ⟨g156, 0, none⟩) ((lst (t95.at_ 2)).length) c157)), (24, .v (.int .i32 (((lst (t95.at_ 2)).length : Nat) : Int))), (25, .v (.int .i32 ((k162 + 1 : Nat) : Int)))])
              clear hS241
              exact (RS.thing (tb := [⟨bv, 0, [.int .i16 v, .int .i32 (IntKind.i32.wrap (T.at_ 0).N), .int .i16 (IntKind.i16.wrap (T.at_ 1).N), .pointer x53, .slice none 0 0, .map none], true⟩, restO g88 19 (.agg #[.string ByteArray.empty, .int .u8 0, .int .u8 0, .int .u8 0, .int .u8 0, .int .u8 0, .int .u8 0, .int .u8 0, .int .u8 0, .int .u8 0, .int .u8 0, .int .u8 0, .int .u8 0, .int .u8 0, .int .u8 0, .int .u8 0, .int .u8 0, .slice none 0 0, .map none]) ((lst (T.at_ 3)).length) (k94 + 1), ⟨g88, k94 * 19, [.string (bs (t95.at_ 0).S), byteCell ((sixteenB (t95.at_ 1).S).getD 0 0), byteCell ((sixteenB (t95.at_ 1).S).getD 1 0), byteCell ((sixteenB (t95.at_ 1).S).getD 2 0), byteCell ((sixteenB (t95.at_ 1).S).getD 3 0), byteCell ((sixteenB (t95.at_ 1).S).getD 4 0), byteCell ((sixteenB (t95.at_ 1).S).getD 5 0), byteCell ((sixteenB (t95.at_ 1).S).getD 6 0), byteCell ((sixteenB (t95.at_ 1).S).getD 7 0), byteCell ((sixteenB (t95.at_ 1).S).getD 8 0), byteCell ((sixteenB (t95.at_ 1).S).getD 9 0), byteCell ((sixteenB (t95.at_ 1).S).getD 10 0), byteCell ((sixteenB (t95.at_ 1).S).getD 11 0), byteCell ((sixteenB (t95.at_ 1).S).getD 12 0), byteCell ((sixteenB (t95.at_ 1).S).getD 13 0), byteCell ((sixteenB (t95.at_ 1).S).getD 14 0), byteCell ((sixteenB (t95.at_ 1).S).getD 15 0), .slice none 0 0, .map none], true⟩]) (z := .agg #[.int .i32 0, .int .i16 0, .pointer none, .map none]) (D := (dvP m223 u224 [dvN (IntKind.i32.wrap (t163.at_ 0).N), dvN (IntKind.i16.wrap (t163.at_ 1).N), dvT x202 (bs (octOf (t163.at_ 2)))])) (hS242.cast hR174) hg_g156 ht164 mvAlterShareGroupOffsetsResponseTopicPartition hmP167 rfl (fun w F h_ => ⟨(hP171 _ _ (hP204 _ _ (hP226 _ _ h_).1).1).1, (hP171 _ _ (hP204 _ _ (hP226 _ _ h_).1).1).2, ⟨(trivial), (trivial), (⟨(hP204 _ _ (hP226 _ _ h_).1).2.1, by show ByteArray.size (bs _) ≤ 1000000; rw [bs_size]; exact Nat.le_trans e175_2 (by decide)⟩), (hP226 _ _ h_).2.1.1, (hP226 _ _ h_).2.1.2.1, (hP226 _ _ h_).2.1.2.2, trivial⟩, ⟨(rfl), (rfl), (⟨rfl, (hP204 _ _ (hP226 _ _ h_).1).2.2⟩), (hP226 _ _ h_).2.2, trivial⟩⟩) (by kernel_rfl))
            ·
              refine wp_seq ?_
              refine wp_seq ?_
              refine rs_sr [(2, .v (.bool false)), (7, .p 0 0), (9, .v (.bool (decide (v ≥ 0)))), (10, .p 1 0), (15, .v (.slice (some ⟨g88, 0, none⟩) ((lst (T.at_ 3)).length) c89)), (16, .v (.int .i32 (((lst (T.at_ 3)).length : Nat) : Int))), (17, .v (.int .i32 ((k94 : Nat) : Int))), (19, .p 3 0), (23, .v (.slice (some ⟨g156, 0, none⟩) ((lst (t95.at_ 2)).length) c157)), (24, .v (.int .i32 (((lst (t95.at_ 2)).length : Nat) : Int))), (25, .v (.int .i32 (((lst (t95.at_ 2)).length : Nat) : Int))), (130, .v (.bool (decide ((((lst (t95.at_ 2)).length : Nat) : Int) < (((lst (t95.at_ 2)).length : Nat) : Int)))))] hS169 fun _ hS243 => then_normal ?_
              clear hS169
              refine cond_false hS243.env_ (b := decide ((((lst (t95.at_ 2)).length : Nat) : Int) < (((lst (t95.at_ 2)).length : Nat) : Int))) (by kernel_rfl) (decide_eq_false (by omega)) ?_
              refine wp_exit ?_
              refine then_exit ?_
              refine then_exit ?_
              refine block_exit ?_
              refine then_normal ?_
              obtain ⟨f244, hS245⟩ := RS.listEnd (tb := [⟨bv, 0, [.int .i16 v, .int .i32 (IntKind.i32.wrap (T.at_ 0).N), .int .i16 (IntKind.i16.wrap (T.at_ 1).N), .pointer x53, .slice none 0 0, .map none], true⟩, restO g88 19 (.agg #[.string ByteArray.empty, .int .u8 0, .int .u8 0, .int .u8 0, .int .u8 0, .int .u8 0, .int .u8 0, .int .u8 0, .int .u8 0, .int .u8 0, .int .u8 0, .int .u8 0, .int .u8 0, .int .u8 0, .int .u8 0, .int .u8 0, .int .u8 0, .slice none 0 0, .map none]) ((lst (T.at_ 3)).length) (k94 + 1), ⟨g88, k94 * 19, [.string (bs (t95.at_ 0).S), byteCell ((sixteenB (t95.at_ 1).S).getD 0 0), byteCell ((sixteenB (t95.at_ 1).S).getD 1 0), byteCell ((sixteenB (t95.at_ 1).S).getD 2 0), byteCell ((sixteenB (t95.at_ 1).S).getD 3 0), byteCell ((sixteenB (t95.at_ 1).S).getD 4 0), byteCell ((sixteenB (t95.at_ 1).S).getD 5 0), byteCell ((sixteenB (t95.at_ 1).S).getD 6 0), byteCell ((sixteenB (t95.at_ 1).S).getD 7 0), byteCell ((sixteenB (t95.at_ 1).S).getD 8 0), byteCell ((sixteenB (t95.at_ 1).S).getD 9 0), byteCell ((sixteenB (t95.at_ 1).S).getD 10 0), byteCell ((sixteenB (t95.at_ 1).S).getD 11 0), byteCell ((sixteenB (t95.at_ 1).S).getD 12 0), byteCell ((sixteenB (t95.at_ 1).S).getD 13 0), byteCell ((sixteenB (t95.at_ 1).S).getD 14 0), byteCell ((sixteenB (t95.at_ 1).S).getD 15 0), .slice none 0 0, .map none], true⟩]) (c := c157) (hS243.pk (env' := [(2, .v (.bool false)), (7, .p 0 0), (9, .v (.bool (decide (v ≥ 0)))), (10, .p 1 0), (15, .v (.slice (some ⟨g88, 0, none⟩) ((lst (T.at_ 3)).length) c89)), (16, .v (.int .i32 (((lst (T.at_ 3)).length : Nat) : Int))), (17, .v (.int .i32 ((k94 : Nat) : Int))), (19, .p 3 0), (23, .v (.slice (some ⟨g156, 0, none⟩) ((lst (t95.at_ 2)).length) c157))])) hg_g156 mvAlterShareGroupOffsetsResponseTopicPartition hmP167 hcap_g156 (by have := e107_2; omega) hn_g156 (by kernel_rfl)
              exact ⟨dvL (some ⟨g156, 0, none⟩) (lst (t95.at_ 2)).length c157 f244, _, fun w F h_ => ⟨h_.1, ⟨h_.2.1, Nat.le_trans e107_2 (by decide), h_.2.2.1⟩, ⟨rfl, h_.2.2.2⟩⟩, hS245⟩
          ·
            refine wp_skip ?_
            refine then_normal ?_
            refine wp_seq ?_
            refine rs_sr [(2, .v (.bool false)), (7, .p 0 0), (9, .v (.bool (decide (v ≥ 0)))), (10, .p 1 0), (15, .v (.slice (some ⟨g88, 0, none⟩) ((lst (T.at_ 3)).length) c89)), (16, .v (.int .i32 (((lst (T.at_ 3)).length : Nat) : Int))), (17, .v (.int .i32 ((k94 : Nat) : Int))), (19, .p 3 0), (23, .v (.slice none 0 0)), (24, .v (.int .i32 (((lst (t95.at_ 2)).length : Nat) : Int))), (25, .v (.int .i32 0))] hS154 fun _ hS246 => ?_
            clear hS154
            refine then_normal ?_
            refine wp_block ?_
            refine loop_out ?_
            refine wp_seq ?_
            refine wp_seq ?_
            refine rs_sr [(2, .v (.bool false)), (7, .p 0 0), (9, .v (.bool (decide (v ≥ 0)))), (10, .p 1 0), (15, .v (.slice (some ⟨g88, 0, none⟩) ((lst (T.at_ 3)).length) c89)), (16, .v (.int .i32 (((lst (T.at_ 3)).length : Nat) : Int))), (17, .v (.int .i32 ((k94 : Nat) : Int))), (19, .p 3 0), (23, .v (.slice none 0 0)), (24, .v (.int .i32 (((lst (t95.at_ 2)).length : Nat) : Int))), (25, .v (.int .i32 0)), (130, .v (.bool (decide (0 < (((lst (t95.at_ 2)).length : Nat) : Int)))))] hS246 fun _ hS247 => then_normal ?_
            clear hS246
            refine cond_false hS247.env_ (b := decide (0 < (((lst (t95.at_ 2)).length : Nat) : Int))) (by kernel_rfl) (decide_eq_false (by have h_ := of_decide_eq_false hc155; omega)) ?_
            refine wp_exit ?_
            refine then_exit ?_
            refine then_exit ?_
            refine block_exit ?_
            refine then_normal ?_
            have hz_ : (lst (t95.at_ 2)).length = 0 := by have h_ := of_decide_eq_false hc155; omega
            exact ⟨dvL none 0 0 (fun _ => dv0), _, fun w F h_ => ⟨h_, ⟨Slots.nil _ _ _ _, Nat.zero_le _, fun _ h => absurd h (Nat.not_lt_zero _)⟩, ⟨hz_.symm, fun _ h => absurd h (Nat.not_lt_zero _)⟩⟩, (hS247.cast (t := R108) (by rw [List.eq_nil_of_length_eq_zero hz_]; rfl)).pk (env' := [(2, .v (.bool false)), (7, .p 0 0), (9, .v (.bool (decide (v ≥ 0)))), (10, .p 1 0), (15, .v (.slice (some ⟨g88, 0, none⟩) ((lst (T.at_ 3)).length) c89)), (16, .v (.int .i32 (((lst (T.at_ 3)).length : Nat) : Int))), (17, .v (.int .i32 ((k94 : Nat) : Int))), (19, .p 3 0), (23, .v (.slice none 0 0))])⟩
        rintro _ _ ⟨D150, P151, hP152, hS153⟩
        refine wp_seq ?_
        refine rs_sr [(2, .v (.bool false)), (7, .p 0 0), (9, .v (.bool (decide (v ≥ 0)))), (10, .p 1 0), (15, .v (.slice (some ⟨g88, 0, none⟩) ((lst (T.at_ 3)).length) c89)), (16, .v (.int .i32 (((lst (T.at_ 3)).length : Nat) : Int))), (17, .v (.int .i32 ((k94 : Nat) : Int))), (19, .p 3 0), (22, .v (.slice D150.A D150.l D150.c))] hS153 fun _ hS248 => ?_
        clear hS153
        refine then_normal ?_
        refine rs_sto [⟨bv, 0, [.int .i16 v, .int .i32 (IntKind.i32.wrap (T.at_ 0).N), .int .i16 (IntKind.i16.wrap (T.at_ 1).N), .pointer x53, .slice none 0 0, .map none], true⟩, restO g88 19 (.agg #[.string ByteArray.empty, .int .u8 0, .int .u8 0, .int .u8 0, .int .u8 0, .int .u8 0, .int .u8 0, .int .u8 0, .int .u8 0, .int .u8 0, .int .u8 0, .int .u8 0, .int .u8 0, .int .u8 0, .int .u8 0, .int .u8 0, .int .u8 0, .slice none 0 0, .map none]) ((lst (T.at_ 3)).length) (k94 + 1), ⟨g88, k94 * 19, [.string (bs (t95.at_ 0).S), byteCell ((sixteenB (t95.at_ 1).S).getD 0 0), byteCell ((sixteenB (t95.at_ 1).S).getD 1 0), byteCell ((sixteenB (t95.at_ 1).S).getD 2 0), byteCell ((sixteenB (t95.at_ 1).S).getD 3 0), byteCell ((sixteenB (t95.at_ 1).S).getD 4 0), byteCell ((sixteenB (t95.at_ 1).S).getD 5 0), byteCell ((sixteenB (t95.at_ 1).S).getD 6 0), byteCell ((sixteenB (t95.at_ 1).S).getD 7 0), byteCell ((sixteenB (t95.at_ 1).S).getD 8 0), byteCell ((sixteenB (t95.at_ 1).S).getD 9 0), byteCell ((sixteenB (t95.at_ 1).S).getD 10 0), byteCell ((sixteenB (t95.at_ 1).S).getD 11 0), byteCell ((sixteenB (t95.at_ 1).S).getD 12 0), byteCell ((sixteenB (t95.at_ 1).S).getD 13 0), byteCell ((sixteenB (t95.at_ 1).S).getD 14 0), byteCell ((sixteenB (t95.at_ 1).S).getD 15 0), .slice D150.A D150.l D150.c, .map none], true⟩] 2 [(2, .v (.bool false)), (7, .p 0 0), (9, .v (.bool (decide (v ≥ 0)))), (10, .p 1 0), (15, .v (.slice (some ⟨g88, 0, none⟩) ((lst (T.at_ 3)).length) c89)), (16, .v (.int .i32 (((lst (T.at_ 3)).length : Nat) : Int))), (17, .v (.int .i32 ((k94 : Nat) : Int))), (19, .p 3 0)] hS248 fun _ _ hS249 => ?_
        clear hS248
        refine then_normal ?_
        have hS250 := hS249.cast hR109
        clear hS249
        refine wp_joinN (Mid := fun a_ w_ => ∃ (m252 : Option Nat) (u253 : List (Int × Bs)) (P' : FactW), (∀ w F, P' w F → P151 w F ∧ (MapR w F m252 u253 ∧ u253.length ≤ 1000000 ∧ ∀ x ∈ u253, x.2.length < 4294967296) ∧ ((decide (v ≥ 0)) = true → u253 = t95.U) ∧ ((decide (v ≥ 0)) = false → u253 = [])) ∧ RS w (fun b o => b = bv ∧ o < 6) F 186 b13 [⟨bv, 0, [.int .i16 v, .int .i32 (IntKind.i32.wrap (T.at_ 0).N), .int .i16 (IntKind.i16.wrap (T.at_ 1).N), .pointer x53, .slice none 0 0, .map none], true⟩, restO g88 19 (.agg #[.string ByteArray.empty, .int .u8 0, .int .u8 0, .int .u8 0, .int .u8 0, .int .u8 0, .int .u8 0, .int .u8 0, .int .u8 0, .int .u8 0, .int .u8 0, .int .u8 0, .int .u8 0, .int .u8 0, .int .u8 0, .int .u8 0, .int .u8 0, .slice none 0 0, .map none]) ((lst (T.at_ 3)).length) (k94 + 1), ⟨g88, k94 * 19, [.string (bs (t95.at_ 0).S), byteCell ((sixteenB (t95.at_ 1).S).getD 0 0), byteCell ((sixteenB (t95.at_ 1).S).getD 1 0), byteCell ((sixteenB (t95.at_ 1).S).getD 2 0), byteCell ((sixteenB (t95.at_ 1).S).getD 3 0), byteCell ((sixteenB (t95.at_ 1).S).getD 4 0), byteCell ((sixteenB (t95.at_ 1).S).getD 5 0), byteCell ((sixteenB (t95.at_ 1).S).getD 6 0), byteCell ((sixteenB (t95.at_ 1).S).getD 7 0), byteCell ((sixteenB (t95.at_ 1).S).getD 8 0), byteCell ((sixteenB (t95.at_ 1).S).getD 9 0), byteCell ((sixteenB (t95.at_ 1).S).getD 10 0), byteCell ((sixteenB (t95.at_ 1).S).getD 11 0), byteCell ((sixteenB (t95.at_ 1).S).getD 12 0), byteCell ((sixteenB (t95.at_ 1).S).getD 13 0), byteCell ((sixteenB (t95.at_ 1).S).getD 14 0), byteCell ((sixteenB (t95.at_ 1).S).getD 15 0), .slice D150.A D150.l D150.c, .map m252], true⟩] [(2, .v (.bool false)), (7, .p 0 0), (9, .v (.bool (decide (v ≥ 0)))), (10, .p 1 0), (15, .v (.slice (some ⟨g88, 0, none⟩) ((lst (T.at_ 3)).length) c89)), (16, .v (.int .i32 (((lst (T.at_ 3)).length : Nat) : Int))), (17, .v (.int .i32 ((k94 : Nat) : Int)))] P' R105 a_ w_) ?_ ?_
        ·
          refine wp_seq ?_
          refine rs_sr [(2, .v (.bool false)), (7, .p 0 0), (9, .v (.bool (decide (v ≥ 0)))), (10, .p 1 0), (15, .v (.slice (some ⟨g88, 0, none⟩) ((lst (T.at_ 3)).length) c89)), (16, .v (.int .i32 (((lst (T.at_ 3)).length : Nat) : Int))), (17, .v (.int .i32 ((k94 : Nat) : Int))), (19, .p 3 0), (170, .v (.bool (decide (v ≥ 0))))] hS250 fun _ hS257 => then_normal ?_
          clear hS250
          refine cond_of hS257.env_ (b := decide (v ≥ 0)) (by kernel_rfl) (fun hc258 => ?_) (fun hc258 => ?_)
          ·
            have hS259 := hS257.cast (t := ((uv t95.U.length) ++ (tagsR t95.U)) ++ R105) (by rw [if_pos hc258])
            clear hS257
            refine go_region [0, 1, 2, 3, 4] (by kernel_rfl) ?_
            refine rs_rn [0] [1, 2, 3, 4] [(2, .v (.bool false)), (7, .p 0 0), (9, .v (.bool (decide (v ≥ 0)))), (10, .p 1 0), (15, .v (.slice (some ⟨g88, 0, none⟩) ((lst (T.at_ 3)).length) c89)), (16, .v (.int .i32 (((lst (T.at_ 3)).length : Nat) : Int))), (17, .v (.int .i32 ((k94 : Nat) : Int))), (171, .p 3 0)] hS259 fun _ hS260 => ?_
            clear hS259
            refine of_op (rs_call (d := 172) hS260 (pTags t95.U e107_U (ranged_U e107r) _) (fun _ => MvF.tags _ _) Tryz.call154 fun m261 P262 _ _ hP263 hS264 => ?_)
            clear hS260
            refine rs_rn [2, 3] [4] [(2, .v (.bool false)), (7, .p 0 0), (9, .v (.bool (decide (v ≥ 0)))), (10, .p 1 0), (15, .v (.slice (some ⟨g88, 0, none⟩) ((lst (T.at_ 3)).length) c89)), (16, .v (.int .i32 (((lst (T.at_ 3)).length : Nat) : Int))), (17, .v (.int .i32 ((k94 : Nat) : Int))), (172, .v (.agg #[.map m261])), (174, .p 3 18)] hS264 fun _ hS265 => ?_
            clear hS264
            refine of_op (rs_store [⟨bv, 0, [.int .i16 v, .int .i32 (IntKind.i32.wrap (T.at_ 0).N), .int .i16 (IntKind.i16.wrap (T.at_ 1).N), .pointer x53, .slice none 0 0, .map none], true⟩, restO g88 19 (.agg #[.string ByteArray.empty, .int .u8 0, .int .u8 0, .int .u8 0, .int .u8 0, .int .u8 0, .int .u8 0, .int .u8 0, .int .u8 0, .int .u8 0, .int .u8 0, .int .u8 0, .int .u8 0, .int .u8 0, .int .u8 0, .int .u8 0, .int .u8 0, .slice none 0 0, .map none]) ((lst (T.at_ 3)).length) (k94 + 1), ⟨g88, k94 * 19, [.string (bs (t95.at_ 0).S), byteCell ((sixteenB (t95.at_ 1).S).getD 0 0), byteCell ((sixteenB (t95.at_ 1).S).getD 1 0), byteCell ((sixteenB (t95.at_ 1).S).getD 2 0), byteCell ((sixteenB (t95.at_ 1).S).getD 3 0), byteCell ((sixteenB (t95.at_ 1).S).getD 4 0), byteCell ((sixteenB (t95.at_ 1).S).getD 5 0), byteCell ((sixteenB (t95.at_ 1).S).getD 6 0), byteCell ((sixteenB (t95.at_ 1).S).getD 7 0), byteCell ((sixteenB (t95.at_ 1).S).getD 8 0), byteCell ((sixteenB (t95.at_ 1).S).getD 9 0), byteCell ((sixteenB (t95.at_ 1).S).getD 10 0), byteCell ((sixteenB (t95.at_ 1).S).getD 11 0), byteCell ((sixteenB (t95.at_ 1).S).getD 12 0), byteCell ((sixteenB (t95.at_ 1).S).getD 13 0), byteCell ((sixteenB (t95.at_ 1).S).getD 14 0), byteCell ((sixteenB (t95.at_ 1).S).getD 15 0), .slice D150.A D150.l D150.c, .map m261], true⟩] 2 hS265 fun _ hS266 => ?_)
            clear hS265
            refine wpOps_nil ?_
            have hS267 := hS266.pk (env' := [(2, .v (.bool false)), (7, .p 0 0), (9, .v (.bool (decide (v ≥ 0)))), (10, .p 1 0), (15, .v (.slice (some ⟨g88, 0, none⟩) ((lst (T.at_ 3)).length) c89)), (16, .v (.int .i32 (((lst (T.at_ 3)).length : Nat) : Int))), (17, .v (.int .i32 ((k94 : Nat) : Int)))])
            clear hS266
            refine then_normal ?_
            exact ⟨m261, t95.U, _, fun w F h_ => ⟨(hP263 _ _ h_).1, ⟨(hP263 _ _ h_).2, e107_U.2.1, e107_U.2.2⟩, ⟨fun _ => rfl, (fun e_ => by rw [hc258] at e_; cases e_)⟩⟩, hS267.pk (env' := [(2, .v (.bool false)), (7, .p 0 0), (9, .v (.bool (decide (v ≥ 0)))), (10, .p 1 0), (15, .v (.slice (some ⟨g88, 0, none⟩) ((lst (T.at_ 3)).length) c89)), (16, .v (.int .i32 (((lst (T.at_ 3)).length : Nat) : Int))), (17, .v (.int .i32 ((k94 : Nat) : Int)))])⟩
          ·
            have hS268 := hS257.cast (t := [] ++ R105) (by rw [if_neg (by rw [hc258]; decide)])
            clear hS257
            have hS269 := hS268.cast (t := R105) rfl
            clear hS268
            refine wp_skip (then_normal ?_)
            exact ⟨none, [], _, fun w F h_ => ⟨h_, ⟨MapR.nil _ _, Nat.zero_le _, fun _ h => by cases h⟩, ⟨(fun e_ => by rw [hc258] at e_; cases e_), fun _ => rfl⟩⟩, hS269.pk (env' := [(2, .v (.bool false)), (7, .p 0 0), (9, .v (.bool (decide (v ≥ 0)))), (10, .p 1 0), (15, .v (.slice (some ⟨g88, 0, none⟩) ((lst (T.at_ 3)).length) c89)), (16, .v (.int .i32 (((lst (T.at_ 3)).length : Nat) : Int))), (17, .v (.int .i32 ((k94 : Nat) : Int)))])⟩
        rintro _ _ ⟨m252, u253, P254, hP255, hS256⟩
        refine block_normal ?_
        refine then_normal ?_
        refine rs_sr [(2, .v (.bool false)), (7, .p 0 0), (9, .v (.bool (decide (v ≥ 0)))), (10, .p 1 0), (15, .v (.slice (some ⟨g88, 0, none⟩) ((lst (T.at_ 3)).length) c89)), (16, .v (.int .i32 (((lst (T.at_ 3)).length : Nat) : Int))), (17, .v (.int .i32 (IntKind.i32.wrap (((k94 : Nat) : Int) + 1))))] hS256 fun _ hS270 => ?_
        clear hS256
        refine then_normal ?_
        have hS271 := (hS270.envEq (env' := [(2, .v (.bool false)), (7, .p 0 0), (9, .v (.bool (decide (v ≥ 0)))), (10, .p 1 0), (15, .v (.slice (some ⟨g88, 0, none⟩) ((lst (T.at_ 3)).length) c89)), (16, .v (.int .i32 (((lst (T.at_ 3)).length : Nat) : Int))), (17, .v (.int .i32 ((k94 + 1 : Nat) : Int)))]) (by rw [i32_succ (by have := e26_3; omega)])).pk (env' := [(2, .v (.bool false)), (7, .p 0 0), (9, .v (.bool (decide (v ≥ 0)))), (10, .p 1 0), (15, .v (.slice (some ⟨g88, 0, none⟩) ((lst (T.at_ 3)).length) c89)), (16, .v (.int .i32 (((lst (T.at_ 3)).length : Nat) : Int))), (17, .v (.int .i32 ((k94 + 1 : Nat) : Int)))])
        clear hS270
        exact (RS.thing (tb := [⟨bv, 0, [.int .i16 v, .int .i32 (IntKind.i32.wrap (T.at_ 0).N), .int .i16 (IntKind.i16.wrap (T.at_ 1).N), .pointer x53, .slice none 0 0, .map none], true⟩]) (z := .agg #[.string ByteArray.empty, .int .u8 0, .int .u8 0, .int .u8 0, .int .u8 0, .int .u8 0, .int .u8 0, .int .u8 0, .int .u8 0, .int .u8 0, .int .u8 0, .int .u8 0, .int .u8 0, .int .u8 0, .int .u8 0, .int .u8 0, .int .u8 0, .slice none 0 0, .map none]) (D := (dvP m252 u253 [dvS (bs (t95.at_ 0).S), dvO none (sixteenB (t95.at_ 1).S) 0, D150])) (hS271.cast hR106) hg_g88 ht96 mvAlterShareGroupOffsetsResponseTopic hmP99 rfl (fun w F h_ => ⟨(hP103 _ _ (hP152 _ _ (hP255 _ _ h_).1).1).1, (hP103 _ _ (hP152 _ _ (hP255 _ _ h_).1).1).2, ⟨(by show ByteArray.size (bs _) ≤ 1000000; rw [bs_size]; exact Nat.le_trans e107_0 (by decide)), (sixteenB_len _), ((hP152 _ _ (hP255 _ _ h_).1).2.1), (hP255 _ _ h_).2.1.1, (hP255 _ _ h_).2.1.2.1, (hP255 _ _ h_).2.1.2.2, trivial⟩, ⟨(rfl), (rfl), ((hP152 _ _ (hP255 _ _ h_).1).2.2), (hP255 _ _ h_).2.2, trivial⟩⟩) (by kernel_rfl))
      ·
        refine wp_seq ?_
        refine wp_seq ?_
        refine rs_sr [(2, .v (.bool false)), (7, .p 0 0), (9, .v (.bool (decide (v ≥ 0)))), (10, .p 1 0), (15, .v (.slice (some ⟨g88, 0, none⟩) ((lst (T.at_ 3)).length) c89)), (16, .v (.int .i32 (((lst (T.at_ 3)).length : Nat) : Int))), (17, .v (.int .i32 (((lst (T.at_ 3)).length : Nat) : Int))), (85, .v (.bool (decide ((((lst (T.at_ 3)).length : Nat) : Int) < (((lst (T.at_ 3)).length : Nat) : Int)))))] hS101 fun _ hS272 => then_normal ?_
        clear hS101
        refine cond_false hS272.env_ (b := decide ((((lst (T.at_ 3)).length : Nat) : Int) < (((lst (T.at_ 3)).length : Nat) : Int))) (by kernel_rfl) (decide_eq_false (by omega)) ?_
        refine wp_exit ?_
        refine then_exit ?_
        refine then_exit ?_
        refine block_exit ?_
        refine then_normal ?_
        obtain ⟨f273, hS274⟩ := RS.listEnd (tb := [⟨bv, 0, [.int .i16 v, .int .i32 (IntKind.i32.wrap (T.at_ 0).N), .int .i16 (IntKind.i16.wrap (T.at_ 1).N), .pointer x53, .slice none 0 0, .map none], true⟩]) (c := c89) (hS272.pk (env' := [(7, .p 0 0), (9, .v (.bool (decide (v ≥ 0)))), (10, .p 1 0), (15, .v (.slice (some ⟨g88, 0, none⟩) ((lst (T.at_ 3)).length) c89))])) hg_g88 mvAlterShareGroupOffsetsResponseTopic hmP99 hcap_g88 (by have := e26_3; omega) hn_g88 (by kernel_rfl)
        exact ⟨dvL (some ⟨g88, 0, none⟩) (lst (T.at_ 3)).length c89 f273, _, fun w F h_ => ⟨h_.1, ⟨h_.2.1, Nat.le_trans e26_3 (by decide), h_.2.2.1⟩, ⟨rfl, h_.2.2.2⟩⟩, hS274⟩
    ·
      refine wp_skip ?_
      refine then_normal ?_
      refine wp_seq ?_
      refine rs_sr [(2, .v (.bool false)), (7, .p 0 0), (9, .v (.bool (decide (v ≥ 0)))), (10, .p 1 0), (15, .v (.slice none 0 0)), (16, .v (.int .i32 (((lst (T.at_ 3)).length : Nat) : Int))), (17, .v (.int .i32 0))] hS86 fun _ hS275 => ?_
      clear hS86
      refine then_normal ?_
      refine wp_block ?_
      refine loop_out ?_
      refine wp_seq ?_
      refine wp_seq ?_
      refine rs_sr [(2, .v (.bool false)), (7, .p 0 0), (9, .v (.bool (decide (v ≥ 0)))), (10, .p 1 0), (15, .v (.slice none 0 0)), (16, .v (.int .i32 (((lst (T.at_ 3)).length : Nat) : Int))), (17, .v (.int .i32 0)), (85, .v (.bool (decide (0 < (((lst (T.at_ 3)).length : Nat) : Int)))))] hS275 fun _ hS276 => then_normal ?_
      clear hS275
      refine cond_false hS276.env_ (b := decide (0 < (((lst (T.at_ 3)).length : Nat) : Int))) (by kernel_rfl) (decide_eq_false (by have h_ := of_decide_eq_false hc87; omega)) ?_
      refine wp_exit ?_
      refine then_exit ?_
      refine then_exit ?_
      refine block_exit ?_
      refine then_normal ?_
      have hz_ : (lst (T.at_ 3)).length = 0 := by have h_ := of_decide_eq_false hc87; omega
      exact ⟨dvL none 0 0 (fun _ => dv0), _, fun w F h_ => ⟨h_, ⟨Slots.nil _ _ _ _, Nat.zero_le _, fun _ h => absurd h (Nat.not_lt_zero _)⟩, ⟨hz_.symm, fun _ h => absurd h (Nat.not_lt_zero _)⟩⟩, (hS276.cast (t := R27) (by rw [List.eq_nil_of_length_eq_zero hz_]; rfl)).pk (env' := [(7, .p 0 0), (9, .v (.bool (decide (v ≥ 0)))), (10, .p 1 0), (15, .v (.slice none 0 0))])⟩
  rintro _ _ ⟨D82, P83, hP84, hS85⟩
  refine wp_seq ?_
  refine rs_sr [(7, .p 0 0), (9, .v (.bool (decide (v ≥ 0)))), (10, .p 1 0), (14, .v (.slice D82.A D82.l D82.c))] hS85 fun _ hS277 => ?_
  clear hS85
  refine then_normal ?_
  refine rs_sto [⟨bv, 0, [.int .i16 v, .int .i32 (IntKind.i32.wrap (T.at_ 0).N), .int .i16 (IntKind.i16.wrap (T.at_ 1).N), .pointer x53, .slice D82.A D82.l D82.c, .map none], true⟩] 0 [(7, .p 0 0), (9, .v (.bool (decide (v ≥ 0)))), (10, .p 1 0)] hS277 fun _ _ hS278 => ?_
  clear hS277
  refine then_normal ?_
  refine wp_seq ?_
  have hS279 := hS278.cast hR28
  clear hS278
  refine wp_joinN (Mid := fun a_ w_ => ∃ (m281 : Option Nat) (u282 : List (Int × Bs)) (P' : FactW), (∀ w F, P' w F → P83 w F ∧ (MapR w F m281 u282 ∧ u282.length ≤ 1000000 ∧ ∀ x ∈ u282, x.2.length < 4294967296) ∧ ((decide (v ≥ 0)) = true → u282 = T.U) ∧ ((decide (v ≥ 0)) = false → u282 = [])) ∧ RS w (fun b o => b = bv ∧ o < 6) F 186 b13 [⟨bv, 0, [.int .i16 v, .int .i32 (IntKind.i32.wrap (T.at_ 0).N), .int .i16 (IntKind.i16.wrap (T.at_ 1).N), .pointer x53, .slice D82.A D82.l D82.c, .map m281], true⟩] [(7, .p 0 0)] P' ([] : Bs) a_ w_) ?_ ?_
  ·
    refine wp_seq ?_
    refine rs_sr [(7, .p 0 0), (10, .p 1 0), (180, .v (.bool (decide (v ≥ 0))))] hS279 fun _ hS286 => then_normal ?_
    clear hS279
    refine cond_of hS286.env_ (b := decide (v ≥ 0)) (by kernel_rfl) (fun hc287 => ?_) (fun hc287 => ?_)
    ·
      have hS288 := hS286.cast (t := ((uv T.U.length) ++ (tagsR T.U)) ++ ([] : Bs)) (by rw [if_pos hc287])
      clear hS286
      refine go_region [0, 1, 2, 3, 4] (by kernel_rfl) ?_
      refine rs_rn [0] [1, 2, 3, 4] [(7, .p 0 0), (181, .p 1 0)] hS288 fun _ hS289 => ?_
      clear hS288
      refine of_op (rs_call (d := 182) hS289 (pTags T.U e26_U (ranged_U e26r) _) (fun _ => MvF.tags _ _) Tryz.call154 fun m290 P291 _ _ hP292 hS293 => ?_)
      clear hS289
      refine rs_rn [2, 3] [4] [(7, .p 0 0), (182, .v (.agg #[.map m290])), (184, .p 1 5)] hS293 fun _ hS294 => ?_
      clear hS293
      refine of_op (rs_store [⟨bv, 0, [.int .i16 v, .int .i32 (IntKind.i32.wrap (T.at_ 0).N), .int .i16 (IntKind.i16.wrap (T.at_ 1).N), .pointer x53, .slice D82.A D82.l D82.c, .map m290], true⟩] 0 hS294 fun _ hS295 => ?_)
      clear hS294
      refine wpOps_nil ?_
      have hS296 := hS295.pk (env' := [(7, .p 0 0)])
      clear hS295
      refine then_normal ?_
      exact ⟨m290, T.U, _, fun w F h_ => ⟨(hP292 _ _ h_).1, ⟨(hP292 _ _ h_).2, e26_U.2.1, e26_U.2.2⟩, ⟨fun _ => rfl, (fun e_ => by rw [hc287] at e_; cases e_)⟩⟩, hS296.pk (env' := [(7, .p 0 0)])⟩
    ·
      have hS297 := hS286.cast (t := [] ++ ([] : Bs)) (by rw [if_neg (by rw [hc287]; decide)])
      clear hS286
      have hS298 := hS297.cast (t := ([] : Bs)) rfl
      clear hS297
      refine wp_skip (then_normal ?_)
      exact ⟨none, [], _, fun w F h_ => ⟨h_, ⟨MapR.nil _ _, Nat.zero_le _, fun _ h => by cases h⟩, ⟨(fun e_ => by rw [hc287] at e_; cases e_), fun _ => rfl⟩⟩, hS298.pk (env' := [(7, .p 0 0)])⟩
  rintro _ _ ⟨m281, u282, P283, hP284, hS285⟩
  refine then_normal ?_
  refine wp_seq ?_
  refine go_region [0, 1] (by kernel_rfl) (of_op (rs_complete (d := 185) hS285 rComplete Tryz.call146 fun _ hS299 => ?_))
  clear hS285
  refine rs_rn [1] [] [(6, .v (.nilIface))] hS299 fun _ hS300 => wpOps_nil ?_
  clear hS299
  refine then_normal ?_
  refine wp_ret ?_
  obtain ⟨A_, m_, c_, hW_, hr_, hE_, hP_⟩ := hS300.open_
  refine leave hE_ hW_.cells (v := .nilIface) (by kernel_rfl) ?_
  have h_ := hS300.mv.mono immOut hP_
  refine ⟨(dvP m281 u282 [dvN (IntKind.i32.wrap (T.at_ 0).N), dvN (IntKind.i16.wrap (T.at_ 1).N), dvT x53 (bs (octOf (T.at_ 2))), D82]), rfl, Str.of hW_ 1 rfl, ?_, ?_, hW_.step⟩
  · unfold okAlterShareGroupOffsetsResponse
    exact ⟨(trivial), (trivial), (⟨(hP55 _ _ (hP84 _ _ (hP284 _ _ h_).1).1).2.1, by show ByteArray.size (bs _) ≤ 1000000; rw [bs_size]; exact Nat.le_trans e26_2 (by decide)⟩), ((hP84 _ _ (hP284 _ _ h_).1).2.1), (hP284 _ _ h_).2.1.1, (hP284 _ _ h_).2.1.2.1, (hP284 _ _ h_).2.1.2.2, trivial⟩
  · unfold rvAlterShareGroupOffsetsResponse
    exact ⟨(rfl), (rfl), (⟨rfl, (hP55 _ _ (hP84 _ _ (hP284 _ _ h_).1).1).2.2⟩), ((hP84 _ _ (hP284 _ _ h_).1).2.2), (hP284 _ _ h_).2.2, trivial⟩

theorem mvAlterShareGroupOffsetsResponse : Moves okAlterShareGroupOffsetsResponse := by
  intro w w' F F' M d hs hM hF h
  unfold okAlterShareGroupOffsetsResponse at h ⊢
  obtain ⟨g0, g1, ⟨g2, g2l⟩, ⟨g3, g3l, g3e⟩, t1, t2, t3, _⟩ := h
  exact ⟨g0, g1, ⟨fun ad hA => by
    obtain ⟨b, o, h1, h2⟩ := g2 ad hA
    exact ⟨b, o, h1, h2.move hs hM hF⟩, g2l⟩, ⟨g3.move hs hM hF, g3l, fun i hi => mvAlterShareGroupOffsetsResponseTopic _ hs hM hF (g3e i hi)⟩, t1.move hs hM hF, t2, t3, trivial⟩

theorem aeAlterShareGroupOffsetsResponseTopicPartition (v : Int) (D : DV) (T : Tree) (h : rvAlterShareGroupOffsetsResponseTopicPartition v D T) : (be 4 ((D.f 0).n)) ++ ((be 2 ((D.f 1).n)) ++ ((if (decide (v ≥ 0)) = true then (if (D.f 2).A.isNone = true then uv 0 else uv ((D.f 2).s.size + 1) ++ sb (D.f 2).s) else (if (D.f 2).A.isNone = true then be 2 (-1) else be 2 (D.f 2).s.size ++ sb (D.f 2).s)) ++ (if (decide (v ≥ 0)) = true then (uv D.u.length) ++ (tagsR D.u) else []))) = tEAlterShareGroupOffsetsResponseTopicPartition v T := by
  unfold rvAlterShareGroupOffsetsResponseTopicPartition at h
  obtain ⟨r0_, r1_, r2_, rU_, _⟩ := h
  unfold tEAlterShareGroupOffsetsResponseTopicPartition
  exact app_c (by rw [r0_]) (app_c (by rw [r1_]) (app_c (by simp only [r2_.1, r2_.2, sb_bs, bs_size]) ((if_c (fun hc_ => by rw [(rU_.1 hc_)])))))

theorem aeAlterShareGroupOffsetsResponseTopic (v : Int) (D : DV) (T : Tree) (h : rvAlterShareGroupOffsetsResponseTopic v D T) : (if (decide (v ≥ 0)) = true then (uv ((D.f 0).s.size + 1) ++ sb (D.f 0).s) else (be 2 (D.f 0).s.size ++ sb (D.f 0).s)) ++ (((D.f 1).o) ++ (((if (decide (v ≥ 0)) = true then (uv ((D.f 2).l + 1)) else (be 4 (D.f 2).l)) ++ ((List.range (D.f 2).l).flatMap fun k40 => (be 4 ((((D.f 2).f k40).f 0).n)) ++ ((be 2 ((((D.f 2).f k40).f 1).n)) ++ ((if (decide (v ≥ 0)) = true then (if (((D.f 2).f k40).f 2).A.isNone = true then uv 0 else uv ((((D.f 2).f k40).f 2).s.size + 1) ++ sb (((D.f 2).f k40).f 2).s) else (if (((D.f 2).f k40).f 2).A.isNone = true then be 2 (-1) else be 2 (((D.f 2).f k40).f 2).s.size ++ sb (((D.f 2).f k40).f 2).s)) ++ (if (decide (v ≥ 0)) = true then (uv ((D.f 2).f k40).u.length) ++ (tagsR ((D.f 2).f k40).u) else []))))) ++ (if (decide (v ≥ 0)) = true then (uv D.u.length) ++ (tagsR D.u) else []))) = tEAlterShareGroupOffsetsResponseTopic v T := by
  unfold rvAlterShareGroupOffsetsResponseTopic at h
  obtain ⟨r0_, r1_, r2_, rU_, _⟩ := h
  unfold tEAlterShareGroupOffsetsResponseTopic
  exact app_c (by simp only [r0_, sb_bs, bs_size]) (app_c (by rw [r1_]) (app_c (app_c (by simp only [r2_.1]) (flat_rel r2_.1 (fun i hi => aeAlterShareGroupOffsetsResponseTopicPartition v _ _ (r2_.2 i hi)))) ((if_c (fun hc_ => by rw [(rU_.1 hc_)])))))

theorem avAlterShareGroupOffsetsResponse (v : Int) (D : DV) (T : Tree) (h : rvAlterShareGroupOffsetsResponse v D T) : aAlterShareGroupOffsetsResponse v D = tAlterShareGroupOffsetsResponse v T := by
  unfold rvAlterShareGroupOffsetsResponse at h
  obtain ⟨r0_, r1_, r2_, r3_, rU_, _⟩ := h
  rw [teAlterShareGroupOffsetsResponse]
  unfold aAlterShareGroupOffsetsResponse tEAlterShareGroupOffsetsResponse_
  exact app_c (by rw [r0_]) (app_c (by rw [r1_]) (app_c (by simp only [r2_.1, r2_.2, sb_bs, bs_size]) (app_c (app_c (by simp only [r3_.1]) (flat_rel r3_.1 (fun i hi => aeAlterShareGroupOffsetsResponseTopic v _ _ (r3_.2 i hi)))) (app_c (if_c (fun hc_ => by rw [(rU_.1 hc_)])) (rfl)))))

theorem bhAlterShareGroupOffsetsResponse (v : Int) (T : Tree) (dst : Bs) {A1 A2 : Option Addr} {c1 c2 : Nat} {w : World} {F : Nat → Nat → Prop} (hd : Octs w F A1 c1 dst) (hs_ : Octs w F A2 c2 (tAlterShareGroupOffsetsResponse (IntKind.i16.wrap v) T)) (hc : canAlterShareGroupOffsetsResponse T) (hkey : T.ranged) (hroom : dst.length + (tAlterShareGroupOffsetsResponse (IntKind.i16.wrap v) T).length + 16 ≤ 1099511627776) :
    Calls Tryz.prog 25 #[.int .i64 v, .slice A1 dst.length c1, .slice A2 (tAlterShareGroupOffsetsResponse (IntKind.i16.wrap v) T).length c2] w (fun e w' => ∃ A c, e = .returned (.tuple #[.slice A (dst ++ (tAlterShareGroupOffsetsResponse (IntKind.i16.wrap v) T)).length c, .bool true]) ∧ w'.ownsRow w.heap.size 5 1 (.slice A (dst ++ (tAlterShareGroupOffsetsResponse (IntKind.i16.wrap v) T)).length c) (dst ++ (tAlterShareGroupOffsetsResponse (IntKind.i16.wrap v) T)).length (bc (dst ++ (tAlterShareGroupOffsetsResponse (IntKind.i16.wrap v) T))) ∧ Step w w' Nil) := by
  refine enter (n := 23) Tryz.func25 rfl Tryz.ntmps25 (by kernel_rfl) fun a hE => ?_
  have hW := WOk.start w Nil
  have hsm1 := Slots.small hd
  have hsm2 := Slots.small hs_
  refine go_sp [(0, .v (.int .i64 v)), (1, .v (.slice A1 dst.length c1)), (2, .v (.slice A2 ((tAlterShareGroupOffsetsResponse (IntKind.i16.wrap v) T).length) c2))] hW hE fun a1 hE2 => ?_
  clear hE
  refine go_seq_region [0, 1] (by kernel_rfl) ?_
  refine of_op (wpOp_inline hE2 (f := 58) (vs := []) (d := 9) (n' := 3) (by kernel_rfl) Tryz.call58 Tryz.func58 rfl Tryz.ntmps58 (by kernel_rfl) fun a3 hE4 => ?_)
  refine go_sp [] hW hE4 fun a5 hE6 => ?_
  clear hE4
  refine go_seq_region [0] (by kernel_rfl) ?_
  refine of_op (wpOp_alloc hW hE6 (d := 1) (cs := [.int .i16 0, .int .i32 0, .int .i16 0, .pointer none, .slice none 0 0, .map none]) (by kernel_rfl) fun b7 a8 w9 hb10 hz11 hF12 hW13 hE14 => ?_)
  clear hE6 hW
  refine wpOps_nil ?_
  refine then_normal ?_
  refine go_seq_region [0] (by kernel_rfl) ?_
  refine of_op (wpOp_inline hE14 (f := 116) (vs := [.pointer (some ⟨b7, 0, none⟩)]) (d := 2) (n' := 2) (by kernel_rfl) Tryz.call116 Tryz.func116 rfl Tryz.ntmps116 (by kernel_rfl) fun a15 hE16 => ?_)
  have hE17 := hE16.recast 0 (.v (.pointer (some ⟨b7, 0, none⟩))) (.p 0 0) rfl rfl (Nat.le_of_ble_eq_true (n := 1) rfl)
  refine wp_skip ?_
  refine leave_end hE17 hW13.cells (v := .tuple #[]) (by kernel_rfl) ?_
  refine ⟨_, rfl, fun a18 hE19 => ?_⟩
  have hE20 : EnvOk 3 [⟨b7, 0, [.int .i16 0, .int .i32 0, .int .i16 0, .pointer none, .slice none 0 0, .map none], true⟩] [(2, .v (.tuple #[])), (1, .p 0 0)] _ := hE19.places (⟨rfl, rfl, trivial⟩)
  refine wpOps_nil ?_
  refine then_normal ?_
  refine go_sp [(0, .p 0 0)] hW13 hE20 fun a21 hE22 => ?_
  clear hE20
  refine wp_ret ?_
  refine leave hE22 hW13.cells (v := .pointer (some ⟨b7, 0, none⟩)) (by kernel_rfl) ?_
  refine ⟨_, rfl, fun a23 hE24 => ?_⟩
  have hE25 : EnvOk 23 [⟨b7, 0, [.int .i16 0, .int .i32 0, .int .i16 0, .pointer none, .slice none 0 0, .map none], true⟩] [(9, .v (.pointer (some ⟨b7, 0, none⟩))), (0, .v (.int .i64 v)), (1, .v (.slice A1 dst.length c1)), (2, .v (.slice A2 ((tAlterShareGroupOffsetsResponse (IntKind.i16.wrap v) T).length) c2))] _ := hE24.places (trivial)
  have hE26 := hE25.recast 9 (.v (.pointer (some ⟨b7, 0, none⟩))) (.p 0 0) rfl rfl (Nat.le_of_ble_eq_true (n := 1) rfl)
  have hE27 := hE26.pick (ks := [0, 1, 2, 9]) (env' := [(0, .v (.int .i64 v)), (1, .v (.slice A1 dst.length c1)), (2, .v (.slice A2 ((tAlterShareGroupOffsetsResponse (IntKind.i16.wrap v) T).length) c2)), (9, .p 0 0)]) (by kernel_rfl)
  clear hE25
  clear hE26
  refine go_rn [1] [] [(0, .v (.int .i64 v)), (1, .v (.slice A1 dst.length c1)), (2, .v (.slice A2 ((tAlterShareGroupOffsetsResponse (IntKind.i16.wrap v) T).length) c2)), (8, .p 0 0)] hW13 hE27 fun a28 hE29 => ?_
  clear hE27
  refine wpOps_nil ?_
  refine then_normal ?_
  refine go_seq_region [0, 1, 2, 3] (by kernel_rfl) ?_
  refine go_rn [0, 1, 2] [3] [(1, .v (.slice A1 dst.length c1)), (2, .v (.slice A2 ((tAlterShareGroupOffsetsResponse (IntKind.i16.wrap v) T).length) c2)), (8, .p 0 0), (10, .p 0 0), (12, .v (.int .i16 (IntKind.i16.wrap v)))] hW13 hE29 fun a30 hE31 => ?_
  clear hE29
  refine of_op (wpOp_inline hE31 (f := 61) (vs := [.pointer (some ⟨b7, 0, none⟩), .int .i16 (IntKind.i16.wrap v)]) (d := 13) (n' := 8) (by kernel_rfl) Tryz.call61 Tryz.func61 rfl Tryz.ntmps61 (by kernel_rfl) fun a32 hE33 => ?_)
  have hE34 := hE33.recast 0 (.v (.pointer (some ⟨b7, 0, none⟩))) (.p 0 0) rfl rfl (Nat.le_of_ble_eq_true (n := 1) rfl)
  refine go_region [0, 1, 2, 3, 4] (by kernel_rfl) ?_
  refine go_rn [0, 1, 2, 3] [4] [(5, .v (.int .i16 (IntKind.i16.wrap v))), (7, .p 0 0)] hW13 hE34 fun a35 hE36 => ?_
  clear hE34
  refine of_op (wpOp_store hW13 hE36 (oi := 0) (cs := [.int .i16 (IntKind.i16.wrap v), .int .i32 0, .int .i16 0, .pointer none, .slice none 0 0, .map none]) (by kernel_rfl) fun w37 hF38 hW39 hE40 => ?_)
  clear hE36 hW13
  refine wpOps_nil ?_
  refine leave_end hE40 hW39.cells (v := .tuple #[]) (by kernel_rfl) ?_
  refine ⟨_, rfl, fun a41 hE42 => ?_⟩
  have hE43 : EnvOk 23 [⟨b7, 0, [.int .i16 (IntKind.i16.wrap v), .int .i32 0, .int .i16 0, .pointer none, .slice none 0 0, .map none], true⟩] [(13, .v (.tuple #[])), (1, .v (.slice A1 dst.length c1)), (2, .v (.slice A2 ((tAlterShareGroupOffsetsResponse (IntKind.i16.wrap v) T).length) c2)), (8, .p 0 0), (10, .p 0 0), (12, .v (.int .i16 (IntKind.i16.wrap v)))] _ := hE42.places (⟨rfl, rfl, trivial⟩)
  refine wpOps_nil ?_
  refine then_normal ?_
  refine wp_seq ?_
  refine go_seq_region [0, 1, 2, 3, 4] (by kernel_rfl) ?_
  refine go_rn [0, 1] [2, 3, 4] [(1, .v (.slice A1 dst.length c1)), (8, .p 0 0), (14, .p 0 0), (15, .v (.slice A2 ((tAlterShareGroupOffsetsResponse (IntKind.i16.wrap v) T).length) c2))] hW39 hE43 fun a44 hE45 => ?_
  clear hE43
  have hW46 := hW39.addNil 5 1
  have hF47 := hW39.frNil 5 1
  clear hW39
  refine of_op (wpOp_append hW46 hE45 (k := 0) (d := 16) (t := 22) (e := 5) (size := 1) (bytes := 1) (A := none) (As := A2) (m0 := 0) (c := 0) (m := ((tAlterShareGroupOffsetsResponse (IntKind.i16.wrap v) T).length)) (cs := c2) (xs := []) (news := bc (tAlterShareGroupOffsetsResponse (IntKind.i16.wrap v) T)) (by kernel_rfl) (by kernel_rfl) rfl (hs_.move hW46.step nilM hW46.imm).src (hs_.move hW46.step nilM hW46.imm).cap (by first | omega | (simp only [List.length_nil]; omega) | (simp; omega)) fun A48 c49 a50 w51 hF52 hW53 hE54 => ?_)
  clear hE45 hW46
  have er55 : (⟨A48, c49, 5, 1, 0 + (tAlterShareGroupOffsetsResponse (IntKind.i16.wrap v) T).length, [] ++ bc (tAlterShareGroupOffsetsResponse (IntKind.i16.wrap v) T)⟩ : Rw) = brow A48 c49 5 (tAlterShareGroupOffsetsResponse (IntKind.i16.wrap v) T) := by rw [List.nil_append, Nat.zero_add]
  obtain ⟨hW56, hF58⟩ := hW53.rowEq 0 [brow A48 c49 5 (tAlterShareGroupOffsetsResponse (IntKind.i16.wrap v) T)] er55
  clear hW53
  have hE59 := EnvOk.pick hE54 (ks := [1, 8, 14, 15, 16]) (env' := [(1, .v (.slice A1 dst.length c1)), (8, .p 0 0), (14, .p 0 0), (15, .v (.slice A2 ((tAlterShareGroupOffsetsResponse (IntKind.i16.wrap v) T).length) c2)), (16, .v (.slice A48 (0 + (tAlterShareGroupOffsetsResponse (IntKind.i16.wrap v) T).length) c49))]) (by kernel_rfl)
  have hE57 := hE59.cast (env' := [(1, .v (.slice A1 dst.length c1)), (8, .p 0 0), (14, .p 0 0), (15, .v (.slice A2 ((tAlterShareGroupOffsetsResponse (IntKind.i16.wrap v) T).length) c2)), (16, .v (.slice A48 ((tAlterShareGroupOffsetsResponse (IntKind.i16.wrap v) T).length) c49))]) (by simp only [List.length_append, List.length_cons, List.length_nil, Nat.zero_add])
  clear hE54
  clear hE59
  refine of_op (wpOp_inline hE57 (f := 62) (vs := [.pointer (some ⟨b7, 0, none⟩), .slice A48 ((tAlterShareGroupOffsetsResponse (IntKind.i16.wrap v) T).length) c49]) (d := 17) (n' := 8) (by kernel_rfl) Tryz.call62 Tryz.func62 rfl Tryz.ntmps62 (by kernel_rfl) fun a60 hE61 => ?_)
  have hE62 := hE61.recast 0 (.v (.pointer (some ⟨b7, 0, none⟩))) (.p 0 0) rfl rfl (Nat.le_of_ble_eq_true (n := 1) rfl)
  refine go_sp [(0, .p 0 0), (1, .v (.slice A48 ((tAlterShareGroupOffsetsResponse (IntKind.i16.wrap v) T).length) c49))] hW56 hE62 fun a63 hE64 => ?_
  clear hE62
  refine go_seq_region [0, 1, 2, 3] (by kernel_rfl) ?_
  refine go_rn [0, 1] [2, 3] [(5, .p 0 0), (6, .v (.slice A48 ((tAlterShareGroupOffsetsResponse (IntKind.i16.wrap v) T).length) c49))] hW56 hE64 fun a65 hE66 => ?_
  clear hE64
  have ho67 := hW56.giveUp (G := F) 0 [] (show _ = some (brow A48 c49 5 (tAlterShareGroupOffsetsResponse (IntKind.i16.wrap v) T)) from rfl) (by omega)
  obtain ⟨hW68, hF69⟩ := hW56.cutR 0 []
  refine of_op (wpOp_call hE66 (f := 118) (vs := [.pointer (some ⟨b7, 0, none⟩), .slice A48 ((tAlterShareGroupOffsetsResponse (IntKind.i16.wrap v) T).length) c49, .bool false]) (d := 7) (by kernel_rfl) Tryz.call118 (rdAlterShareGroupOffsetsResponse (IntKind.i16.wrap v) T (Str.of hW68 0 rfl) ho67 (imm_n 0 rfl) hc hkey) ?_)
  rintro e_ w70 ⟨D71, rfl, hs72, hk73, hv74, hst75⟩
  replace hv74 := avAlterShareGroupOffsetsResponse _ _ _ hv74
  obtain ⟨hW76, hF77, hl78⟩ := hW68.wrote 0 [⟨b7, 0, [.int .i16 (IntKind.i16.wrap v), .int .i32 ((D71.f 0).n), .int .i16 ((D71.f 1).n), .pointer ((D71.f 2).A), .slice ((D71.f 3).A) ((D71.f 3).l) ((D71.f 3).c), .map D71.m], true⟩] rfl hst75 hs72
  have hk82 := mvAlterShareGroupOffsetsResponse _ (Step.refl _ Nil) nilM hl78 hk73
  refine ⟨_, rfl, fun a79 hE80 => ?_⟩
  have hE81 : EnvOk 8 [⟨b7, 0, [.int .i16 (IntKind.i16.wrap v), .int .i32 ((D71.f 0).n), .int .i16 ((D71.f 1).n), .pointer ((D71.f 2).A), .slice ((D71.f 3).A) ((D71.f 3).l) ((D71.f 3).c), .map D71.m], true⟩] [(7, .v (.nilIface)), (5, .p 0 0), (6, .v (.slice A48 ((tAlterShareGroupOffsetsResponse (IntKind.i16.wrap v) T).length) c49))] _ := hE80.places (⟨rfl, rfl, trivial⟩)
  clear hE66
  refine go_rn [3] [] [(4, .v (.nilIface))] hW76 hE81 fun a83 hE84 => ?_
  clear hE81
  refine wpOps_nil ?_
  refine then_normal ?_
  refine wp_ret ?_
  refine leave hE84 hW76.cells (v := .nilIface) (by kernel_rfl) ?_
  refine ⟨_, rfl, fun a85 hE86 => ?_⟩
  have hE87 : EnvOk 23 [⟨b7, 0, [.int .i16 (IntKind.i16.wrap v), .int .i32 ((D71.f 0).n), .int .i16 ((D71.f 1).n), .pointer ((D71.f 2).A), .slice ((D71.f 3).A) ((D71.f 3).l) ((D71.f 3).c), .map D71.m], true⟩] [(17, .v (.nilIface)), (1, .v (.slice A1 dst.length c1)), (8, .p 0 0), (14, .p 0 0), (15, .v (.slice A2 ((tAlterShareGroupOffsetsResponse (IntKind.i16.wrap v) T).length) c2)), (16, .v (.slice A48 ((tAlterShareGroupOffsetsResponse (IntKind.i16.wrap v) T).length) c49))] _ := hE86.places (⟨rfl, rfl, trivial⟩)
  refine go_rn [4] [] [(1, .v (.slice A1 dst.length c1)), (8, .p 0 0), (18, .v (.bool false))] hW76 hE87 fun a88 hE89 => ?_
  clear hE87
  refine wpOps_nil ?_
  refine then_normal ?_
  refine cond_false hE89 (b := false) (by kernel_rfl) rfl ?_
  refine wp_skip ?_
  refine then_normal ?_
  refine go_seq_region [0, 1, 2, 3, 4, 5] (by kernel_rfl) ?_
  refine go_rn [0, 1] [2, 3, 4, 5] [(19, .p 0 0), (20, .v (.slice A1 dst.length c1))] hW76 hE89 fun a90 hE91 => ?_
  clear hE89
  have hW92 := hW76.addNil 5 1
  have hF93 := hW76.frNil 5 1
  clear hW76
  refine of_op (wpOp_append hW92 hE91 (k := 0) (d := 21) (t := 22) (e := 5) (size := 1) (bytes := 1) (A := none) (As := A1) (m0 := 0) (c := 0) (m := dst.length) (cs := c1) (xs := []) (news := bc dst) (by kernel_rfl) (by kernel_rfl) rfl (hd.move hW92.step nilM hW92.imm).src (hd.move hW92.step nilM hW92.imm).cap (by first | omega | (simp only [List.length_nil]; omega) | (simp; omega)) fun A94 c95 a96 w97 hF98 hW99 hE100 => ?_)
  clear hE91 hW92
  have er101 : (⟨A94, c95, 5, 1, 0 + dst.length, [] ++ bc dst⟩ : Rw) = brow A94 c95 5 dst := by rw [List.nil_append, Nat.zero_add]
  obtain ⟨hW102, hF104⟩ := hW99.rowEq 0 [brow A94 c95 5 dst] er101
  clear hW99
  have hE105 := EnvOk.pick hE100 (ks := [19, 20, 21]) (env' := [(19, .p 0 0), (20, .v (.slice A1 dst.length c1)), (21, .v (.slice A94 (0 + dst.length) c95))]) (by kernel_rfl)
  have hE103 := hE105.cast (env' := [(19, .p 0 0), (20, .v (.slice A1 dst.length c1)), (21, .v (.slice A94 dst.length c95))]) (by simp only [List.length_append, List.length_cons, List.length_nil, Nat.zero_add])
  clear hE100
  clear hE105
  have hk106 := (mvAlterShareGroupOffsetsResponse _ (Fr.trans (Fr.trans hF93 hF98) hF104).step immM (Fr.trans (Fr.trans hF93 hF98) hF104).to' hk82)
  have hat107 := hW102.strImm (G := F) 0 rfl
  have hk_ := mvAlterShareGroupOffsetsResponse _ (Step.refl _ Nil) nilM (fun b o h_ _ => imm_cut h_) hk106
  rw [← hv74] at hroom ⊢
  refine of_op (wpOp_call hE103 (f := 63) (vs := [.pointer (some ⟨b7, 0, none⟩), .slice A94 dst.length c95]) (d := 22) (by kernel_rfl) Tryz.call63 (kAlterShareGroupOffsetsResponse (IntKind.i16.wrap v) D71 b7 0 A94 c95 dst _ _ hat107 hk_ (imm_blk 0 rfl) (hW102.own 0 _ rfl) (by omega)) ?_)
  rintro e_ w110 ⟨A111, c112, rfl, ho113, hs114, hn115⟩
  refine ⟨_, rfl, fun a116 hE117 => ?_⟩
  have hW108 : WOk _ _ _ _ [brow A111 c112 5 (dst ++ aAlterShareGroupOffsetsResponse (IntKind.i16.wrap v) D71)] := hW102.grow (k := 0) rfl hs114 ho113 hn115
  have hF109 := Fr.grow [⟨b7, 0, [.int .i16 (IntKind.i16.wrap v), .int .i32 ((D71.f 0).n), .int .i16 ((D71.f 1).n), .pointer ((D71.f 2).A), .slice ((D71.f 3).A) ((D71.f 3).l) ((D71.f 3).c), .map D71.m], true⟩] (k := 0) (rs := [brow A94 c95 5 dst]) (r' := (brow A111 c112 5 (dst ++ aAlterShareGroupOffsetsResponse (IntKind.i16.wrap v) D71))) rfl hs114 hn115
  clear hE103 hW102
  refine go_rn [4, 5] [] [(6, .v (.slice A111 ((dst ++ aAlterShareGroupOffsetsResponse (IntKind.i16.wrap v) D71).length) c112)), (7, .v (.bool true))] hW108 hE117 fun a119 hE120 => ?_
  clear hE117
  refine wpOps_nil ?_
  refine then_normal ?_
  refine wp_ret ?_
  refine leave hE120 hW108.cells (v := .tuple #[.slice A111 ((dst ++ aAlterShareGroupOffsetsResponse (IntKind.i16.wrap v) D71).length) c112, .bool true]) (by kernel_rfl) ?_
  exact ⟨A111, c112, rfl, own_fresh hW108 (k := 0) rfl rfl (hW108.own 0 _ rfl), hW108.step⟩

end Go.Proofs.YtnhgfbgdoelfoaaGreatDoor.ME

/- Printed by tools/mk.py. Own work. -/
namespace Go.Proofs.YtnhgfbgdoelfoaaGreatDoor.ME
open Go
open Go.RowKit
set_option linter.unusedVariables false
set_option linter.unusedSimpArgs false
set_option maxRecDepth 20000

theorem bhgAlterShareGroupOffsetsResponse (v : Int) (T : Tree) (dst B : Bs) {A1 A2 : Option Addr} {c1 c2 : Nat} {w : World} {F : Nat → Nat → Prop} (hB : tAlterShareGroupOffsetsResponse (IntKind.i16.wrap v) T = B) (hd : Octs w F A1 c1 dst) (hs_ : Octs w F A2 c2 B) (hc : canAlterShareGroupOffsetsResponse T) (hkey : T.ranged) (hroom : dst.length + B.length + 16 ≤ 1099511627776) :
    Calls Tryz.prog 25 #[.int .i64 v, .slice A1 dst.length c1, .slice A2 B.length c2] w (fun e w' => ∃ A c, e = .returned (.tuple #[.slice A (dst ++ B).length c, .bool true]) ∧ w'.ownsRow w.heap.size 5 1 (.slice A (dst ++ B).length c) (dst ++ B).length (bc (dst ++ B)) ∧ Step w w' Nil) := by
  subst hB
  exact bhAlterShareGroupOffsetsResponse v T dst hd hs_ hc hkey hroom

theorem xAlterShareGroupOffsetsResponse (w : World) : Calls Tryz.prog 23 #[] w (Gives w (.int .i64 0)) := by
  refine enter (n := 4) Tryz.func23 rfl Tryz.ntmps23 (by kernel_rfl) fun a hE => ?_
  have hW := WOk.start w Nil
  refine go_sp [] hW hE fun a1 hE2 => ?_
  clear hE
  refine go_seq_region [0, 1, 2, 3] (by kernel_rfl) ?_
  refine of_op (wpOp_inline hE2 (f := 58) (vs := []) (d := 1) (n' := 3) (by kernel_rfl) Tryz.call58 Tryz.func58 rfl Tryz.ntmps58 (by kernel_rfl) fun a3 hE4 => ?_)
  refine go_sp [] hW hE4 fun a5 hE6 => ?_
  clear hE4
  refine go_seq_region [0] (by kernel_rfl) ?_
  refine of_op (wpOp_alloc hW hE6 (d := 1) (cs := [.int .i16 0, .int .i32 0, .int .i16 0, .pointer none, .slice none 0 0, .map none]) (by kernel_rfl) fun b7 a8 w9 hb10 hz11 hF12 hW13 hE14 => ?_)
  clear hE6 hW
  refine wpOps_nil ?_
  refine then_normal ?_
  refine go_seq_region [0] (by kernel_rfl) ?_
  refine of_op (wpOp_inline hE14 (f := 116) (vs := [.pointer (some ⟨b7, 0, none⟩)]) (d := 2) (n' := 2) (by kernel_rfl) Tryz.call116 Tryz.func116 rfl Tryz.ntmps116 (by kernel_rfl) fun a15 hE16 => ?_)
  have hE17 := hE16.recast 0 (.v (.pointer (some ⟨b7, 0, none⟩))) (.p 0 0) rfl rfl (Nat.le_of_ble_eq_true (n := 1) rfl)
  refine wp_skip ?_
  refine leave_end hE17 hW13.cells (v := .tuple #[]) (by kernel_rfl) ?_
  refine ⟨_, rfl, fun a18 hE19 => ?_⟩
  have hE20 : EnvOk 3 [⟨b7, 0, [.int .i16 0, .int .i32 0, .int .i16 0, .pointer none, .slice none 0 0, .map none], true⟩] [(2, .v (.tuple #[])), (1, .p 0 0)] _ := hE19.places (⟨rfl, rfl, trivial⟩)
  refine wpOps_nil ?_
  refine then_normal ?_
  refine go_sp [(0, .p 0 0)] hW13 hE20 fun a21 hE22 => ?_
  clear hE20
  refine wp_ret ?_
  refine leave hE22 hW13.cells (v := .pointer (some ⟨b7, 0, none⟩)) (by kernel_rfl) ?_
  refine ⟨_, rfl, fun a23 hE24 => ?_⟩
  have hE25 : EnvOk 4 [⟨b7, 0, [.int .i16 0, .int .i32 0, .int .i16 0, .pointer none, .slice none 0 0, .map none], true⟩] [(1, .v (.pointer (some ⟨b7, 0, none⟩)))] _ := hE24.places (trivial)
  have hE26 := hE25.recast 1 (.v (.pointer (some ⟨b7, 0, none⟩))) (.p 0 0) rfl rfl (Nat.le_of_ble_eq_true (n := 1) rfl)
  have hE27 := hE26.pick (ks := [1]) (env' := [(1, .p 0 0)]) (by kernel_rfl)
  clear hE25
  clear hE26
  refine of_op (wpOp_inline hE27 (f := 59) (vs := [.pointer (some ⟨b7, 0, none⟩)]) (d := 2) (n' := 3) (by kernel_rfl) Tryz.call59 Tryz.func59 rfl Tryz.ntmps59 (by kernel_rfl) fun a28 hE29 => ?_)
  have hE30 := hE29.recast 0 (.v (.pointer (some ⟨b7, 0, none⟩))) (.p 0 0) rfl rfl (Nat.le_of_ble_eq_true (n := 1) rfl)
  refine go_sp [] hW13 hE30 fun a31 hE32 => ?_
  clear hE30
  refine go_sp [(2, .v (.int .i16 0))] hW13 hE32 fun a33 hE34 => ?_
  clear hE32
  refine wp_ret ?_
  refine leave hE34 hW13.cells (v := .int .i16 0) (by kernel_rfl) ?_
  refine ⟨_, rfl, fun a35 hE36 => ?_⟩
  have hE37 : EnvOk 4 [⟨b7, 0, [.int .i16 0, .int .i32 0, .int .i16 0, .pointer none, .slice none 0 0, .map none], true⟩] [(2, .v (.int .i16 0)), (1, .p 0 0)] _ := hE36.places (⟨rfl, rfl, trivial⟩)
  refine go_rn [2, 3] [] [(0, .v (.int .i64 0))] hW13 hE37 fun a38 hE39 => ?_
  clear hE37
  refine wpOps_nil ?_
  refine then_normal ?_
  refine wp_ret ?_
  refine leave hE39 hW13.cells (v := .int .i64 0) (by kernel_rfl) ?_
  exact ⟨rfl, hW13.step⟩

theorem sAlterShareGroupOffsetsResponse_depth : depths sAlterShareGroupOffsetsResponseF ≤ 8 := by simp [sAlterShareGroupOffsetsResponseF, Fld.depth.depths, Fld.depth]
theorem lawAlterShareGroupOffsetsResponse (x : Int) (hx : 0 ≤ x) (hx' : x < 256) (dst : Bs) {A1 : Option Addr} {c1 : Nat} (ct : List Value) (t : Tree) (w : World) (F : Nat → Nat → Prop) (hd : Octs w F A1 c1 dst) (hdl : dst.length ≤ 1048576) (ht : TreeR w F ct t) (hroom1 : (writeB 8 sAlterShareGroupOffsetsResponseF sAlterShareGroupOffsetsResponseX (Int.tmod x (0 + 1)) t).length ≤ 1099511627776) (hroom : dst.length + (writeB 8 sAlterShareGroupOffsetsResponseF sAlterShareGroupOffsetsResponseX (Int.tmod x (0 + 1)) t).length + 16 ≤ 1099511627776) (hcan : canAlterShareGroupOffsetsResponse (fitT (Int.tmod x (0 + 1)) 8 sAlterShareGroupOffsetsResponseF t)) (hkey : Tree.ranged (fitT (Int.tmod x (0 + 1)) 8 sAlterShareGroupOffsetsResponseF t)) (hpure : tAlterShareGroupOffsetsResponse (IntKind.i16.wrap (Int.tmod x (0 + 1))) (fitT (Int.tmod x (0 + 1)) 8 sAlterShareGroupOffsetsResponseF t) = writeB 8 sAlterShareGroupOffsetsResponseF sAlterShareGroupOffsetsResponseX (Int.tmod x (0 + 1)) t) :
    Calls Tryz.prog 6 #[.int .u8 x, .slice A1 dst.length c1, .agg ct.toArray] w (Gives w (.bool true)) := by
  obtain ⟨n1, s2, b3, l4, u5, A6, c7, A8, c9, A10, c11, xs12, rfl, rfl, h14, h15, h16, h17⟩ := ht.open_
  have hsm19 := h14.small
  have hsm20 := h15.small
  refine enter (n := 52) Tryz.func6 rfl Tryz.ntmps6 (by kernel_rfl) fun a hE => ?_
  have hW := WOk.start w Nil
  have hsm1 := Slots.small hd
  refine go_seq_region [0, 1] (by kernel_rfl) ?_
  refine of_op (wpOp_box hW hE (d := 5) (cs := [.int .i64 n1, .slice A6 s2.length c7, .bool b3, .slice A8 l4.length c9, .slice A10 u5.length c11]) (by kernel_rfl) fun b21 a22 w23 hb24 hz25 hF26 hW27 hE28 => ?_)
  clear hE hW
  refine go_rn [1] [] [(0, .v (.int .u8 x)), (1, .v (.slice A1 dst.length c1)), (5, .p 0 0)] hW27 hE28 fun a29 hE30 => ?_
  clear hE28
  refine wpOps_nil ?_
  refine then_normal ?_
  refine wp_seq ?_
  refine go_seq_region [0, 1, 2, 3, 4, 5, 6, 7] (by kernel_rfl) ?_
  refine go_rn [0, 1, 2, 3] [4, 5, 6, 7] [(0, .v (.int .u8 x)), (1, .v (.slice A1 dst.length c1)), (5, .p 0 0), (16, .v (.bool (decide (((dst.length : Nat) : Int) > 2147483647))))] hW27 hE30 fun a31 hE32 => ?_
  clear hE30
  have hc33 : (decide (((dst.length : Nat) : Int) > 2147483647)) = false := decide_eq_false (by omega)
  have hE34 := hE32.cast (env' := [(0, .v (.int .u8 x)), (1, .v (.slice A1 dst.length c1)), (5, .p 0 0), (16, .v (.bool false))]) (by rw [hc33])
  clear hE32
  refine go_rn [4] [5, 6, 7] [(0, .v (.int .u8 x)), (1, .v (.slice A1 dst.length c1)), (5, .p 0 0), (16, .v (.bool false)), (17, .v (.agg #[.int .i64 n1, .slice A6 s2.length c7, .bool b3, .slice A8 l4.length c9, .slice A10 u5.length c11]))] hW27 hE34 fun a35 hE36 => ?_
  clear hE34
  refine of_op (wpOp_call hE36 (f := 10) (vs := [.agg #[.int .i64 n1, .slice A6 s2.length c7, .bool b3, .slice A8 l4.length c9, .slice A10 u5.length c11]]) (d := 18) (by kernel_rfl) Tryz.call10 (lFits1 _ _ _ _ (ht.move hW27.step nilM hW27.imm)) ?_)
  rintro e_ w39 ⟨b38, rfl, hs37⟩
  refine ⟨_, rfl, fun a40 hE41 => ?_⟩
  have hW42 := hW27.next_nil hs37
  have hF43 := hW27.frN hs37
  clear hE36 hW27
  refine go_rn [6, 7] [] [(0, .v (.int .u8 x)), (1, .v (.slice A1 dst.length c1)), (5, .p 0 0), (20, .v (.bool (!b38)))] hW42 hE41 fun a44 hE45 => ?_
  clear hE41
  refine wpOps_nil ?_
  refine then_normal ?_
  refine cond_of hE45 (b := !b38) (by kernel_rfl) (fun hc46 => ?_) (fun hc46 => ?_)
  ·
    refine go_sp [(6, .v (.bool true))] hW42 hE45 fun a48 hE49 => ?_
    clear hE45
    refine wp_ret ?_
    refine then_ret ?_
    refine leave hE49 hW42.cells (v := .bool true) (by kernel_rfl) ?_
    exact ⟨rfl, hW42.step⟩
  ·
    refine wp_skip ?_
    refine then_normal ?_
    refine go_seq_region [0, 1] (by kernel_rfl) ?_
    refine of_op (wpOp_call hE45 (f := 23) (vs := []) (d := 21) (by kernel_rfl) Tryz.call23 (xAlterShareGroupOffsetsResponse _) ?_)
    rintro e_ w52 ⟨rfl, hs51⟩
    refine ⟨_, rfl, fun a53 hE54 => ?_⟩
    have hW55 := hW42.next_nil hs51
    have hF56 := hW42.frN hs51
    clear hE45 hW42
    refine go_rn [1] [] [(0, .v (.int .u8 x)), (1, .v (.slice A1 dst.length c1)), (5, .p 0 0), (7, .v (.int .i64 0))] hW55 hE54 fun a57 hE58 => ?_
    clear hE54
    refine wpOps_nil ?_
    refine then_normal ?_
    refine wp_seq ?_
    refine go_sp [(0, .v (.int .u8 x)), (1, .v (.slice A1 dst.length c1)), (5, .p 0 0), (7, .v (.int .i64 0)), (23, .v (.bool false))] hW55 hE58 fun a59 hE60 => ?_
    clear hE58
    refine cond_false hE60 (b := false) (by kernel_rfl) rfl ?_
    refine wp_skip ?_
    refine then_normal ?_
    refine go_seq_region [0, 1, 2, 3, 4, 5, 6] (by kernel_rfl) ?_
    refine of_op (wpOp_call hE60 (f := 24) (vs := []) (d := 24) (by kernel_rfl) Tryz.call24 (sAlterShareGroupOffsetsResponse _ (Imm F w w52 [⟨b21, 0, [.int .i64 n1, .slice A6 s2.length c7, .bool b3, .slice A8 l4.length c9, .slice A10 u5.length c11], true⟩] [])) ?_)
    rintro e_ w65 ⟨A63, c64, rfl, hr62, hs61⟩
    obtain ⟨xs66, h67, h68⟩ := hr62.move (Step.refl _ Nil) nilM (hW55.laid (G := F) hs61)
    refine ⟨_, rfl, fun a69 hE70 => ?_⟩
    have hW71 := hW55.next_nil hs61
    have hF72 := hW55.frN hs61
    clear hE60
    refine go_rn [1, 2] [3, 4, 5, 6] [(1, .v (.slice A1 dst.length c1)), (5, .p 0 0), (24, .v (.agg #[.slice A63 sAlterShareGroupOffsetsResponseF.length c64, .int .i64 sAlterShareGroupOffsetsResponseX])), (25, .v (.int .u8 x)), (26, .v (.int .i64 0))] hW71 hE70 fun a73 hE74 => ?_
    clear hE70
    refine of_op (wpOp_call hE74 (f := 13) (vs := [.int .u8 x, .int .i64 0]) (d := 27) (by kernel_rfl) Tryz.call13 (lVersion x 0 hx hx' (by decide) (by decide) _) ?_)
    rintro e_ w76 ⟨rfl, hs75⟩
    refine ⟨_, rfl, fun a77 hE78 => ?_⟩
    have hW79 := hW71.next_nil hs75
    have hF80 := hW71.frN hs75
    clear hE74 hW71
    refine of_op (wpOp_alloc hW79 hE78 (d := 8) (cs := [.slice none 0 0, .int .i64 0]) (by kernel_rfl) fun b81 a82 w83 hb84 hz85 hF86 hW87 hE88 => ?_)
    clear hE78 hW79
    refine of_op (wpOp_store hW87 hE88 (oi := 1) (cs := [.slice A63 sAlterShareGroupOffsetsResponseF.length c64, .int .i64 sAlterShareGroupOffsetsResponseX]) (by kernel_rfl) fun w89 hF90 hW91 hE92 => ?_)
    clear hE88 hW87
    refine go_rn [6] [] [(1, .v (.slice A1 dst.length c1)), (5, .p 0 0), (8, .p 1 0), (9, .v (.int .i64 (Int.tmod x (0 + 1))))] hW91 hE92 fun a93 hE94 => ?_
    clear hE92
    refine wpOps_nil ?_
    refine then_normal ?_
    refine wp_seq ?_
    refine go_sp [(1, .v (.slice A1 dst.length c1)), (5, .p 0 0), (8, .p 1 0), (9, .v (.int .i64 (Int.tmod x (0 + 1)))), (30, .v (.bool (decide (((dst.length : Nat) : Int) > 1000))))] hW91 hE94 fun a95 hE96 => ?_
    clear hE94
    refine cond_of hE96 (b := decide (((dst.length : Nat) : Int) > 1000)) (by kernel_rfl) (fun hc97 => ?_) (fun hc97 => ?_)
    ·
      have hf98 := of_decide_eq_true hc97
      refine go_sp [(6, .v (.bool true))] hW91 hE96 fun a99 hE100 => ?_
      clear hE96
      refine wp_ret ?_
      refine then_ret ?_
      refine leave hE100 hW91.cells (v := .bool true) (by kernel_rfl) ?_
      exact ⟨rfl, hW91.step⟩
    ·
      have hf101 := of_decide_eq_false hc97
      refine wp_skip ?_
      refine then_normal ?_
      refine go_seq_region [0, 1, 2, 3, 4] (by kernel_rfl) ?_
      refine go_rn [0, 1, 2] [3, 4] [(1, .v (.slice A1 dst.length c1)), (9, .v (.int .i64 (Int.tmod x (0 + 1)))), (31, .v (.agg #[.slice A63 sAlterShareGroupOffsetsResponseF.length c64, .int .i64 sAlterShareGroupOffsetsResponseX])), (32, .v (.int .i64 (Int.tmod x (0 + 1)))), (33, .v (.agg #[.int .i64 n1, .slice A6 s2.length c7, .bool b3, .slice A8 l4.length c9, .slice A10 u5.length c11]))] hW91 hE96 fun a102 hE103 => ?_
      clear hE96
      refine of_op (wpOp_call hE103 (f := 14) (vs := [.agg #[.slice A63 sAlterShareGroupOffsetsResponseF.length c64, .int .i64 sAlterShareGroupOffsetsResponseX], .int .i64 (Int.tmod x (0 + 1)), .agg #[.int .i64 n1, .slice A6 s2.length c7, .bool b3, .slice A8 l4.length c9, .slice A10 u5.length c11]]) (d := 34) (by kernel_rfl) Tryz.call14 (sWrite _ _ sAlterShareGroupOffsetsResponseF sAlterShareGroupOffsetsResponseX (Int.tmod x (0 + 1)) _ (Tree.mk n1 s2 b3 l4 u5) _ _ ⟨xs66, (h67.move (Fr.trans (Fr.trans hF80 hF86) hF90).step immM (Fr.trans (Fr.trans hF80 hF86) hF90).to'), (fun i_ x_ h_ => ((h68 i_ x_ h_).move (Fr.trans (Fr.trans hF80 hF86) hF90).step immM (Fr.trans (Fr.trans hF80 hF86) hF90).to'))⟩ sAlterShareGroupOffsetsResponse_depth (ht.move hW91.step nilM hW91.imm) hroom1) ?_)
      rintro e_ w108 ⟨A106, c107, rfl, ho105, hs104⟩
      refine ⟨_, rfl, fun a109 hE110 => ?_⟩
      obtain ⟨hW111, hF112⟩ := hW91.frFresh hs104 (brow A106 c107 5 (writeB 8 sAlterShareGroupOffsetsResponseF sAlterShareGroupOffsetsResponseX (Int.tmod x (0 + 1)) (Tree.mk n1 s2 b3 l4 u5))) (Nat.le_refl _) ho105
      clear hE103 hW91
      refine go_rn [4] [] [(1, .v (.slice A1 dst.length c1)), (9, .v (.int .i64 (Int.tmod x (0 + 1)))), (10, .v (.slice A106 ((writeB 8 sAlterShareGroupOffsetsResponseF sAlterShareGroupOffsetsResponseX (Int.tmod x (0 + 1)) (Tree.mk n1 s2 b3 l4 u5)).length) c107))] hW111 hE110 fun a113 hE114 => ?_
      clear hE110
      refine wpOps_nil ?_
      refine then_normal ?_
      refine go_seq_region [0, 1, 2, 3, 4, 5, 6, 7, 8] (by kernel_rfl) ?_
      refine go_rn [0, 1, 2] [3, 4, 5, 6, 7, 8] [(1, .v (.slice A1 dst.length c1)), (10, .v (.slice A106 ((writeB 8 sAlterShareGroupOffsetsResponseF sAlterShareGroupOffsetsResponseX (Int.tmod x (0 + 1)) (Tree.mk n1 s2 b3 l4 u5)).length) c107)), (36, .v (.int .i64 (Int.tmod x (0 + 1)))), (37, .v (.slice A1 dst.length c1)), (38, .v (.slice A106 ((writeB 8 sAlterShareGroupOffsetsResponseF sAlterShareGroupOffsetsResponseX (Int.tmod x (0 + 1)) (Tree.mk n1 s2 b3 l4 u5)).length) c107))] hW111 hE114 fun a115 hE116 => ?_
      clear hE114
      refine of_op (wpOp_call hE116 (f := 25) (vs := [.int .i64 (Int.tmod x (0 + 1)), .slice A1 dst.length c1, .slice A106 ((writeB 8 sAlterShareGroupOffsetsResponseF sAlterShareGroupOffsetsResponseX (Int.tmod x (0 + 1)) (Tree.mk n1 s2 b3 l4 u5)).length) c107]) (d := 39) (by kernel_rfl) Tryz.call25 (bhgAlterShareGroupOffsetsResponse (Int.tmod x (0 + 1)) _ dst (writeB 8 sAlterShareGroupOffsetsResponseF sAlterShareGroupOffsetsResponseX (Int.tmod x (0 + 1)) (Tree.mk n1 s2 b3 l4 u5)) hpure ((hd.move hW111.step nilM hW111.imm).move (Step.refl _ Nil) nilM allF) (octs_own (hW111.own 0 _ rfl) (by first | omega | (simp only [be_length]; exact Nat.le_trans (widthI_le _) (by decide)) | (have := hroom; omega) | (have := hmade; omega) | (simp only [List.length_append, List.length_nil]; omega)) (F := fun _ _ => True) (fun _ _ _ => trivial)) hcan hkey (by first | omega | (have := hroom1; omega))) ?_)
      rintro e_ w117 ⟨A118, c119, rfl, ho120, hs121⟩
      refine ⟨_, rfl, fun a122 hE123 => ?_⟩
      obtain ⟨hW124, hF125⟩ := hW111.frFresh hs121 (brow A118 c119 5 (dst ++ (writeB 8 sAlterShareGroupOffsetsResponseF sAlterShareGroupOffsetsResponseX (Int.tmod x (0 + 1)) (Tree.mk n1 s2 b3 l4 u5)))) (Nat.le_refl _) ho120
      clear hE116 hW111
      refine go_rn [4, 5, 6, 7, 8] [] [(1, .v (.slice A1 dst.length c1)), (10, .v (.slice A106 ((writeB 8 sAlterShareGroupOffsetsResponseF sAlterShareGroupOffsetsResponseX (Int.tmod x (0 + 1)) (Tree.mk n1 s2 b3 l4 u5)).length) c107)), (11, .v (.slice A118 ((dst ++ (writeB 8 sAlterShareGroupOffsetsResponseF sAlterShareGroupOffsetsResponseX (Int.tmod x (0 + 1)) (Tree.mk n1 s2 b3 l4 u5))).length) c119)), (12, .v (.bool true))] hW124 hE123 fun a126 hE127 => ?_
      clear hE123
      refine wpOps_nil ?_
      refine then_normal ?_
      refine go_seq_region [0, 1, 2, 3, 4, 5, 6, 7, 8, 9, 10] (by kernel_rfl) ?_
      refine go_rn [0, 1, 2] [3, 4, 5, 6, 7, 8, 9, 10] [(1, .v (.slice A1 dst.length c1)), (10, .v (.slice A106 ((writeB 8 sAlterShareGroupOffsetsResponseF sAlterShareGroupOffsetsResponseX (Int.tmod x (0 + 1)) (Tree.mk n1 s2 b3 l4 u5)).length) c107)), (43, .v (.bool true)), (44, .v (.slice A118 ((dst ++ (writeB 8 sAlterShareGroupOffsetsResponseF sAlterShareGroupOffsetsResponseX (Int.tmod x (0 + 1)) (Tree.mk n1 s2 b3 l4 u5))).length) c119))] hW124 hE127 fun a128 hE129 => ?_
      clear hE127
      refine of_op (wpOp_lit hW124 hE129 (e := 5) (size := 1) (len := 0) (cs := []) (d := 45) (by kernel_rfl) (by kernel_rfl) fun b130 a131 w132 hb133 hz134 hF135 hW136 hE137 => ?_)
      clear hE129 hW124
      have er138 : (⟨some ⟨b130, 0, none⟩, 0, 5, 1, 0, []⟩ : Rw) = brow (some ⟨b130, 0, none⟩) 0 5 ([] : Bs) := by first | rfl | (simp only [brow, bc, List.map, by8_wrap]; try rfl)
      obtain ⟨hW139, hF141⟩ := hW136.rowEq 2 [brow A106 c107 5 (writeB 8 sAlterShareGroupOffsetsResponseF sAlterShareGroupOffsetsResponseX (Int.tmod x (0 + 1)) (Tree.mk n1 s2 b3 l4 u5)), brow A118 c119 5 (dst ++ (writeB 8 sAlterShareGroupOffsetsResponseF sAlterShareGroupOffsetsResponseX (Int.tmod x (0 + 1)) (Tree.mk n1 s2 b3 l4 u5))), brow (some ⟨b130, 0, none⟩) 0 5 ([] : Bs)] er138
      clear hW136
      have hE143 := EnvOk.pick hE137 (ks := [1, 10, 43, 44, 45]) (env' := [(1, .v (.slice A1 dst.length c1)), (10, .v (.slice A106 ((writeB 8 sAlterShareGroupOffsetsResponseF sAlterShareGroupOffsetsResponseX (Int.tmod x (0 + 1)) (Tree.mk n1 s2 b3 l4 u5)).length) c107)), (43, .v (.bool true)), (44, .v (.slice A118 ((dst ++ (writeB 8 sAlterShareGroupOffsetsResponseF sAlterShareGroupOffsetsResponseX (Int.tmod x (0 + 1)) (Tree.mk n1 s2 b3 l4 u5))).length) c119)), (45, .v (.slice (some ⟨b130, 0, none⟩) 0 0))]) (by kernel_rfl)
      have hE142 := hE143.cast (env' := [(1, .v (.slice A1 dst.length c1)), (10, .v (.slice A106 ((writeB 8 sAlterShareGroupOffsetsResponseF sAlterShareGroupOffsetsResponseX (Int.tmod x (0 + 1)) (Tree.mk n1 s2 b3 l4 u5)).length) c107)), (43, .v (.bool true)), (44, .v (.slice A118 ((dst ++ (writeB 8 sAlterShareGroupOffsetsResponseF sAlterShareGroupOffsetsResponseX (Int.tmod x (0 + 1)) (Tree.mk n1 s2 b3 l4 u5))).length) c119)), (45, .v (.slice (some ⟨b130, 0, none⟩) (([] : Bs).length) 0))]) rfl
      clear hE137 hE143
      refine go_rn [4] [5, 6, 7, 8, 9, 10] [(10, .v (.slice A106 ((writeB 8 sAlterShareGroupOffsetsResponseF sAlterShareGroupOffsetsResponseX (Int.tmod x (0 + 1)) (Tree.mk n1 s2 b3 l4 u5)).length) c107)), (43, .v (.bool true)), (44, .v (.slice A118 ((dst ++ (writeB 8 sAlterShareGroupOffsetsResponseF sAlterShareGroupOffsetsResponseX (Int.tmod x (0 + 1)) (Tree.mk n1 s2 b3 l4 u5))).length) c119)), (45, .v (.slice (some ⟨b130, 0, none⟩) (([] : Bs).length) 0)), (46, .v (.slice A1 dst.length c1))] hW139 hE142 fun a144 hE145 => ?_
      clear hE142
      refine of_op (wpOp_append hW139 hE145 (k := 2) (d := 47) (t := 22) (e := 5) (size := 1) (bytes := 1) (A := some ⟨b130, 0, none⟩) (As := A1) (m0 := (([] : Bs).length)) (c := 0) (m := dst.length) (cs := c1) (xs := (bc ([] : Bs))) (news := bc dst) (by kernel_rfl) (by kernel_rfl) rfl (hd.move hW139.step nilM hW139.imm).src (hd.move hW139.step nilM hW139.imm).cap (by first | omega | (simp only [List.length_nil, List.length_append]; omega) | (simp; omega)) fun A146 c147 a148 w149 hF150 hW151 hE152 => ?_)
      clear hE145 hW139
      have er153 : (⟨A146, c147, 5, 1, ([] : Bs).length + dst.length, bc ([] : Bs) ++ bc dst⟩ : Rw) = brow A146 c147 5 (([] : Bs) ++ dst) := brow_eq (rfl) rfl
      obtain ⟨hW154, hF156⟩ := hW151.rowEq 2 [brow A106 c107 5 (writeB 8 sAlterShareGroupOffsetsResponseF sAlterShareGroupOffsetsResponseX (Int.tmod x (0 + 1)) (Tree.mk n1 s2 b3 l4 u5)), brow A118 c119 5 (dst ++ (writeB 8 sAlterShareGroupOffsetsResponseF sAlterShareGroupOffsetsResponseX (Int.tmod x (0 + 1)) (Tree.mk n1 s2 b3 l4 u5))), brow A146 c147 5 (([] : Bs) ++ dst)] er153
      clear hW151
      have hE157 := EnvOk.pick hE152 (ks := [10, 43, 44, 45, 46, 47]) (env' := [(10, .v (.slice A106 ((writeB 8 sAlterShareGroupOffsetsResponseF sAlterShareGroupOffsetsResponseX (Int.tmod x (0 + 1)) (Tree.mk n1 s2 b3 l4 u5)).length) c107)), (43, .v (.bool true)), (44, .v (.slice A118 ((dst ++ (writeB 8 sAlterShareGroupOffsetsResponseF sAlterShareGroupOffsetsResponseX (Int.tmod x (0 + 1)) (Tree.mk n1 s2 b3 l4 u5))).length) c119)), (45, .v (.slice (some ⟨b130, 0, none⟩) (([] : Bs).length) 0)), (46, .v (.slice A1 dst.length c1)), (47, .v (.slice A146 (([] : Bs).length + dst.length) c147))]) (by kernel_rfl)
      have hE155 := hE157.cast (env' := [(10, .v (.slice A106 ((writeB 8 sAlterShareGroupOffsetsResponseF sAlterShareGroupOffsetsResponseX (Int.tmod x (0 + 1)) (Tree.mk n1 s2 b3 l4 u5)).length) c107)), (43, .v (.bool true)), (44, .v (.slice A118 ((dst ++ (writeB 8 sAlterShareGroupOffsetsResponseF sAlterShareGroupOffsetsResponseX (Int.tmod x (0 + 1)) (Tree.mk n1 s2 b3 l4 u5))).length) c119)), (45, .v (.slice (some ⟨b130, 0, none⟩) (([] : Bs).length) 0)), (46, .v (.slice A1 dst.length c1)), (47, .v (.slice A146 ((([] : Bs) ++ dst).length) c147))]) (by simp only [List.length_append, List.length_cons, List.length_nil, Nat.zero_add])
      clear hE152
      clear hE157
      refine go_rn [6] [7, 8, 9, 10] [(43, .v (.bool true)), (44, .v (.slice A118 ((dst ++ (writeB 8 sAlterShareGroupOffsetsResponseF sAlterShareGroupOffsetsResponseX (Int.tmod x (0 + 1)) (Tree.mk n1 s2 b3 l4 u5))).length) c119)), (47, .v (.slice A146 ((([] : Bs) ++ dst).length) c147)), (48, .v (.slice A106 ((writeB 8 sAlterShareGroupOffsetsResponseF sAlterShareGroupOffsetsResponseX (Int.tmod x (0 + 1)) (Tree.mk n1 s2 b3 l4 u5)).length) c107))] hW154 hE155 fun a158 hE159 => ?_
      clear hE155
      refine of_op (wpOp_append hW154 hE159 (k := 2) (d := 49) (t := 22) (e := 5) (size := 1) (bytes := 1) (A := A146) (As := A106) (m0 := ((([] : Bs) ++ dst).length)) (c := c147) (m := ((writeB 8 sAlterShareGroupOffsetsResponseF sAlterShareGroupOffsetsResponseX (Int.tmod x (0 + 1)) (Tree.mk n1 s2 b3 l4 u5)).length)) (cs := c107) (xs := (bc (([] : Bs) ++ dst))) (news := bc (writeB 8 sAlterShareGroupOffsetsResponseF sAlterShareGroupOffsetsResponseX (Int.tmod x (0 + 1)) (Tree.mk n1 s2 b3 l4 u5))) (by kernel_rfl) (by kernel_rfl) rfl (own_src (hW154.own 0 _ rfl) (bc_one _)) (own_cap (hW154.own 0 _ rfl)) (by first | omega | (simp only [List.length_nil, List.length_append]; omega) | (simp; omega)) fun A160 c161 a162 w163 hF164 hW165 hE166 => ?_)
      clear hE159 hW154
      have er167 : (⟨A160, c161, 5, 1, (([] : Bs) ++ dst).length + (writeB 8 sAlterShareGroupOffsetsResponseF sAlterShareGroupOffsetsResponseX (Int.tmod x (0 + 1)) (Tree.mk n1 s2 b3 l4 u5)).length, bc (([] : Bs) ++ dst) ++ bc (writeB 8 sAlterShareGroupOffsetsResponseF sAlterShareGroupOffsetsResponseX (Int.tmod x (0 + 1)) (Tree.mk n1 s2 b3 l4 u5))⟩ : Rw) = brow A160 c161 5 (([] : Bs) ++ dst ++ (writeB 8 sAlterShareGroupOffsetsResponseF sAlterShareGroupOffsetsResponseX (Int.tmod x (0 + 1)) (Tree.mk n1 s2 b3 l4 u5))) := brow_eq (rfl) rfl
      obtain ⟨hW168, hF170⟩ := hW165.rowEq 2 [brow A106 c107 5 (writeB 8 sAlterShareGroupOffsetsResponseF sAlterShareGroupOffsetsResponseX (Int.tmod x (0 + 1)) (Tree.mk n1 s2 b3 l4 u5)), brow A118 c119 5 (dst ++ (writeB 8 sAlterShareGroupOffsetsResponseF sAlterShareGroupOffsetsResponseX (Int.tmod x (0 + 1)) (Tree.mk n1 s2 b3 l4 u5))), brow A160 c161 5 (([] : Bs) ++ dst ++ (writeB 8 sAlterShareGroupOffsetsResponseF sAlterShareGroupOffsetsResponseX (Int.tmod x (0 + 1)) (Tree.mk n1 s2 b3 l4 u5)))] er167
      clear hW165
      have hE171 := EnvOk.pick hE166 (ks := [43, 44, 47, 48, 49]) (env' := [(43, .v (.bool true)), (44, .v (.slice A118 ((dst ++ (writeB 8 sAlterShareGroupOffsetsResponseF sAlterShareGroupOffsetsResponseX (Int.tmod x (0 + 1)) (Tree.mk n1 s2 b3 l4 u5))).length) c119)), (47, .v (.slice A146 ((([] : Bs) ++ dst).length) c147)), (48, .v (.slice A106 ((writeB 8 sAlterShareGroupOffsetsResponseF sAlterShareGroupOffsetsResponseX (Int.tmod x (0 + 1)) (Tree.mk n1 s2 b3 l4 u5)).length) c107)), (49, .v (.slice A160 ((([] : Bs) ++ dst).length + (writeB 8 sAlterShareGroupOffsetsResponseF sAlterShareGroupOffsetsResponseX (Int.tmod x (0 + 1)) (Tree.mk n1 s2 b3 l4 u5)).length) c161))]) (by kernel_rfl)
      have hE169 := hE171.cast (env' := [(43, .v (.bool true)), (44, .v (.slice A118 ((dst ++ (writeB 8 sAlterShareGroupOffsetsResponseF sAlterShareGroupOffsetsResponseX (Int.tmod x (0 + 1)) (Tree.mk n1 s2 b3 l4 u5))).length) c119)), (47, .v (.slice A146 ((([] : Bs) ++ dst).length) c147)), (48, .v (.slice A106 ((writeB 8 sAlterShareGroupOffsetsResponseF sAlterShareGroupOffsetsResponseX (Int.tmod x (0 + 1)) (Tree.mk n1 s2 b3 l4 u5)).length) c107)), (49, .v (.slice A160 ((([] : Bs) ++ dst ++ (writeB 8 sAlterShareGroupOffsetsResponseF sAlterShareGroupOffsetsResponseX (Int.tmod x (0 + 1)) (Tree.mk n1 s2 b3 l4 u5))).length) c161))]) (by simp only [List.length_append, List.length_cons, List.length_nil, Nat.zero_add])
      clear hE166
      clear hE171
      refine of_op (wpOp_call hE169 (f := 16) (vs := [.slice A118 ((dst ++ (writeB 8 sAlterShareGroupOffsetsResponseF sAlterShareGroupOffsetsResponseX (Int.tmod x (0 + 1)) (Tree.mk n1 s2 b3 l4 u5))).length) c119, .slice A160 ((([] : Bs) ++ dst ++ (writeB 8 sAlterShareGroupOffsetsResponseF sAlterShareGroupOffsetsResponseX (Int.tmod x (0 + 1)) (Tree.mk n1 s2 b3 l4 u5))).length) c161]) (d := 50) (by kernel_rfl) Tryz.call16 (sSame _ _ _ _ (dst ++ (writeB 8 sAlterShareGroupOffsetsResponseF sAlterShareGroupOffsetsResponseX (Int.tmod x (0 + 1)) (Tree.mk n1 s2 b3 l4 u5))) (([] : Bs) ++ dst ++ (writeB 8 sAlterShareGroupOffsetsResponseF sAlterShareGroupOffsetsResponseX (Int.tmod x (0 + 1)) (Tree.mk n1 s2 b3 l4 u5))) _ _ (octs_own (hW168.own 1 _ rfl) (by first | omega | (simp only [be_length]; exact Nat.le_trans (widthI_le _) (by decide)) | (have := hroom; omega) | (have := hmade; omega) | (simp only [List.length_append, List.length_nil]; omega)) (F := fun _ _ => True) (fun _ _ _ => trivial)) (octs_own (hW168.own 2 _ rfl) (by first | omega | (simp only [be_length]; exact Nat.le_trans (widthI_le _) (by decide)) | (have := hroom; omega) | (have := hmade; omega) | (simp only [List.length_append, List.length_nil]; omega)) (F := fun _ _ => True) (fun _ _ _ => trivial))) ?_)
      rintro e_ w173 ⟨rfl, hs172⟩
      refine ⟨_, rfl, fun a174 hE175 => ?_⟩
      have hW176 := hW168.next_nil hs172
      have hF177 := hW168.frN hs172
      clear hE169 hW168
      refine go_rn [9, 10] [] [(6, .v (.bool (decide (dst ++ (writeB 8 sAlterShareGroupOffsetsResponseF sAlterShareGroupOffsetsResponseX (Int.tmod x (0 + 1)) (Tree.mk n1 s2 b3 l4 u5)) = ([] : Bs) ++ dst ++ (writeB 8 sAlterShareGroupOffsetsResponseF sAlterShareGroupOffsetsResponseX (Int.tmod x (0 + 1)) (Tree.mk n1 s2 b3 l4 u5))))))] hW176 hE175 fun a178 hE179 => ?_
      clear hE175
      refine wpOps_nil ?_
      refine then_normal ?_
      refine wp_ret ?_
      refine leave hE179 hW176.cells (v := .bool (decide (dst ++ (writeB 8 sAlterShareGroupOffsetsResponseF sAlterShareGroupOffsetsResponseX (Int.tmod x (0 + 1)) (Tree.mk n1 s2 b3 l4 u5)) = ([] : Bs) ++ dst ++ (writeB 8 sAlterShareGroupOffsetsResponseF sAlterShareGroupOffsetsResponseX (Int.tmod x (0 + 1)) (Tree.mk n1 s2 b3 l4 u5))))) (by kernel_rfl) ?_
      exact ⟨by simp, hW176.step⟩

theorem closeAlterShareGroupOffsetsResponse (x : Int) (hx : 0 ≤ x ∧ x ≤ 255) (dst : Bs) {A1 : Option Addr} {c1 : Nat} (ct : List Value) (t : Tree) (w : World) (F : Nat → Nat → Prop) (hd : Octs w F A1 c1 dst) (hdl : dst.length ≤ 1048576) (ht : TreeR w F ct t) (hsz : t.size ≤ 8388608) : Calls Tryz.prog 6 #[.int .u8 x, .slice A1 dst.length c1, .agg ct.toArray] w (Gives w (.bool true)) := by
  obtain ⟨g0, g1⟩ := ver_ok (m := 0 + 1) hx.1 hx.2 (by decide) (by decide)
  have hp : tAlterShareGroupOffsetsResponse (IntKind.i16.wrap (Int.tmod x (0 + 1))) (fitT (Int.tmod x (0 + 1)) 8 sAlterShareGroupOffsetsResponseF t) = writeB 8 sAlterShareGroupOffsetsResponseF sAlterShareGroupOffsetsResponseX (Int.tmod x (0 + 1)) t := by rw [i16_small g0 g1]; exact pureAlterShareGroupOffsetsResponse (Int.tmod x (0 + 1)) g0 g1 t
  have h1 := writeB_le 8 sAlterShareGroupOffsetsResponseF sAlterShareGroupOffsetsResponseX (Int.tmod x (0 + 1)) t
  have h2 : costL sAlterShareGroupOffsetsResponseF ≤ 131000 := by decide +kernel
  have h3 := Nat.mul_le_mul h2 hsz
  exact lawAlterShareGroupOffsetsResponse x hx.1 (by omega) dst ct t w F hd hdl ht (by omega) (by omega) (canfitAlterShareGroupOffsetsResponse (Int.tmod x (0 + 1)) t) (ranged_fit _ _ _ _ ht.ranged) hp

end Go.Proofs.YtnhgfbgdoelfoaaGreatDoor.ME

/- FnBehindAlterShareGroupOffsetsResponse: the statement: of every version, every slice of octets and every tree of the bulk that the statement speaks of the law returns true, and leaves its arguments as they are; and the card. Own work. -/
namespace Go.Proofs.YtnhgfbgdoelfoaaGreatDoor.ME
open Go
open Go.ChangeShapes Go.WideShapes Go.ChangeAt Go.RowKit
set_option linter.unusedVariables false
set_option linter.unusedSimpArgs false

theorem ownKnob_ : ownKnob Tryz.prog.godebug = none := by kernel_rfl
theorem laidOut_ : laidOutB Tryz.prog = true := by kernel_rfl
theorem treeTys : TreeTys Tryz.prog 26 23 24 83 22 2 4 81 5 := ⟨by kernel_rfl, by kernel_rfl, by kernel_rfl, by kernel_rfl, by kernel_rfl, by kernel_rfl, by kernel_rfl, by kernel_rfl, by kernel_rfl, by kernel_rfl⟩
theorem open_first {H : Type} {enc : TypeId × Value → H} {P : Program} {W : World} {base b' : Nat} {sp : Nat → Bool} {hd : Bool} {t0 t1 t2 : TypeId} {v0 v1 v2 : Value} {d0 : DataW H} {p0 : List MemPlace} (hu : P.underlying t0 = some (.int .u8))
    (hval : ∀ (j : Nat) (t : TypeId) (v : Value), #[t0, t1, t2][j]? = some t → #[v0, v1, v2][j]? = some v → Value.okWide P W .any base t v) (h : DataW.Trod enc P W b' sp hd t0 v0 d0 p0) : ∃ x, v0 = .int .u8 x ∧ d0 = .lit (.int .u8 x) ∧ p0 = [] ∧ (Lit.int .u8 x).wf = true :=
  open_int hu (hval 0 t0 v0 rfl rfl) h
theorem agg_of {v : Value} {cs : List Value} (h : v.cells.toList = cs) (h5 : cs.length = 5) : v = .agg cs.toArray := by
  subst h
  cases v <;> first | (simp [Value.cells] at h5; done) | simp [Value.cells]
theorem slice_of {A : Option Addr} {n c : Nat} {a : Option Addr} {l k : Nat} (h : (Value.slice a l k).cells.toList = [.slice A n c]) : Value.slice a l k = .slice A n c := by
  simpa [Value.cells] using h

set_option maxRecDepth 100000 in
theorem contract_ (H : Type) (enc : TypeId × Value → H) (W : World) (base : Nat) (args : Array Value) (ds gs : List (DataW H)) (before : List MemPlace)
    (hval : ∀ (j : Nat) t v, Tryz.f6.params[j]? = some t → args[j]? = some v → Value.okWide Tryz.prog W .any base t v)
    (hW : DataW.Whole enc Tryz.prog Tryz.f6.params.toList Rows.fnBehindAlterShareGroupOffsetsResponseSpec.vars false W args.toList ds gs before) (hk : Rows.uptoSmall H (ds ++ gs) = true) :
    Calls Tryz.prog 6 args W fun e W' => ∃ v, e = .returned v ∧ Rows.fnBehindAlterShareGroupOffsetsResponseSpec.post enc Tryz.prog Tryz.f6 false true false false W args v W' := by
  have hW' := hW
  obtain ⟨p, q, hA0, hV, rfl, hfz, hnd⟩ := hW
  have hA : DataW.TrodAll enc Tryz.prog W 0 (fun _ => true) true Tryz.f6.params.toList args.toList ds p := hA0
  rw [Tryz.params6] at hA hval
  obtain ⟨v0, v1, v2, d0, d1, d2, p0, p1, p2, rfl, rfl, rfl, h0, h1, h2⟩ := trodAll_three hA
  obtain ⟨rfl, rfl⟩ := trodVars_none hV
  obtain ⟨x, rfl, rfl, rfl, w0⟩ := open_first Tryz.underlying5 @hval h0
  have hx : 0 ≤ x ∧ x ≤ 255 := by simpa [Lit.wf, IntKind.min, IntKind.max, IntKind.signed, IntKind.bits] using w0
  have hb : Rows.uptoBulk d1 ≤ 1048576 ∧ Rows.uptoBulk d2 ≤ 1048576 := by
    have h : Rows.uptoBulkAll ([DataW.lit (H := H) (.int .u8 x), d1, d2] ++ []) ≤ 1048576 := of_decide_eq_true hk
    simp only [List.append_nil, Rows.uptoBulkAll] at h
    omega
  obtain ⟨fuel1, hf1⟩ := h1
  obtain ⟨A1, c1, dst, hcs1, hd, hdl⟩ := trod_octs treeTys hf1 hb.1
  obtain ⟨a1_, l1_, k1_, rfl⟩ := okWide_slice Tryz.underlying22 (hval 1 22 v1 rfl rfl)
  have hv1 := slice_of hcs1
  rw [hv1] at hW' hval ⊢
  obtain ⟨fuel, hf⟩ := h2
  obtain ⟨t, ht, hsz⟩ := trod_tree treeTys fuel _ _ hf hb.2
  have hdl' : dst.length ≤ 1048576 := Nat.le_trans hdl hb.1
  replace hsz : t.size ≤ 8388608 := Nat.le_trans hsz (by show 8 * Rows.uptoBulk d2 ≤ 8388608; omega)
  have hagg := agg_of rfl ht.five
  generalize v2.cells.toList = ct at ht hagg
  subst hagg
  clear hf hf1
  refine (closeAlterShareGroupOffsetsResponse x hx dst _ t W (fun _ _ => True) hd hdl' ht hsz).mono fun e W' h => ?_
  obtain ⟨rfl, hs⟩ := h
  exact ⟨_, rfl, post_step hW' hs laidOut_ (by rw [Tryz.params6]; decide +kernel) rfl rfl rfl (fun _ _ _ => trodAll_cons_mk (shut_bool Tryz.underlying4 _) trodAll_mk0)⟩

/-- the door's own heap meets the condition -/
theorem door_met (os : Os) (args : Array Value) : laidMetH Tryz.prog Rows.fnBehindAlterShareGroupOffsetsResponseUptoRow.laid ((World.doorLaid Tryz.prog 400 os).forCall (fun _ _ => 0) ⟨#[], args, []⟩).memory :=
  laidMetH_of_parts3 (fuel := 8) (laidMet_of_run' 8 (by kernel_rfl) (by kernel_rfl)) (by kernel_rfl) (by kernel_rfl)

set_option maxRecDepth 100000 in
theorem witness_ (os : Os) (H : Type) (enc : TypeId × Value → H) : ∃ (w : World) (tape : Tape) (i : Input), w.os = os ∧ (w.forCall tape i).Shaped Tryz.prog ∧ i.vars = [] ∧ Input.okWide Tryz.prog (w.forCall tape i) .any w.heap.size 6 i ∧
      (((Rows.OpenSpec.upto Rows.fnBehindAlterShareGroupOffsetsResponseSpec).pre enc Tryz.prog Tryz.f6 Rows.fnBehindAlterShareGroupOffsetsResponseUptoRow.domain false (w.forCall tape i).memory i.args ∧ laidMetH Tryz.prog Rows.fnBehindAlterShareGroupOffsetsResponseUptoRow.laid (w.forCall tape i).memory) ∧ sizedMet enc Tryz.prog Tryz.f6 (Rows.OpenSpec.upto Rows.fnBehindAlterShareGroupOffsetsResponseSpec) false (w.forCall tape i).memory i.args) ∧
      ({} : Assume).holds Tryz.prog (lone (Frame.enter Tryz.prog 6 i.args .normal) [] (w.forCall tape i)) := by
  have hok : Input.okWideB Tryz.prog ((World.doorLaid Tryz.prog 400 os).forCall (fun _ _ => 0) ⟨#[], #[.int .u8 0, .slice none 0 0, .agg #[.int .i64 0, .slice none 0 0, .bool false, .slice none 0 0, .slice none 0 0]], []⟩) 6 ⟨#[], #[.int .u8 0, .slice none 0 0, .agg #[.int .i64 0, .slice none 0 0, .bool false, .slice none 0 0, .slice none 0 0]], []⟩ = true := by kernel_rfl
  refine ⟨World.doorLaid Tryz.prog 400 os, fun _ _ => 0, ⟨#[], #[.int .u8 0, .slice none 0 0, .agg #[.int .i64 0, .slice none 0 0, .bool false, .slice none 0 0, .slice none 0 0]], []⟩, rfl, World.shaped_of_RefB (by kernel_rfl) (by kernel_rfl), (Input.okWide_of_okWideB (base := 0) hok).1, (Input.okWide_of_okWideB hok).2,
    ⟨⟨(OpenSpec.pre_some (k := Rows.uptoSmall) rfl _ _ _ _).2 ⟨[.lit (.int .u8 0), .nil, .agg [.lit (.int .i64 0), .nil, .lit (.bool false), .nil, .nil]], [], [], DataW.Whole_of_whole (fuel := 8) (x := ([.lit (.int .u8 0), .nil, .agg [.lit (.int .i64 0), .nil, .lit (.bool false), .nil, .nil]], [], [])) (by kernel_rfl), rfl, by kernel_rfl⟩, door_met os _⟩, sizedMet_of_sizedB (s := (Rows.OpenSpec.upto Rows.fnBehindAlterShareGroupOffsetsResponseSpec).bare) (fuel := 8) (by kernel_rfl)⟩, ?_⟩
  simp only [Assume.holds]
  exact ⟨by simp, by simp, by simp, by simp, by simp⟩

set_option maxRecDepth 100000 in
theorem lifted_ (os : Os) (started : os.Started) (H : Type) (enc : TypeId × Value → H) (F : Stop.Interp) :
    ReturnsInHanded {} Tryz.checked os 6 .any (fun w args => ((Rows.OpenSpec.upto Rows.fnBehindAlterShareGroupOffsetsResponseSpec).pre enc Tryz.prog Tryz.f6 Rows.fnBehindAlterShareGroupOffsetsResponseUptoRow.domain false w args ∧ laidMetH Tryz.prog Rows.fnBehindAlterShareGroupOffsetsResponseUptoRow.laid w) ∧ sizedMet enc Tryz.prog Tryz.f6 (Rows.OpenSpec.upto Rows.fnBehindAlterShareGroupOffsetsResponseSpec) false w args) (((Rows.OpenSpec.upto Rows.fnBehindAlterShareGroupOffsetsResponseSpec).at F).post enc Tryz.prog Tryz.f6 false true false false) := by
  refine returnsInHanded_of_calls ownKnob_ started (by kernel_rfl) (witness_ os H enc) ?_
  intro w tape i _ _ _ hok hpre hholds
  obtain ⟨_, _, _, fn', hfn', _, _, _, _, hval⟩ := hok
  have e : fn' = Tryz.f6 := Option.some.inj (hfn'.symm.trans Tryz.func6)
  subst e
  obtain ⟨ds, gs, before, hw, hc, hkk⟩ := (OpenSpec.pre_some (k := Rows.uptoSmall) rfl _ _ _ _).1 hpre.1.1
  have hw' := DataW.Whole.of_heap (w' := w.forCall tape i) (by rfl) hw
  refine (contract_ H enc (w.forCall tape i) w.heap.size i.args ds gs before hval hw' hkk).mono fun e W' ⟨v, he, hp⟩ => ?_
  subst he
  exact ChangeSpec.post_blind hp

theorem holds_ : Rows.FnBehindAlterShareGroupOffsetsResponseUptoSaid :=
  OpenClaim.holds_of_cond 6 Tryz.f6 rfl rfl rfl rfl rfl rfl rfl ⟨rfl, rfl, rfl, rfl, rfl⟩ rfl rfl rfl rfl rfl (by kernel_rfl) Tryz.func6 (by kernel_rfl)
    (of_decide_eq_true (by kernel_rfl)) (by unfold Func.isWrapper; first | (rw [if_pos (by decide +kernel)]; kernel_rfl) | (rw [if_neg (by decide +kernel)]; exact ⟨rfl, rfl⟩))
    (fun os started H enc _ F => lifted_ os started H enc F)
end Go.Proofs.YtnhgfbgdoelfoaaGreatDoor.ME
namespace Go.Proofs.YtnhgfbgdoelfoaaGreatDoor
open Go
/-- the card -/
theorem fnBehindAlterShareGroupOffsetsResponse_holds : Rows.FnBehindAlterShareGroupOffsetsResponseUptoCardSaid :=
  Claim7.holds_tied_plain_at .later [] [.sentinel] true (true, "544f600f44352b395bebee5b6e6fddcfa705bf5f980908fbd89542c657c23d94") false ME.holds_ (fun _ h => by cases h) (by kernel_rfl) (fun _ h => by cases h) fnBehindAlterShareGroupOffsetsResponseUpto_row_tie rfl ⟨rfl, rfl⟩ (by kernel_rfl) rfl
    (fun f fn hf hfn => by
      obtain rfl : f = 6 := Option.some.inj ((show Tryz.prog.funcNamed "pub-mailsack/laws.FnBehindAlterShareGroupOffsetsResponse" = some 6 by kernel_rfl).symm.trans hf) |>.symm
      obtain rfl : fn = Tryz.f6 := (Option.some.inj (Tryz.func6.symm.trans hfn)).symm
      exact ⟨by kernel_rfl, fun j t ht => by
        rw [Tryz.params6] at ht
        have hm : t ∈ [5, 22, 26] := by simpa using Array.mem_of_getElem? ht
        have hall : ([5, 22, 26].all fun u => !Tryz.prog.wantsStandIn u) = true := by kernel_rfl
        exact (show Tryz.prog.wantsStandIn t = false by simpa using List.all_eq_true.1 hall t hm)⟩)
    (by kernel_rfl)
end Go.Proofs.YtnhgfbgdoelfoaaGreatDoor
